/- trimmed: of the kit's print those functions alone that FnTextWritten's proof uses -/
/- began as the kit's print; blockable's sizes mended by hand -/
/- FnTextWritten: the Go functions that the law reaches as Lean functions, and that the Go code answers what these answer, for every input and in every world that the statements name. Written by this session's program extprint.py over hand-written contracts of some functions. -/
import Derived.Test.YtfblohdfmaankaaGreatDoorPFnTextWrittenx0
import Derived.Test.YtfblohdfmaankaaGreatDoorPFnTextWrittenx1
import Derived.Test.YtfblohdfmaankaaGreatDoorPFnTextWrittenx2
import Derived.Test.YtfblohdfmaankaaGreatDoorPFnTextWrittenx6
import Derived.Test.YtfblohdfmaankaaGreatDoorPFnTextWrittenx7
namespace Go.Proofs.YtfblohdfmaankaaGreatDoor.PFnTextWritten
open Go.RowKit Go.Proofs.YtfblohdfmaankaaGreatDoorW.PrintWords Go.Proofs.YtfblohdfmaankaaGreatDoorW.PrintLast Go.Proofs.YtfblohdfmaankaaGreatDoorW.PrintMore
attribute [local go_sem] max2_int min2_int max_two min_two max_three min_three max_four min_four   -- for this text's walks alone
set_option linter.unusedVariables false
set_option linter.unusedSimpArgs false

/-! ### spec_blockable: function 30 -/
def spec_blockable.l0 : Nat → ByteArray → Int → Option (Bool)
  | 0, _, _ => none
  | k + 1, x0, x3 => if x3 < (x0.size : Int) then ((spec_Point.f k x0 x3).bind fun bt256 => (if bt256.2 = 0 then (some false) else (if bt256.1 = 9 then (if bt256.1 = 127 then (some false) else (if bt256.1 = 65279 then (some false) else (if bt256.1 > 65535 then (some false) else ((spec_starts.f x0 x3 (⟨#[34, 34, 34]⟩ : ByteArray)).bind fun t258 => (if t258 = true then (some false) else (spec_blockable.l0 k x0 (wrap64 (x3 + bt256.2)))))))) else (if bt256.1 = 10 then (if bt256.1 = 127 then (some false) else (if bt256.1 = 65279 then (some false) else (if bt256.1 > 65535 then (some false) else ((spec_starts.f x0 x3 (⟨#[34, 34, 34]⟩ : ByteArray)).bind fun t259 => (if t259 = true then (some false) else (spec_blockable.l0 k x0 (wrap64 (x3 + bt256.2)))))))) else (if bt256.1 < 32 then (some false) else (if bt256.1 = 127 then (some false) else (if bt256.1 = 65279 then (some false) else (if bt256.1 > 65535 then (some false) else ((spec_starts.f x0 x3 (⟨#[34, 34, 34]⟩ : ByteArray)).bind fun t260 => (if t260 = true then (some false) else (spec_blockable.l0 k x0 (wrap64 (x3 + bt256.2))))))))))))) else (if 1 + x0.size ≤ 9223372036854775807 then (if ((⟨#[10]⟩ : ByteArray) ++ x0).size + 1 ≤ 9223372036854775807 then ((spec_BlockValue.f k (((⟨#[10]⟩ : ByteArray) ++ x0) ++ (⟨#[10]⟩ : ByteArray))).bind fun t254 => (if t254.toList = x0.toList then ((spec_plainBlock.f k (((⟨#[10]⟩ : ByteArray) ++ x0) ++ (⟨#[10]⟩ : ByteArray))).bind fun t255 => (some t255)) else (some false))) else (none)) else (none))
def spec_blockable.f (k : Nat) (a0 : ByteArray) : Option (Bool) := spec_blockable.l0 k a0 0
theorem spec_blockable.mono_l : ∀ k, (∀ y0 y1, LeO (spec_blockable.l0 k y0 y1) (spec_blockable.l0 (k + 1) y0 y1))
  | 0 => fun _ _ r h => by simp [spec_blockable.l0] at h
  | k + 1 => by
    have ih0 := spec_blockable.mono_l k
    · intro y0 y1
      unfold spec_blockable.l0
      repeat' first
      | (with_reducible exact ih0 _ _)
      | (with_reducible exact spec_BlockValue.mono _ _)
      | (with_reducible exact spec_Point.mono _ _ _)
      | (with_reducible exact spec_plainBlock.mono _ _)
      | (with_reducible exact LeO.refl _)
      | (with_reducible exact LeO.none _)
      | (with_reducible refine LeO.ite ?_ ?_)
      | (with_reducible refine LeO.bind ?_ (fun _ => ?_))
      | exact ih0 _ _
      | exact spec_BlockValue.mono _ _
      | exact spec_Point.mono _ _ _
      | exact spec_plainBlock.mono _ _
      | exact LeO.none _
      | refine LeO.ite ?_ ?_
      | refine LeO.bind ?_ (fun _ => ?_)
theorem spec_blockable.mono : ∀ a0 k, LeO (spec_blockable.f k a0) (spec_blockable.f (k + 1) a0) := by
  intro a0 k
  have ih0 := spec_blockable.mono_l k
  unfold spec_blockable.f
  repeat' first
      | (with_reducible exact ih0 _ _)
      | (with_reducible exact spec_BlockValue.mono _ _)
      | (with_reducible exact spec_Point.mono _ _ _)
      | (with_reducible exact spec_plainBlock.mono _ _)
      | (with_reducible exact LeO.refl _)
      | (with_reducible exact LeO.none _)
      | (with_reducible refine LeO.ite ?_ ?_)
      | (with_reducible refine LeO.bind ?_ (fun _ => ?_))
      | exact ih0 _ _
      | exact spec_BlockValue.mono _ _
      | exact spec_Point.mono _ _ _
      | exact spec_plainBlock.mono _ _
      | exact LeO.none _
      | refine LeO.ite ?_ ?_
      | refine LeO.bind ?_ (fun _ => ?_)
set_option maxHeartbeats 8000000 in
set_option maxRecDepth 100000 in
theorem spec_blockable.calls (k : Nat) (a0 : ByteArray) (r : Bool) (w : World) (h : spec_blockable.f k a0 = some r) :
    Calls Tryz.prog 30 #[.string a0] w fun e w' => e = .returned (.bool r) ∧ Below w.heap.size w w' := by
  have HB := Aside0.mk (Below.refl w.heap.size w)
  have H : (spec_blockable.l0 k a0 0) = some r := h
  clear h
  have H' := Aside0.mk H
  clear H
  go_enter Tryz.func30, Tryz.ntmps30
  go_wp2
  go_loopg [3] k (fun kq v3 w' => ∃ (x3_1 : Int), v3 = .int .i64 x3_1 ∧ Aside0 (spec_blockable.l0 kq a0 x3_1 = some r) ∧ Aside0 (kq ≤ k) ∧ Aside0 (Below w.heap.size w w'))
  case atStart => exact ⟨(0), (by first | rfl | (simp; done) | (simp [*]; done)), H', ⟨Nat.le_refl _⟩, ⟨by repeat (first | (with_reducible first | exact HB.out | apply below_alloc | apply pw_below_drewN | apply below_drew1) | exact HB.out)⟩⟩
  case round =>
    clear H'
    obtain ⟨x3_1, rfl, HA, HK1, HB⟩ := hrel
    cases gk with
    | zero => exact absurd HA.out (by simp [spec_blockable.l0])
    | succ k1 =>
      have H := HA.out
      clear HA
      simp only [spec_blockable.l0] at H
      by_cases c2 : x3_1 < (a0.size : Int)
      · rw [if_pos c2] at H
        have c2b0 : decide (x3_1 < (a0.size : Int)) = true := decide_eq_true c2
        clear c2
        replace H := Option.bind_eq_some_iff.mp H
        obtain ⟨⟨t256, t257⟩, A30, H⟩ := H
        replace H : (if t257 = 0 then (some false) else (if t256 = 9 then (if t256 = 127 then (some false) else (if t256 = 65279 then (some false) else (if t256 > 65535 then (some false) else ((spec_starts.f a0 x3_1 (⟨#[34, 34, 34]⟩ : ByteArray)).bind fun t258 => (if t258 = true then (some false) else (spec_blockable.l0 k1 a0 (wrap64 (x3_1 + t257)))))))) else (if t256 = 10 then (if t256 = 127 then (some false) else (if t256 = 65279 then (some false) else (if t256 > 65535 then (some false) else ((spec_starts.f a0 x3_1 (⟨#[34, 34, 34]⟩ : ByteArray)).bind fun t259 => (if t259 = true then (some false) else (spec_blockable.l0 k1 a0 (wrap64 (x3_1 + t257)))))))) else (if t256 < 32 then (some false) else (if t256 = 127 then (some false) else (if t256 = 65279 then (some false) else (if t256 > 65535 then (some false) else ((spec_starts.f a0 x3_1 (⟨#[34, 34, 34]⟩ : ByteArray)).bind fun t260 => (if t260 = true then (some false) else (spec_blockable.l0 k1 a0 (wrap64 (x3_1 + t257)))))))))))) = some r := H
        have A3 := Aside0.mk A30
        clear A30
        by_cases c4 : t257 = 0
        · rw [if_pos c4] at H
          have c4b0 : (t257 == 0) = true := beq_iff_eq.mpr c4
          have c4b1 : (t257 != 0) = false := bne_eq_false_iff_eq.mpr c4
          clear c4
          obtain rfl := Option.some.inj H
          go_wp2_with (first | ((with_reducible refine gate_callee (f := 14) rfl ?_); refine goesL_ (some 13) rfl rfl Tryz.func14 (by kernel_rfl) rfl #[.string a0, .int .i64 x3_1] rfl (by (try simp only [List.map_toArray, List.map_cons, List.map_nil]); first | done | rfl | (simp only [List.length_drop, List.length_take]; rfl)) ?_; (with_reducible refine (spec_Point.calls k1 a0 x3_1 t256 t257 _ A3.out).mono ?_); rintro e w' ⟨rfl, ⟨nd, rfl⟩⟩; refine ⟨_, rfl, ?_⟩))
          go_ret
          exact ⟨by first | rfl | (simp [errW_none, errW_some] <;> rfl) | (simp [*, errW_none, errW_some] <;> rfl), by repeat (first | (with_reducible first | exact HB.out | apply below_alloc | apply pw_below_drewN | apply below_drew1) | exact HB.out)⟩
        · rw [if_neg c4] at H
          have c4b0 : (t257 == 0) = false := beq_eq_false_iff_ne.mpr c4
          have c4b1 : (t257 != 0) = true := bne_iff_ne.mpr c4
          by_cases c5 : t256 = 9
          · rw [if_pos c5] at H
            have c5b0 : (t256 == 9) = true := beq_iff_eq.mpr c5
            have c5b1 : (t256 != 9) = false := bne_eq_false_iff_eq.mpr c5
            clear c5
            by_cases c6 : t256 = 127
            · rw [if_pos c6] at H
              have c6b0 : (t256 == 127) = true := beq_iff_eq.mpr c6
              have c6b1 : (t256 != 127) = false := bne_eq_false_iff_eq.mpr c6
              clear c6
              obtain rfl := Option.some.inj H
              go_wp2_with (first | ((with_reducible refine gate_callee (f := 14) rfl ?_); refine goesL_ (some 13) rfl rfl Tryz.func14 (by kernel_rfl) rfl #[.string a0, .int .i64 x3_1] rfl (by (try simp only [List.map_toArray, List.map_cons, List.map_nil]); first | done | rfl | (simp only [List.length_drop, List.length_take]; rfl)) ?_; (with_reducible refine (spec_Point.calls k1 a0 x3_1 t256 t257 _ A3.out).mono ?_); rintro e w' ⟨rfl, ⟨nd, rfl⟩⟩; refine ⟨_, rfl, ?_⟩))
              go_ret
              exact ⟨by first | rfl | (simp [errW_none, errW_some] <;> rfl) | (simp [*, errW_none, errW_some] <;> rfl), by repeat (first | (with_reducible first | exact HB.out | apply below_alloc | apply pw_below_drewN | apply below_drew1) | exact HB.out)⟩
            · rw [if_neg c6] at H
              have c6b0 : (t256 == 127) = false := beq_eq_false_iff_ne.mpr c6
              have c6b1 : (t256 != 127) = true := bne_iff_ne.mpr c6
              by_cases c7 : t256 = 65279
              · rw [if_pos c7] at H
                have c7b0 : (t256 == 65279) = true := beq_iff_eq.mpr c7
                have c7b1 : (t256 != 65279) = false := bne_eq_false_iff_eq.mpr c7
                clear c7
                obtain rfl := Option.some.inj H
                go_wp2_with (first | ((with_reducible refine gate_callee (f := 14) rfl ?_); refine goesL_ (some 13) rfl rfl Tryz.func14 (by kernel_rfl) rfl #[.string a0, .int .i64 x3_1] rfl (by (try simp only [List.map_toArray, List.map_cons, List.map_nil]); first | done | rfl | (simp only [List.length_drop, List.length_take]; rfl)) ?_; (with_reducible refine (spec_Point.calls k1 a0 x3_1 t256 t257 _ A3.out).mono ?_); rintro e w' ⟨rfl, ⟨nd, rfl⟩⟩; refine ⟨_, rfl, ?_⟩))
                go_ret
                exact ⟨by first | rfl | (simp [errW_none, errW_some] <;> rfl) | (simp [*, errW_none, errW_some] <;> rfl), by repeat (first | (with_reducible first | exact HB.out | apply below_alloc | apply pw_below_drewN | apply below_drew1) | exact HB.out)⟩
              · rw [if_neg c7] at H
                have c7b0 : (t256 == 65279) = false := beq_eq_false_iff_ne.mpr c7
                have c7b1 : (t256 != 65279) = true := bne_iff_ne.mpr c7
                by_cases c8 : t256 > 65535
                · rw [if_pos c8] at H
                  have c8b0 : decide (65535 < t256) = true := decide_eq_true c8
                  clear c8
                  obtain rfl := Option.some.inj H
                  go_wp2_with (first | ((with_reducible refine gate_callee (f := 14) rfl ?_); refine goesL_ (some 13) rfl rfl Tryz.func14 (by kernel_rfl) rfl #[.string a0, .int .i64 x3_1] rfl (by (try simp only [List.map_toArray, List.map_cons, List.map_nil]); first | done | rfl | (simp only [List.length_drop, List.length_take]; rfl)) ?_; (with_reducible refine (spec_Point.calls k1 a0 x3_1 t256 t257 _ A3.out).mono ?_); rintro e w' ⟨rfl, ⟨nd, rfl⟩⟩; refine ⟨_, rfl, ?_⟩))
                  go_ret
                  exact ⟨by first | rfl | (simp [errW_none, errW_some] <;> rfl) | (simp [*, errW_none, errW_some] <;> rfl), by repeat (first | (with_reducible first | exact HB.out | apply below_alloc | apply pw_below_drewN | apply below_drew1) | exact HB.out)⟩
                · rw [if_neg c8] at H
                  have c8b0 : decide (65535 < t256) = false := decide_eq_false c8
                  clear c8
                  replace H := Option.bind_eq_some_iff.mp H
                  obtain ⟨t258, A90, H⟩ := H
                  replace H : (if t258 = true then (some false) else (spec_blockable.l0 k1 a0 (wrap64 (x3_1 + t257)))) = some r := H
                  have A9 := Aside0.mk A90
                  clear A90
                  by_cases c10 : t258 = true
                  · subst c10
                    have H1 : (some false) = some r := by rw [if_pos rfl] at H; exact H
                    clear H
                    have H := H1
                    clear H1
                    obtain rfl := Option.some.inj H
                    go_wp2_with (first | ((with_reducible refine gate_callee (f := 14) rfl ?_); refine goesL_ (some 13) rfl rfl Tryz.func14 (by kernel_rfl) rfl #[.string a0, .int .i64 x3_1] rfl (by (try simp only [List.map_toArray, List.map_cons, List.map_nil]); first | done | rfl | (simp only [List.length_drop, List.length_take]; rfl)) ?_; (with_reducible refine (spec_Point.calls k1 a0 x3_1 t256 t257 _ A3.out).mono ?_); rintro e w' ⟨rfl, ⟨nd, rfl⟩⟩; refine ⟨_, rfl, ?_⟩) | (go_at_call 15; (with_reducible refine (spec_starts.calls a0 x3_1 (⟨#[34, 34, 34]⟩ : ByteArray) true _ A9.out).mono ?_); rintro e w' ⟨rfl, ⟨nd, rfl⟩⟩))
                    go_ret
                    exact ⟨by first | rfl | (simp [errW_none, errW_some] <;> rfl) | (simp [*, errW_none, errW_some] <;> rfl), by repeat (first | (with_reducible first | exact HB.out | apply below_alloc | apply pw_below_drewN | apply below_drew1) | exact HB.out)⟩
                  · replace c10 := Bool.eq_false_iff.mpr c10
                    subst c10
                    have H1 : (spec_blockable.l0 k1 a0 (wrap64 (x3_1 + t257))) = some r := by rw [if_neg (show ¬ (false = true) by decide)] at H; exact H
                    clear H
                    have H := H1
                    clear H1
                    have H' := Aside0.mk H
                    clear H
                    go_wp2_with (first | ((with_reducible refine gate_callee (f := 14) rfl ?_); refine goesL_ (some 13) rfl rfl Tryz.func14 (by kernel_rfl) rfl #[.string a0, .int .i64 x3_1] rfl (by (try simp only [List.map_toArray, List.map_cons, List.map_nil]); first | done | rfl | (simp only [List.length_drop, List.length_take]; rfl)) ?_; (with_reducible refine (spec_Point.calls k1 a0 x3_1 t256 t257 _ A3.out).mono ?_); rintro e w' ⟨rfl, ⟨nd, rfl⟩⟩; refine ⟨_, rfl, ?_⟩) | (go_at_call 15; (with_reducible refine (spec_starts.calls a0 x3_1 (⟨#[34, 34, 34]⟩ : ByteArray) false _ A9.out).mono ?_); rintro e w' ⟨rfl, ⟨nd, rfl⟩⟩))
                    go_roundg k1
                    case measure => have := HK1.out; omega
                    case rel => exact ⟨(wrap64 (x3_1 + t257)), (by first | rfl | (simp; done) | (simp [*]; done)), H', ⟨by have := HK1.out; omega⟩, ⟨by repeat (first | (with_reducible first | exact HB.out | apply below_alloc | apply pw_below_drewN | apply below_drew1) | exact HB.out)⟩⟩
          · rw [if_neg c5] at H
            have c5b0 : (t256 == 9) = false := beq_eq_false_iff_ne.mpr c5
            have c5b1 : (t256 != 9) = true := bne_iff_ne.mpr c5
            by_cases c11 : t256 = 10
            · rw [if_pos c11] at H
              have c11b0 : (t256 == 10) = true := beq_iff_eq.mpr c11
              have c11b1 : (t256 != 10) = false := bne_eq_false_iff_eq.mpr c11
              clear c11
              by_cases c12 : t256 = 127
              · rw [if_pos c12] at H
                have c12b0 : (t256 == 127) = true := beq_iff_eq.mpr c12
                have c12b1 : (t256 != 127) = false := bne_eq_false_iff_eq.mpr c12
                clear c12
                obtain rfl := Option.some.inj H
                go_wp2_with (first | ((with_reducible refine gate_callee (f := 14) rfl ?_); refine goesL_ (some 13) rfl rfl Tryz.func14 (by kernel_rfl) rfl #[.string a0, .int .i64 x3_1] rfl (by (try simp only [List.map_toArray, List.map_cons, List.map_nil]); first | done | rfl | (simp only [List.length_drop, List.length_take]; rfl)) ?_; (with_reducible refine (spec_Point.calls k1 a0 x3_1 t256 t257 _ A3.out).mono ?_); rintro e w' ⟨rfl, ⟨nd, rfl⟩⟩; refine ⟨_, rfl, ?_⟩))
                go_ret
                exact ⟨by first | rfl | (simp [errW_none, errW_some] <;> rfl) | (simp [*, errW_none, errW_some] <;> rfl), by repeat (first | (with_reducible first | exact HB.out | apply below_alloc | apply pw_below_drewN | apply below_drew1) | exact HB.out)⟩
              · rw [if_neg c12] at H
                have c12b0 : (t256 == 127) = false := beq_eq_false_iff_ne.mpr c12
                have c12b1 : (t256 != 127) = true := bne_iff_ne.mpr c12
                by_cases c13 : t256 = 65279
                · rw [if_pos c13] at H
                  have c13b0 : (t256 == 65279) = true := beq_iff_eq.mpr c13
                  have c13b1 : (t256 != 65279) = false := bne_eq_false_iff_eq.mpr c13
                  clear c13
                  obtain rfl := Option.some.inj H
                  go_wp2_with (first | ((with_reducible refine gate_callee (f := 14) rfl ?_); refine goesL_ (some 13) rfl rfl Tryz.func14 (by kernel_rfl) rfl #[.string a0, .int .i64 x3_1] rfl (by (try simp only [List.map_toArray, List.map_cons, List.map_nil]); first | done | rfl | (simp only [List.length_drop, List.length_take]; rfl)) ?_; (with_reducible refine (spec_Point.calls k1 a0 x3_1 t256 t257 _ A3.out).mono ?_); rintro e w' ⟨rfl, ⟨nd, rfl⟩⟩; refine ⟨_, rfl, ?_⟩))
                  go_ret
                  exact ⟨by first | rfl | (simp [errW_none, errW_some] <;> rfl) | (simp [*, errW_none, errW_some] <;> rfl), by repeat (first | (with_reducible first | exact HB.out | apply below_alloc | apply pw_below_drewN | apply below_drew1) | exact HB.out)⟩
                · rw [if_neg c13] at H
                  have c13b0 : (t256 == 65279) = false := beq_eq_false_iff_ne.mpr c13
                  have c13b1 : (t256 != 65279) = true := bne_iff_ne.mpr c13
                  by_cases c14 : t256 > 65535
                  · rw [if_pos c14] at H
                    have c14b0 : decide (65535 < t256) = true := decide_eq_true c14
                    clear c14
                    obtain rfl := Option.some.inj H
                    go_wp2_with (first | ((with_reducible refine gate_callee (f := 14) rfl ?_); refine goesL_ (some 13) rfl rfl Tryz.func14 (by kernel_rfl) rfl #[.string a0, .int .i64 x3_1] rfl (by (try simp only [List.map_toArray, List.map_cons, List.map_nil]); first | done | rfl | (simp only [List.length_drop, List.length_take]; rfl)) ?_; (with_reducible refine (spec_Point.calls k1 a0 x3_1 t256 t257 _ A3.out).mono ?_); rintro e w' ⟨rfl, ⟨nd, rfl⟩⟩; refine ⟨_, rfl, ?_⟩))
                    go_ret
                    exact ⟨by first | rfl | (simp [errW_none, errW_some] <;> rfl) | (simp [*, errW_none, errW_some] <;> rfl), by repeat (first | (with_reducible first | exact HB.out | apply below_alloc | apply pw_below_drewN | apply below_drew1) | exact HB.out)⟩
                  · rw [if_neg c14] at H
                    have c14b0 : decide (65535 < t256) = false := decide_eq_false c14
                    clear c14
                    replace H := Option.bind_eq_some_iff.mp H
                    obtain ⟨t259, A150, H⟩ := H
                    replace H : (if t259 = true then (some false) else (spec_blockable.l0 k1 a0 (wrap64 (x3_1 + t257)))) = some r := H
                    have A15 := Aside0.mk A150
                    clear A150
                    by_cases c16 : t259 = true
                    · subst c16
                      have H1 : (some false) = some r := by rw [if_pos rfl] at H; exact H
                      clear H
                      have H := H1
                      clear H1
                      obtain rfl := Option.some.inj H
                      go_wp2_with (first | ((with_reducible refine gate_callee (f := 14) rfl ?_); refine goesL_ (some 13) rfl rfl Tryz.func14 (by kernel_rfl) rfl #[.string a0, .int .i64 x3_1] rfl (by (try simp only [List.map_toArray, List.map_cons, List.map_nil]); first | done | rfl | (simp only [List.length_drop, List.length_take]; rfl)) ?_; (with_reducible refine (spec_Point.calls k1 a0 x3_1 t256 t257 _ A3.out).mono ?_); rintro e w' ⟨rfl, ⟨nd, rfl⟩⟩; refine ⟨_, rfl, ?_⟩) | (go_at_call 15; (with_reducible refine (spec_starts.calls a0 x3_1 (⟨#[34, 34, 34]⟩ : ByteArray) true _ A15.out).mono ?_); rintro e w' ⟨rfl, ⟨nd, rfl⟩⟩))
                      go_ret
                      exact ⟨by first | rfl | (simp [errW_none, errW_some] <;> rfl) | (simp [*, errW_none, errW_some] <;> rfl), by repeat (first | (with_reducible first | exact HB.out | apply below_alloc | apply pw_below_drewN | apply below_drew1) | exact HB.out)⟩
                    · replace c16 := Bool.eq_false_iff.mpr c16
                      subst c16
                      have H1 : (spec_blockable.l0 k1 a0 (wrap64 (x3_1 + t257))) = some r := by rw [if_neg (show ¬ (false = true) by decide)] at H; exact H
                      clear H
                      have H := H1
                      clear H1
                      have H' := Aside0.mk H
                      clear H
                      go_wp2_with (first | ((with_reducible refine gate_callee (f := 14) rfl ?_); refine goesL_ (some 13) rfl rfl Tryz.func14 (by kernel_rfl) rfl #[.string a0, .int .i64 x3_1] rfl (by (try simp only [List.map_toArray, List.map_cons, List.map_nil]); first | done | rfl | (simp only [List.length_drop, List.length_take]; rfl)) ?_; (with_reducible refine (spec_Point.calls k1 a0 x3_1 t256 t257 _ A3.out).mono ?_); rintro e w' ⟨rfl, ⟨nd, rfl⟩⟩; refine ⟨_, rfl, ?_⟩) | (go_at_call 15; (with_reducible refine (spec_starts.calls a0 x3_1 (⟨#[34, 34, 34]⟩ : ByteArray) false _ A15.out).mono ?_); rintro e w' ⟨rfl, ⟨nd, rfl⟩⟩))
                      go_roundg k1
                      case measure => have := HK1.out; omega
                      case rel => exact ⟨(wrap64 (x3_1 + t257)), (by first | rfl | (simp; done) | (simp [*]; done)), H', ⟨by have := HK1.out; omega⟩, ⟨by repeat (first | (with_reducible first | exact HB.out | apply below_alloc | apply pw_below_drewN | apply below_drew1) | exact HB.out)⟩⟩
            · rw [if_neg c11] at H
              have c11b0 : (t256 == 10) = false := beq_eq_false_iff_ne.mpr c11
              have c11b1 : (t256 != 10) = true := bne_iff_ne.mpr c11
              by_cases c17 : t256 < 32
              · rw [if_pos c17] at H
                have c17b0 : decide (t256 < 32) = true := decide_eq_true c17
                clear c17
                obtain rfl := Option.some.inj H
                go_wp2_with (first | ((with_reducible refine gate_callee (f := 14) rfl ?_); refine goesL_ (some 13) rfl rfl Tryz.func14 (by kernel_rfl) rfl #[.string a0, .int .i64 x3_1] rfl (by (try simp only [List.map_toArray, List.map_cons, List.map_nil]); first | done | rfl | (simp only [List.length_drop, List.length_take]; rfl)) ?_; (with_reducible refine (spec_Point.calls k1 a0 x3_1 t256 t257 _ A3.out).mono ?_); rintro e w' ⟨rfl, ⟨nd, rfl⟩⟩; refine ⟨_, rfl, ?_⟩))
                go_ret
                exact ⟨by first | rfl | (simp [errW_none, errW_some] <;> rfl) | (simp [*, errW_none, errW_some] <;> rfl), by repeat (first | (with_reducible first | exact HB.out | apply below_alloc | apply pw_below_drewN | apply below_drew1) | exact HB.out)⟩
              · rw [if_neg c17] at H
                have c17b0 : decide (t256 < 32) = false := decide_eq_false c17
                clear c17
                by_cases c18 : t256 = 127
                · rw [if_pos c18] at H
                  have c18b0 : (t256 == 127) = true := beq_iff_eq.mpr c18
                  have c18b1 : (t256 != 127) = false := bne_eq_false_iff_eq.mpr c18
                  clear c18
                  obtain rfl := Option.some.inj H
                  go_wp2_with (first | ((with_reducible refine gate_callee (f := 14) rfl ?_); refine goesL_ (some 13) rfl rfl Tryz.func14 (by kernel_rfl) rfl #[.string a0, .int .i64 x3_1] rfl (by (try simp only [List.map_toArray, List.map_cons, List.map_nil]); first | done | rfl | (simp only [List.length_drop, List.length_take]; rfl)) ?_; (with_reducible refine (spec_Point.calls k1 a0 x3_1 t256 t257 _ A3.out).mono ?_); rintro e w' ⟨rfl, ⟨nd, rfl⟩⟩; refine ⟨_, rfl, ?_⟩))
                  go_ret
                  exact ⟨by first | rfl | (simp [errW_none, errW_some] <;> rfl) | (simp [*, errW_none, errW_some] <;> rfl), by repeat (first | (with_reducible first | exact HB.out | apply below_alloc | apply pw_below_drewN | apply below_drew1) | exact HB.out)⟩
                · rw [if_neg c18] at H
                  have c18b0 : (t256 == 127) = false := beq_eq_false_iff_ne.mpr c18
                  have c18b1 : (t256 != 127) = true := bne_iff_ne.mpr c18
                  by_cases c19 : t256 = 65279
                  · rw [if_pos c19] at H
                    have c19b0 : (t256 == 65279) = true := beq_iff_eq.mpr c19
                    have c19b1 : (t256 != 65279) = false := bne_eq_false_iff_eq.mpr c19
                    clear c19
                    obtain rfl := Option.some.inj H
                    go_wp2_with (first | ((with_reducible refine gate_callee (f := 14) rfl ?_); refine goesL_ (some 13) rfl rfl Tryz.func14 (by kernel_rfl) rfl #[.string a0, .int .i64 x3_1] rfl (by (try simp only [List.map_toArray, List.map_cons, List.map_nil]); first | done | rfl | (simp only [List.length_drop, List.length_take]; rfl)) ?_; (with_reducible refine (spec_Point.calls k1 a0 x3_1 t256 t257 _ A3.out).mono ?_); rintro e w' ⟨rfl, ⟨nd, rfl⟩⟩; refine ⟨_, rfl, ?_⟩))
                    go_ret
                    exact ⟨by first | rfl | (simp [errW_none, errW_some] <;> rfl) | (simp [*, errW_none, errW_some] <;> rfl), by repeat (first | (with_reducible first | exact HB.out | apply below_alloc | apply pw_below_drewN | apply below_drew1) | exact HB.out)⟩
                  · rw [if_neg c19] at H
                    have c19b0 : (t256 == 65279) = false := beq_eq_false_iff_ne.mpr c19
                    have c19b1 : (t256 != 65279) = true := bne_iff_ne.mpr c19
                    by_cases c20 : t256 > 65535
                    · rw [if_pos c20] at H
                      have c20b0 : decide (65535 < t256) = true := decide_eq_true c20
                      clear c20
                      obtain rfl := Option.some.inj H
                      go_wp2_with (first | ((with_reducible refine gate_callee (f := 14) rfl ?_); refine goesL_ (some 13) rfl rfl Tryz.func14 (by kernel_rfl) rfl #[.string a0, .int .i64 x3_1] rfl (by (try simp only [List.map_toArray, List.map_cons, List.map_nil]); first | done | rfl | (simp only [List.length_drop, List.length_take]; rfl)) ?_; (with_reducible refine (spec_Point.calls k1 a0 x3_1 t256 t257 _ A3.out).mono ?_); rintro e w' ⟨rfl, ⟨nd, rfl⟩⟩; refine ⟨_, rfl, ?_⟩))
                      go_ret
                      exact ⟨by first | rfl | (simp [errW_none, errW_some] <;> rfl) | (simp [*, errW_none, errW_some] <;> rfl), by repeat (first | (with_reducible first | exact HB.out | apply below_alloc | apply pw_below_drewN | apply below_drew1) | exact HB.out)⟩
                    · rw [if_neg c20] at H
                      have c20b0 : decide (65535 < t256) = false := decide_eq_false c20
                      clear c20
                      replace H := Option.bind_eq_some_iff.mp H
                      obtain ⟨t260, A210, H⟩ := H
                      replace H : (if t260 = true then (some false) else (spec_blockable.l0 k1 a0 (wrap64 (x3_1 + t257)))) = some r := H
                      have A21 := Aside0.mk A210
                      clear A210
                      by_cases c22 : t260 = true
                      · subst c22
                        have H1 : (some false) = some r := by rw [if_pos rfl] at H; exact H
                        clear H
                        have H := H1
                        clear H1
                        obtain rfl := Option.some.inj H
                        go_wp2_with (first | ((with_reducible refine gate_callee (f := 14) rfl ?_); refine goesL_ (some 13) rfl rfl Tryz.func14 (by kernel_rfl) rfl #[.string a0, .int .i64 x3_1] rfl (by (try simp only [List.map_toArray, List.map_cons, List.map_nil]); first | done | rfl | (simp only [List.length_drop, List.length_take]; rfl)) ?_; (with_reducible refine (spec_Point.calls k1 a0 x3_1 t256 t257 _ A3.out).mono ?_); rintro e w' ⟨rfl, ⟨nd, rfl⟩⟩; refine ⟨_, rfl, ?_⟩) | (go_at_call 15; (with_reducible refine (spec_starts.calls a0 x3_1 (⟨#[34, 34, 34]⟩ : ByteArray) true _ A21.out).mono ?_); rintro e w' ⟨rfl, ⟨nd, rfl⟩⟩))
                        go_ret
                        exact ⟨by first | rfl | (simp [errW_none, errW_some] <;> rfl) | (simp [*, errW_none, errW_some] <;> rfl), by repeat (first | (with_reducible first | exact HB.out | apply below_alloc | apply pw_below_drewN | apply below_drew1) | exact HB.out)⟩
                      · replace c22 := Bool.eq_false_iff.mpr c22
                        subst c22
                        have H1 : (spec_blockable.l0 k1 a0 (wrap64 (x3_1 + t257))) = some r := by rw [if_neg (show ¬ (false = true) by decide)] at H; exact H
                        clear H
                        have H := H1
                        clear H1
                        have H' := Aside0.mk H
                        clear H
                        go_wp2_with (first | ((with_reducible refine gate_callee (f := 14) rfl ?_); refine goesL_ (some 13) rfl rfl Tryz.func14 (by kernel_rfl) rfl #[.string a0, .int .i64 x3_1] rfl (by (try simp only [List.map_toArray, List.map_cons, List.map_nil]); first | done | rfl | (simp only [List.length_drop, List.length_take]; rfl)) ?_; (with_reducible refine (spec_Point.calls k1 a0 x3_1 t256 t257 _ A3.out).mono ?_); rintro e w' ⟨rfl, ⟨nd, rfl⟩⟩; refine ⟨_, rfl, ?_⟩) | (go_at_call 15; (with_reducible refine (spec_starts.calls a0 x3_1 (⟨#[34, 34, 34]⟩ : ByteArray) false _ A21.out).mono ?_); rintro e w' ⟨rfl, ⟨nd, rfl⟩⟩))
                        go_roundg k1
                        case measure => have := HK1.out; omega
                        case rel => exact ⟨(wrap64 (x3_1 + t257)), (by first | rfl | (simp; done) | (simp [*]; done)), H', ⟨by have := HK1.out; omega⟩, ⟨by repeat (first | (with_reducible first | exact HB.out | apply below_alloc | apply pw_below_drewN | apply below_drew1) | exact HB.out)⟩⟩
      · rw [if_neg c2] at H
        have c2b0 : decide (x3_1 < (a0.size : Int)) = false := decide_eq_false c2
        clear c2
        by_cases c23 : 1 + a0.size ≤ 9223372036854775807
        · rw [if_pos c23] at H
          have c23b0 := eq_true c23
          try (have c23s := c23; simp only [ByteArray.size_append, ByteArray.size_extract] at c23s)
          have c23b1 : decide (1 + a0.size ≤ 9223372036854775807) = true := decide_eq_true c23
          try have c23b2 : (9223372036854775807 < 1 + a0.size) = False := eq_false (Nat.not_lt.2 c23)
          by_cases c24 : ((⟨#[10]⟩ : ByteArray) ++ a0).size + 1 ≤ 9223372036854775807
          · rw [if_pos c24] at H
            have c24b0 := eq_true c24
            try (have c24s := c24; simp only [ByteArray.size_append, ByteArray.size_extract] at c24s)
            have c24b1 : decide (((⟨#[10]⟩ : ByteArray) ++ a0).size + 1 ≤ 9223372036854775807) = true := decide_eq_true c24
            try have c24b2 : (9223372036854775807 < ((⟨#[10]⟩ : ByteArray) ++ a0).size + 1) = False := eq_false (Nat.not_lt.2 c24)
            have c24t : 1 + a0.size + 1 ≤ 9223372036854775807 := by have h := c24; rw [ByteArray.size_append] at h; exact h
            have c24u : (9223372036854775807 < 1 + a0.size + 1) = False := eq_false (Nat.not_lt.2 c24t)
            have c24v : (1 + a0.size + 1 ≤ 9223372036854775807) = True := eq_true c24t
            replace H := Option.bind_eq_some_iff.mp H
            obtain ⟨t254, A250, H⟩ := H
            replace H : (if t254.toList = a0.toList then ((spec_plainBlock.f k1 (((⟨#[10]⟩ : ByteArray) ++ a0) ++ (⟨#[10]⟩ : ByteArray))).bind fun t255 => (some t255)) else (some false)) = some r := H
            have A25 := Aside0.mk A250
            clear A250
            by_cases c26 : t254.toList = a0.toList
            · rw [if_pos c26] at H
              have c26b0 : (t254.toList == a0.toList) = true := beq_iff_eq.mpr c26
              have c26b1 : (t254.toList != a0.toList) = false := bne_eq_false_iff_eq.mpr c26
              clear c26
              replace H := Option.bind_eq_some_iff.mp H
              obtain ⟨t255, A270, H⟩ := H
              replace H : (some t255) = some r := H
              have A27 := Aside0.mk A270
              clear A270
              obtain rfl := Option.some.inj H
              go_wp2_with (first | ((with_reducible refine gate_callee (f := 56) rfl ?_); refine goesL_ (some 53) rfl rfl Tryz.func56 (by kernel_rfl) rfl #[.string (((⟨#[10]⟩ : ByteArray) ++ a0) ++ (⟨#[10]⟩ : ByteArray))] rfl (by (try simp only [List.map_toArray, List.map_cons, List.map_nil]); first | done | rfl | (simp only [List.length_drop, List.length_take]; rfl)) ?_; (with_reducible refine (spec_BlockValue.calls k1 (((⟨#[10]⟩ : ByteArray) ++ a0) ++ (⟨#[10]⟩ : ByteArray)) t254 _ A25.out).mono ?_); rintro e w28 ⟨rfl, hb⟩; refine ⟨_, rfl, ?_⟩; have n0_ := Aside0.mk (below_step (by repeat (first | (with_reducible first | exact HB.out | apply below_alloc | apply pw_below_drewN | apply below_drew1) | exact HB.out)) hb); clear HB; have HB := n0_; clear n0_; (try clear hb); (try clear hb2); (try clear hk); (try clear hi)) | (go_at_call 57; (with_reducible refine (spec_plainBlock.calls k1 (((⟨#[10]⟩ : ByteArray) ++ a0) ++ (⟨#[10]⟩ : ByteArray)) t255 _ A27.out).mono ?_); rintro e w29 ⟨rfl, hb⟩; have n0_ := Aside0.mk (below_step (by repeat (first | (with_reducible first | exact HB.out | apply below_alloc | apply pw_below_drewN | apply below_drew1) | exact HB.out)) hb); clear HB; have HB := n0_; clear n0_; (try clear hb); (try clear hb2); (try clear hk); (try clear hi)))
              go_ret
              exact ⟨by first | rfl | (simp [errW_none, errW_some] <;> rfl) | (simp [*, errW_none, errW_some] <;> rfl), by repeat (first | (with_reducible first | exact HB.out | apply below_alloc | apply pw_below_drewN | apply below_drew1) | exact HB.out)⟩
            · rw [if_neg c26] at H
              have c26b0 : (t254.toList == a0.toList) = false := beq_eq_false_iff_ne.mpr c26
              have c26b1 : (t254.toList != a0.toList) = true := bne_iff_ne.mpr c26
              obtain rfl := Option.some.inj H
              go_wp2_with (first | ((with_reducible refine gate_callee (f := 56) rfl ?_); refine goesL_ (some 53) rfl rfl Tryz.func56 (by kernel_rfl) rfl #[.string (((⟨#[10]⟩ : ByteArray) ++ a0) ++ (⟨#[10]⟩ : ByteArray))] rfl (by (try simp only [List.map_toArray, List.map_cons, List.map_nil]); first | done | rfl | (simp only [List.length_drop, List.length_take]; rfl)) ?_; (with_reducible refine (spec_BlockValue.calls k1 (((⟨#[10]⟩ : ByteArray) ++ a0) ++ (⟨#[10]⟩ : ByteArray)) t254 _ A25.out).mono ?_); rintro e w30 ⟨rfl, hb⟩; refine ⟨_, rfl, ?_⟩; have n0_ := Aside0.mk (below_step (by repeat (first | (with_reducible first | exact HB.out | apply below_alloc | apply pw_below_drewN | apply below_drew1) | exact HB.out)) hb); clear HB; have HB := n0_; clear n0_; (try clear hb); (try clear hb2); (try clear hk); (try clear hi)))
              go_ret
              exact ⟨by first | rfl | (simp [errW_none, errW_some] <;> rfl) | (simp [*, errW_none, errW_some] <;> rfl), by repeat (first | (with_reducible first | exact HB.out | apply below_alloc | apply pw_below_drewN | apply below_drew1) | exact HB.out)⟩
          · rw [if_neg c24] at H
            exact absurd H (by simp)
        · rw [if_neg c23] at H
          exact absurd H (by simp)

-- NOT PRINTED: function 17 (spec_formed)

/-! ### spec_isValue: function 11 -/
def spec_isValue.f (a0_0 : Int) (a0_1 : ByteArray) (a0_2 : ByteArray) (a0_3 : ByteArray) (a0_4 : Int) (a0_5 : Int) : Option (Bool) := if a0_0 ≥ 11 then (some (decide (a0_0 ≤ 18))) else (some false)
set_option maxHeartbeats 8000000 in
set_option maxRecDepth 100000 in
theorem spec_isValue.calls (a0_0 : Int) (a0_1 : ByteArray) (a0_2 : ByteArray) (a0_3 : ByteArray) (a0_4 : Int) (a0_5 : Int) (r : Bool) (w : World) (h : spec_isValue.f a0_0 a0_1 a0_2 a0_3 a0_4 a0_5 = some r) :
    Calls Tryz.prog 11 #[.agg #[.int .i64 a0_0, .string a0_1, .string a0_2, .string a0_3, .int .i64 a0_4, .int .i64 a0_5]] w fun e w' => e = .returned (.bool r) ∧ Below w.heap.size w w' := by
  have hu25 := Tryz.underlying25
  have HB := Aside0.mk (Below.refl w.heap.size w)
  have H : (if a0_0 ≥ 11 then (some (decide (a0_0 ≤ 18))) else (some false)) = some r := h
  clear h
  by_cases c2 : a0_0 ≥ 11
  · rw [if_pos c2] at H
    have c2b0 : decide (11 ≤ a0_0) = true := decide_eq_true c2
    clear c2
    obtain rfl := Option.some.inj H
    go_enter Tryz.func11, Tryz.ntmps11
    go_wp2_with (first | ((with_reducible refine gate_dst (N := 1) rfl ?_); refine box_event ?hg (N := 1) ?hd (cs := #[.int .i64 a0_0, .string a0_1, .string a0_2, .string a0_3, .int .i64 a0_4, .int .i64 a0_5]) (t := 25) ?hr ?_; (case hd => rfl); (case hg => rfl); (case hr => first | (go_simp; done) | (go_simp; rfl)); intro gb270 hg w3 hbox hb; have n0_ := Aside0.mk (below_step (by repeat (first | (with_reducible first | exact HB.out | apply below_alloc | apply pw_below_drewN | apply below_drew1) | exact HB.out)) hb); have n1_ := Aside0.mk (hbox); have n2_ := Aside0.mk ((by rw [hg]; exact (below_size (by repeat (first | (with_reducible first | exact HB.out | apply below_alloc | apply pw_below_drewN | apply below_drew1) | exact HB.out))) : w.heap.size ≤ gb270)); have n3_ := Aside0.mk ((by rw [hg]; exact (below_size (by repeat (first | (with_reducible first | exact HB.out | apply below_alloc | apply pw_below_drewN | apply below_drew1) | exact HB.out))) : w.heap.size ≤ gb270)); clear HB; have HB := n0_; have BK270 := n1_; have GW270 := n2_; have GE270 := n3_; clear n0_ n1_ n2_ n3_; clear hb hbox hg; have hcz4_0 : w3.cell? ⟨gb270, 0, none⟩ = some (.int .i64 a0_0) := (blk_cell BK270.out 0).trans rfl; have hcz4_1 : w3.cell? ⟨gb270, 1, none⟩ = some (.string a0_1) := (blk_cell BK270.out 1).trans rfl; have hcz4_2 : w3.cell? ⟨gb270, 2, none⟩ = some (.string a0_2) := (blk_cell BK270.out 2).trans rfl; have hcz4_3 : w3.cell? ⟨gb270, 3, none⟩ = some (.string a0_3) := (blk_cell BK270.out 3).trans rfl; have hcz4_4 : w3.cell? ⟨gb270, 4, none⟩ = some (.int .i64 a0_4) := (blk_cell BK270.out 4).trans rfl; have hcz4_5 : w3.cell? ⟨gb270, 5, none⟩ = some (.int .i64 a0_5) := (blk_cell BK270.out 5).trans rfl; have hfz4_0 := blk_frozen BK270.out 0; have hfz4_1 := blk_frozen BK270.out 1; have hfz4_2 := blk_frozen BK270.out 2; have hfz4_3 := blk_frozen BK270.out 3; have hfz4_4 := blk_frozen BK270.out 4; have hfz4_5 := blk_frozen BK270.out 5))
    go_ret
    exact ⟨by first | rfl | (simp [errW_none, errW_some] <;> rfl) | (simp [*, errW_none, errW_some] <;> rfl), by repeat (first | (with_reducible first | exact HB.out | apply below_alloc | apply pw_below_drewN | apply below_drew1 | refine below_set ?_ GE270.out) | exact HB.out)⟩
  · rw [if_neg c2] at H
    have c2b0 : decide (11 ≤ a0_0) = false := decide_eq_false c2
    clear c2
    obtain rfl := Option.some.inj H
    go_enter Tryz.func11, Tryz.ntmps11
    go_wp2_with (first | ((with_reducible refine gate_dst (N := 1) rfl ?_); refine box_event ?hg (N := 1) ?hd (cs := #[.int .i64 a0_0, .string a0_1, .string a0_2, .string a0_3, .int .i64 a0_4, .int .i64 a0_5]) (t := 25) ?hr ?_; (case hd => rfl); (case hg => rfl); (case hr => first | (go_simp; done) | (go_simp; rfl)); intro gb270 hg w5 hbox hb; have n0_ := Aside0.mk (below_step (by repeat (first | (with_reducible first | exact HB.out | apply below_alloc | apply pw_below_drewN | apply below_drew1) | exact HB.out)) hb); have n1_ := Aside0.mk (hbox); have n2_ := Aside0.mk ((by rw [hg]; exact (below_size (by repeat (first | (with_reducible first | exact HB.out | apply below_alloc | apply pw_below_drewN | apply below_drew1) | exact HB.out))) : w.heap.size ≤ gb270)); have n3_ := Aside0.mk ((by rw [hg]; exact (below_size (by repeat (first | (with_reducible first | exact HB.out | apply below_alloc | apply pw_below_drewN | apply below_drew1) | exact HB.out))) : w.heap.size ≤ gb270)); clear HB; have HB := n0_; have BK270 := n1_; have GW270 := n2_; have GE270 := n3_; clear n0_ n1_ n2_ n3_; clear hb hbox hg; have hcz6_0 : w5.cell? ⟨gb270, 0, none⟩ = some (.int .i64 a0_0) := (blk_cell BK270.out 0).trans rfl; have hcz6_1 : w5.cell? ⟨gb270, 1, none⟩ = some (.string a0_1) := (blk_cell BK270.out 1).trans rfl; have hcz6_2 : w5.cell? ⟨gb270, 2, none⟩ = some (.string a0_2) := (blk_cell BK270.out 2).trans rfl; have hcz6_3 : w5.cell? ⟨gb270, 3, none⟩ = some (.string a0_3) := (blk_cell BK270.out 3).trans rfl; have hcz6_4 : w5.cell? ⟨gb270, 4, none⟩ = some (.int .i64 a0_4) := (blk_cell BK270.out 4).trans rfl; have hcz6_5 : w5.cell? ⟨gb270, 5, none⟩ = some (.int .i64 a0_5) := (blk_cell BK270.out 5).trans rfl; have hfz6_0 := blk_frozen BK270.out 0; have hfz6_1 := blk_frozen BK270.out 1; have hfz6_2 := blk_frozen BK270.out 2; have hfz6_3 := blk_frozen BK270.out 3; have hfz6_4 := blk_frozen BK270.out 4; have hfz6_5 := blk_frozen BK270.out 5))
    go_ret
    exact ⟨by first | rfl | (simp [errW_none, errW_some] <;> rfl) | (simp [*, errW_none, errW_some] <;> rfl), by repeat (first | (with_reducible first | exact HB.out | apply below_alloc | apply pw_below_drewN | apply below_drew1 | refine below_set ?_ GE270.out) | exact HB.out)⟩

/-! ### spec_Kids: function 31 -/
def spec_Kids.l0 : Nat → List (S25) → Int → List Int → Int → Option (List Int)
  | 0, _, _, _, _ => none
  | k + 1, x0, x1, x5, x6 => if 0 ≤ x1 then (if x1 < (x0.length : Int) then (if x6 < (wrap64 (x1 + ((rd_T25 x0 x1).f5))) then (if x5.length < 17592186044416 then (if 0 ≤ x6 then (if x6 < (x0.length : Int) then (spec_Kids.l0 k x0 x1 (x5 ++ [x6]) (wrap64 (x6 + ((rd_T25 x0 x6).f5)))) else (none)) else (none)) else (none)) else (some x5)) else (none)) else (none)
def spec_Kids.f (k : Nat) (l0 : List (S25)) (a1 : Int) : Option (List Int) := spec_Kids.l0 k l0 a1 ([] : List Int) (wrap64 (a1 + 1))
theorem spec_Kids.mono_l : ∀ k, (∀ y0 y1 y2 y3, LeO (spec_Kids.l0 k y0 y1 y2 y3) (spec_Kids.l0 (k + 1) y0 y1 y2 y3))
  | 0 => fun _ _ _ _ r h => by simp [spec_Kids.l0] at h
  | k + 1 => by
    have ih0 := spec_Kids.mono_l k
    · intro y0 y1 y2 y3
      unfold spec_Kids.l0
      repeat' first
      | (with_reducible exact ih0 _ _ _ _)
      | (with_reducible exact LeO.refl _)
      | (with_reducible exact LeO.none _)
      | (with_reducible refine LeO.ite ?_ ?_)
      | (with_reducible refine LeO.bind ?_ (fun _ => ?_))
      | exact ih0 _ _ _ _
      | exact LeO.none _
      | refine LeO.ite ?_ ?_
      | refine LeO.bind ?_ (fun _ => ?_)
theorem spec_Kids.mono : ∀ a0 a1 k, LeO (spec_Kids.f k a0 a1) (spec_Kids.f (k + 1) a0 a1) := by
  intro a0 a1 k
  have ih0 := spec_Kids.mono_l k
  unfold spec_Kids.f
  repeat' first
      | (with_reducible exact ih0 _ _ _ _)
      | (with_reducible exact LeO.refl _)
      | (with_reducible exact LeO.none _)
      | (with_reducible refine LeO.ite ?_ ?_)
      | (with_reducible refine LeO.bind ?_ (fun _ => ?_))
      | exact ih0 _ _ _ _
      | exact LeO.none _
      | refine LeO.ite ?_ ?_
      | refine LeO.bind ?_ (fun _ => ?_)
set_option maxHeartbeats 8000000 in
set_option maxRecDepth 100000 in
theorem spec_Kids.calls (k : Nat) (A0 : Option Addr) (c0 : Nat) (l0 : List (S25)) (a1 : Int) (r : List Int) (w : World) (hr0 : Kd.C k25 w A0 l0.length l0) (hc0 : l0.length ≤ c0) (h : spec_Kids.f k l0 a1 = some r) :
    Calls Tryz.prog 31 #[.slice A0 l0.length c0, .int .i64 a1] w fun e w' => ∃ v0_ : Value, e = .returned (v0_) ∧ Kd.R (Kd.int .i64) 3 w' w.heap.size (fun _ => True) v0_ r ∧ Below w.heap.size w w' := by
  have HR0 := Aside0.mk hr0
  have HC0 := Aside0.mk hc0
  clear hr0 hc0
  have HB := Aside0.mk (Below.refl w.heap.size w)
  have H : (spec_Kids.l0 k l0 a1 ([] : List Int) (wrap64 (a1 + 1))) = some r := h
  clear h
  have H' := Aside0.mk H
  clear H
  go_enter Tryz.func31, Tryz.ntmps31
  go_wp2
  go_loopg [5, 6] k (fun kq v5 v6 w' => ∃ (x5_1 : List Int) (x6_1 : Int), v6 = .int .i64 x6_1 ∧ Aside0 (spec_Kids.l0 kq l0 a1 x5_1 x6_1 = some r) ∧ Aside0 (kq ≤ k) ∧ Aside0 (Kd.R (Kd.int .i64) 3 w' w.heap.size (fun _ => True) v5 x5_1) ∧ Aside0 (Below w.heap.size w w'))
  case atStart => exact ⟨(([] : List Int)), (wrap64 (a1 + 1)), (by first | rfl | (simp; done) | (simp [*]; done)), H', ⟨Nat.le_refl _⟩, ⟨by first | exact Kd.R_nil _ _ _ _ _ | exact Kd.N_nil _ _ _ _ _ | exact Kd.V_nil _ _ _ _ _ | exact Kd.Q_nil _ _ _ _ _ | exact Kd.S_nil _ _ _ _ _⟩, ⟨by repeat (first | (with_reducible first | exact HB.out | apply below_alloc | apply pw_below_drewN | apply below_drew1) | exact HB.out)⟩⟩
  case round =>
    clear H'
    try clear p2
    obtain ⟨x5_1, x6_1, rfl, HA, HK1, HO_5, HB⟩ := hrel
    cases gk with
    | zero => exact absurd HA.out (by simp [spec_Kids.l0])
    | succ k1 =>
      have H := HA.out
      clear HA
      simp only [spec_Kids.l0] at H
      by_cases c3 : 0 ≤ a1
      · rw [if_pos c3] at H
        have c3b0 : decide (0 ≤ a1) = true := decide_eq_true c3
        clear c3
        by_cases c4 : a1 < (l0.length : Int)
        · rw [if_pos c4] at H
          have c4b0 : decide (a1 < (l0.length : Int)) = true := decide_eq_true c4
          clear c4
          by_cases c5 : x6_1 < (wrap64 (a1 + ((rd_T25 l0 a1).f5)))
          · rw [if_pos c5] at H
            have c5b0 : decide (x6_1 < (wrap64 (a1 + ((rd_T25 l0 a1).f5)))) = true := decide_eq_true c5
            clear c5
            by_cases c6 : x5_1.length < 17592186044416
            · rw [if_pos c6] at H
              have LMc6 := Aside0.mk c6
              clear c6
              obtain ⟨y272, hy272⟩ : ∃ y_ : List Int, y_ = (x5_1 ++ [x6_1]) := ⟨_, rfl⟩
              replace H : (if 0 ≤ x6_1 then (if x6_1 < (l0.length : Int) then (spec_Kids.l0 k1 l0 a1 y272 (wrap64 (x6_1 + ((rd_T25 l0 x6_1).f5)))) else (none)) else (none)) = some r := by first | (rw [hy272]; with_reducible exact H) | (have H2_ := (Option.bind_some _ _).symm.trans H; rw [hy272]; with_reducible exact H2_) | (have H2_ := (Option.bind_some _ _).symm.trans H; with_reducible exact H2_) | with_reducible exact H | (rw [hy272]; exact H) | exact H
              have Ny272 := Aside0.mk hy272
              clear hy272
              by_cases c7 : 0 ≤ x6_1
              · rw [if_pos c7] at H
                have c7b0 : decide (0 ≤ x6_1) = true := decide_eq_true c7
                clear c7
                by_cases c8 : x6_1 < (l0.length : Int)
                · rw [if_pos c8] at H
                  have c8b0 : decide (x6_1 < (l0.length : Int)) = true := decide_eq_true c8
                  clear c8
                  have H' := Aside0.mk H
                  clear H
                  have p271 : 0 ≤ (a1 : Int) := of_decide_eq_true (by first | (with_reducible assumption) | assumption)
                  have q271 : a1 < (l0.length : Int) := of_decide_eq_true (by first | (with_reducible assumption) | assumption)
                  obtain ⟨ad271, e271, hx271_0, hx271_1, hx271_2, hx271_3, hx271_4, hx271_5⟩ := at_T25 HR0.out a1 p271 q271
                  cases e271
                  replace hx271_0 := (HB.out.cell (World.block_lt_of_cell? w _ hx271_0)).trans hx271_0
                  replace hx271_1 := (HB.out.cell (World.block_lt_of_cell? w _ hx271_1)).trans hx271_1
                  replace hx271_2 := (HB.out.cell (World.block_lt_of_cell? w _ hx271_2)).trans hx271_2
                  replace hx271_3 := (HB.out.cell (World.block_lt_of_cell? w _ hx271_3)).trans hx271_3
                  replace hx271_4 := (HB.out.cell (World.block_lt_of_cell? w _ hx271_4)).trans hx271_4
                  replace hx271_5 := (HB.out.cell (World.block_lt_of_cell? w _ hx271_5)).trans hx271_5
                  replace p271 := eq_true p271
                  replace q271 := eq_true q271
                  go_wp2_with (first | ((with_reducible refine gate_builtin (b := .append) (xs := #[.tmp 25, .tmp 27]) rfl ?_); at_builtin; refine Kd.R_append (Kd.int .i64) (w0 := w) w.heap.size rfl (.tmp 25) (.tmp 27) 97 3 (.int .i64 0) 8 rfl Tryz.underlying97 info3 rfl (by decide) (by omega) u5 x5_1 x6_1 [.int .i64 x6_1] (fun _ => True) (fun _ => False) rfl rfl ?aP (fun _ hk => hk.elim) ?aF ?aO ?aB ?aS ?aL ?_; (case aP => exact rfl); (case aB => exact (by repeat (first | (with_reducible first | exact HB.out | apply below_alloc | apply pw_below_drewN | apply below_drew1) | exact HB.out))); (case aF => exact (fun _ _ => trivial)); (case aO => exact (by (with_reducible repeat (first | apply Kd.R_alloc | apply Kd.R_drewN | apply Kd.R_drew)); exact HO_5.out)); (case aS => exact (below_size (by repeat (first | (with_reducible first | exact HB.out | apply below_alloc | apply pw_below_drewN | apply below_drew1) | exact HB.out)))); (case aL => have := LMc6.out; omega); intro v273 w9 ho hb hg hat; rw [← Ny272.out] at ho; have n0_ := Aside0.mk (hb); have n1_ := Aside0.mk (ho); clear HB; clear HO_5; have HB := n0_; have HO274 := n1_; clear n0_ n1_; clear ho hb hg hat; have p275 : 0 ≤ (x6_1 : Int) := of_decide_eq_true (by first | (with_reducible assumption) | assumption); have q275 : x6_1 < (l0.length : Int) := of_decide_eq_true (by first | (with_reducible assumption) | assumption); obtain ⟨ad275, e275, hx275_0, hx275_1, hx275_2, hx275_3, hx275_4, hx275_5⟩ := at_T25 HR0.out x6_1 p275 q275; obtain rfl : ad271 = ad275 := (by injection e275); replace hx275_0 := (HB.out.cell (World.block_lt_of_cell? w _ hx275_0)).trans hx275_0; replace hx275_1 := (HB.out.cell (World.block_lt_of_cell? w _ hx275_1)).trans hx275_1; replace hx275_2 := (HB.out.cell (World.block_lt_of_cell? w _ hx275_2)).trans hx275_2; replace hx275_3 := (HB.out.cell (World.block_lt_of_cell? w _ hx275_3)).trans hx275_3; replace hx275_4 := (HB.out.cell (World.block_lt_of_cell? w _ hx275_4)).trans hx275_4; replace hx275_5 := (HB.out.cell (World.block_lt_of_cell? w _ hx275_5)).trans hx275_5; replace p275 := eq_true p275; replace q275 := eq_true q275))
                  go_roundg k1
                  case measure => have := HK1.out; omega
                  case rel => exact ⟨(y272), (wrap64 (x6_1 + ((rd_T25 l0 x6_1).f5))), (by first | rfl | (simp; done) | (simp [*]; done)), H', ⟨by have := HK1.out; omega⟩, ⟨by (with_reducible repeat (first | apply Kd.R_alloc | apply Kd.R_drewN | apply Kd.R_drew)); exact HO274.out⟩, ⟨by repeat (first | (with_reducible first | exact HB.out | apply below_alloc | apply pw_below_drewN | apply below_drew1) | exact HB.out)⟩⟩
                · rw [if_neg c8] at H
                  exact absurd H (by simp)
              · rw [if_neg c7] at H
                exact absurd H (by simp)
            · rw [if_neg c6] at H
              exact absurd H (by simp)
          · rw [if_neg c5] at H
            have c5b0 : decide (x6_1 < (wrap64 (a1 + ((rd_T25 l0 a1).f5)))) = false := decide_eq_false c5
            clear c5
            obtain rfl := Option.some.inj H
            have p271 : 0 ≤ (a1 : Int) := of_decide_eq_true (by first | (with_reducible assumption) | assumption)
            have q271 : a1 < (l0.length : Int) := of_decide_eq_true (by first | (with_reducible assumption) | assumption)
            obtain ⟨ad271, e271, hx271_0, hx271_1, hx271_2, hx271_3, hx271_4, hx271_5⟩ := at_T25 HR0.out a1 p271 q271
            cases e271
            replace hx271_0 := (HB.out.cell (World.block_lt_of_cell? w _ hx271_0)).trans hx271_0
            replace hx271_1 := (HB.out.cell (World.block_lt_of_cell? w _ hx271_1)).trans hx271_1
            replace hx271_2 := (HB.out.cell (World.block_lt_of_cell? w _ hx271_2)).trans hx271_2
            replace hx271_3 := (HB.out.cell (World.block_lt_of_cell? w _ hx271_3)).trans hx271_3
            replace hx271_4 := (HB.out.cell (World.block_lt_of_cell? w _ hx271_4)).trans hx271_4
            replace hx271_5 := (HB.out.cell (World.block_lt_of_cell? w _ hx271_5)).trans hx271_5
            replace p271 := eq_true p271
            replace q271 := eq_true q271
            go_wp2
            go_ret
            exact ⟨_, by first | rfl | (simp [errW_none, errW_some] <;> rfl) | (simp [*, errW_none, errW_some] <;> rfl), by (with_reducible repeat (first | apply Kd.R_alloc | apply Kd.R_drewN | apply Kd.R_drew)); exact HO_5.out, by repeat (first | (with_reducible first | exact HB.out | apply below_alloc | apply pw_below_drewN | apply below_drew1) | exact HB.out)⟩
        · rw [if_neg c4] at H
          exact absurd H (by simp)
      · rw [if_neg c3] at H
        exact absurd H (by simp)

-- NOT PRINTED: function 32 (spec_row_all)

/-- A state of type 100 at block g of W; what its slices lead to came in by w0. -/
def IsS100 (w0 W : World) (g : Nat) (f0 : List (S25)) (f1 : List Int) (f2 : Int) : Prop := ∃ A0 c0, ∃ A1 c1, W.heap[g]? = some (.cells #[.slice A0 f0.length c0, .slice A1 f1.length c1, .int .i64 f2] 100 (0, 0)) ∧ w0.heap.size ≤ g ∧ Kd.C k25 w0 A0 f0.length f0 ∧ Kd.C (Kd.int .i64) w0 A1 f1.length f1
theorem IsS100.grown {w0 W : World} {g : Nat} {f0 : List (S25)} {f1 : List Int} {f2 : Int} {W1 : World} {row : Option Nat} (h : IsS100 w0 W g f0 f1 f2) (hw : W.grownBy W1 row) (hne : some g ≠ row) : IsS100 w0 W1 g f0 f1 f2 := by
  obtain ⟨A0, c0, A1, c1, hb, hg, hr0, hr1⟩ := h
  exact ⟨A0, c0, A1, c1, blk_grown hb hw hne, hg, hr0, hr1⟩
theorem IsS100.own_neN {w0 W : World} {g : Nat} {f0 : List (S25)} {f1 : List Int} {f2 : Int} {α : Type} {d : Kd α} {e : Nat} {base : Nat} {ok : Nat → Prop} {v : Value} {xs : List α} (h : IsS100 w0 W g f0 f1 f2) (ho : Kd.N d e W base ok v xs) (ht : e ≠ 100) : some g ≠ v.ownBlock := by
  obtain ⟨A0, c0, A1, c1, hb, hg, hr0, hr1⟩ := h
  exact Kd.N_ne ho hb ht
theorem IsS100.fresh {w0 W : World} {g : Nat} {f0 : List (S25)} {f1 : List Int} {f2 : Int} (h : IsS100 w0 W g f0 f1 f2) : ∀ k, W.heap.size ≤ k → k ≠ g := by
  obtain ⟨A0, c0, A1, c1, hb, hg, hr0, hr1⟩ := h
  exact Kd.freshB hb
theorem IsS100.kept {w0 W : World} {g : Nat} {f0 : List (S25)} {f1 : List Int} {f2 : Int} {W1 : World} {S : Nat → Prop} (h : IsS100 w0 W g f0 f1 f2) (hk : Kept W W1 S) (hne : ¬ S g) : IsS100 w0 W1 g f0 f1 f2 := by
  obtain ⟨A0, c0, A1, c1, hb, hg, hr0, hr1⟩ := h
  exact ⟨A0, c0, A1, c1, blk_kept hb hk hne, hg, hr0, hr1⟩
theorem IsS100.below {w0 W : World} {g : Nat} {f0 : List (S25)} {f1 : List Int} {f2 : Int} {W1 : World} (h : IsS100 w0 W g f0 f1 f2) (hw : Below W.heap.size W W1) : IsS100 w0 W1 g f0 f1 f2 := h.grown (grown_of_below hw none) (by simp)
theorem IsS100.alloc {w0 W : World} {g : Nat} {f0 : List (S25)} {f1 : List Int} {f2 : Int} (h : IsS100 w0 W g f0 f1 f2) (o : Obj) : IsS100 w0 (W.alloc o) g f0 f1 f2 := h.below (below_alloc (Below.refl _ _) o)
theorem IsS100.drewN {w0 W : World} {g : Nat} {f0 : List (S25)} {f1 : List Int} {f2 : Int} (h : IsS100 w0 W g f0 f1 f2) (m : Nat) : IsS100 w0 (W.drewN m) g f0 f1 f2 := h
theorem IsS100.drew {w0 W : World} {g : Nat} {f0 : List (S25)} {f1 : List Int} {f2 : Int} (h : IsS100 w0 W g f0 f1 f2) : IsS100 w0 W.drew g f0 f1 f2 := h
theorem IsS100.at_ {w0 W : World} {g : Nat} {f0 : List (S25)} {f1 : List Int} {f2 : Int} {w' : World} {m : Nat} (hq : W.drewN m = w') (h : IsS100 w0 W g f0 f1 f2) : IsS100 w0 w' g f0 f1 f2 := by subst hq; exact IsS100.drewN h m
theorem IsS100.apart {w0 W : World} {g : Nat} {f0 : List (S25)} {f1 : List Int} {f2 : Int} {α : Type} {d : Kd α} {e : Nat} {base : Nat} {ok : Nat → Prop} {v : Value} {xs : List α} (h : IsS100 w0 W g f0 f1 f2) (ho : d.R e W base ok v xs) (ht : ∀ q, q ∈ e :: d.E → q ≠ 100) : d.R e W base (fun k => ok k ∧ k ≠ g) v xs := by
  obtain ⟨A0, c0, A1, c1, hb, hg, hr0, hr1⟩ := h
  exact Kd.R_types ho hb ht
theorem IsS100.own_ne {w0 W : World} {g : Nat} {f0 : List (S25)} {f1 : List Int} {f2 : Int} {α : Type} {d : Kd α} {e : Nat} {base : Nat} {ok : Nat → Prop} {v : Value} {xs : List α} (h : IsS100 w0 W g f0 f1 f2) (ho : d.R e W base ok v xs) (ht : e ≠ 100) : some g ≠ v.ownBlock := by
  obtain ⟨A0, c0, A1, c1, hb, hg, hr0, hr1⟩ := h
  exact Kd.R_ne ho hb ht
theorem IsS100.apartQ {w0 W : World} {g : Nat} {f0 : List (S25)} {f1 : List Int} {f2 : Int} {α : Type} {d : Kd α} {e : Nat} {base : Nat} {ok : Nat → Prop} {v : Value} {xs : List α} (h : IsS100 w0 W g f0 f1 f2) (ho : d.Q e W base ok v xs) (ht : ∀ q, q ∈ e :: d.E → q ≠ 100) : d.Q e W base (fun k => ok k ∧ k ≠ g) v xs := by
  obtain ⟨A0, c0, A1, c1, hb, hg, hr0, hr1⟩ := h
  exact Kd.Q_types ho hb ht
theorem IsS100.own_neQ {w0 W : World} {g : Nat} {f0 : List (S25)} {f1 : List Int} {f2 : Int} {α : Type} {d : Kd α} {e : Nat} {base : Nat} {ok : Nat → Prop} {v : Value} {xs : List α} (h : IsS100 w0 W g f0 f1 f2) (ho : d.Q e W base ok v xs) (ht : e ≠ 100) : some g ≠ v.ownBlock := by
  obtain ⟨A0, c0, A1, c1, hb, hg, hr0, hr1⟩ := h
  exact Kd.Q_ne ho hb ht
theorem IsS100.apartS {w0 W : World} {g : Nat} {f0 : List (S25)} {f1 : List Int} {f2 : Int} {α : Type} {d : Kd α} {e : Nat} {base : Nat} {ok : Nat → Prop} {v : Value} {xs : List α} (h : IsS100 w0 W g f0 f1 f2) (ho : d.S e W base ok v xs) (ht : ∀ q, q ∈ e :: d.E → q ≠ 100) : d.S e W base (fun k => ok k ∧ k ≠ g) v xs := by
  obtain ⟨A0, c0, A1, c1, hb, hg, hr0, hr1⟩ := h
  exact Kd.S_types ho hb ht
theorem IsS100.own_neS {w0 W : World} {g : Nat} {f0 : List (S25)} {f1 : List Int} {f2 : Int} {α : Type} {d : Kd α} {e : Nat} {base : Nat} {ok : Nat → Prop} {v : Value} {xs : List α} (h : IsS100 w0 W g f0 f1 f2) (ho : d.S e W base ok v xs) (ht : e ≠ 100) : some g ≠ v.ownBlock := by
  obtain ⟨A0, c0, A1, c1, hb, hg, hr0, hr1⟩ := h
  exact Kd.S_ne ho hb ht
theorem IsS100.lt {w0 W : World} {g : Nat} {f0 : List (S25)} {f1 : List Int} {f2 : Int} (h : IsS100 w0 W g f0 f1 f2) : g < W.heap.size := by
  obtain ⟨A0, c0, A1, c1, hb, hg, hr0, hr1⟩ := h
  exact blk_lt hb
theorem IsS100.ge {w0 W : World} {g : Nat} {f0 : List (S25)} {f1 : List Int} {f2 : Int} (h : IsS100 w0 W g f0 f1 f2) : w0.heap.size ≤ g := by
  obtain ⟨A0, c0, A1, c1, hb, hg, hr0, hr1⟩ := h
  exact hg
theorem IsS100.ne_blk {w0 W : World} {g : Nat} {f0 : List (S25)} {f1 : List Int} {f2 : Int} {a : Nat} {cs : Array Value} {t : TypeId} {fr : Nat × Nat} (h : IsS100 w0 W g f0 f1 f2) (hb2 : W.heap[a]? = some (.cells cs t fr)) (ht : t ≠ 100) : g ≠ a := by
  obtain ⟨A0, c0, A1, c1, hb, hg, hr0, hr1⟩ := h
  rintro rfl
  rw [hb] at hb2
  injection hb2 with hb2
  injection hb2 with _ ht2
  exact ht ht2.symm
theorem IsS100.far {w0 W : World} {g : Nat} {f0 : List (S25)} {f1 : List Int} {f2 : Int} {p : Addr} (h : IsS100 w0 W g f0 f1 f2) (hne : g ≠ p.block) (u : Value) : IsS100 w0 (W.setCell p u) g f0 f1 f2 := by
  obtain ⟨A0, c0, A1, c1, hb, hg, hr0, hr1⟩ := h
  exact ⟨A0, c0, A1, c1, blk_far hb hne u, hg, hr0, hr1⟩
theorem cellS100_0 {W : World} {g : Nat} {A0 : Option Addr} {c0 : Nat} {A1 : Option Addr} {c1 : Nat} {f0 : List (S25)} {f1 : List Int} {f2 : Int} (h : W.heap[g]? = some (.cells #[.slice A0 f0.length c0, .slice A1 f1.length c1, .int .i64 f2] 100 (0, 0))) : W.cell? ⟨g, 0, none⟩ = some (.slice A0 f0.length c0) := (blk_cell h 0).trans rfl
theorem cellS100_1 {W : World} {g : Nat} {A0 : Option Addr} {c0 : Nat} {A1 : Option Addr} {c1 : Nat} {f0 : List (S25)} {f1 : List Int} {f2 : Int} (h : W.heap[g]? = some (.cells #[.slice A0 f0.length c0, .slice A1 f1.length c1, .int .i64 f2] 100 (0, 0))) : W.cell? ⟨g, 1, none⟩ = some (.slice A1 f1.length c1) := (blk_cell h 1).trans rfl
theorem cellS100_2 {W : World} {g : Nat} {A0 : Option Addr} {c0 : Nat} {A1 : Option Addr} {c1 : Nat} {f0 : List (S25)} {f1 : List Int} {f2 : Int} (h : W.heap[g]? = some (.cells #[.slice A0 f0.length c0, .slice A1 f1.length c1, .int .i64 f2] 100 (0, 0))) : W.cell? ⟨g, 2, none⟩ = some (.int .i64 f2) := (blk_cell h 2).trans rfl
theorem IsS100.set_2 {w0 W : World} {g : Nat} {f0 : List (S25)} {f1 : List Int} {f2 : Int} (h : IsS100 w0 W g f0 f1 f2) (x : Int) : IsS100 w0 (W.setCell ⟨g, 2, none⟩ (.int .i64 x)) g f0 f1 x := by
  obtain ⟨A0, c0, A1, c1, hb, hg, hr0, hr1⟩ := h
  exact ⟨A0, c0, A1, c1, by simpa using blk_set hb 2 (.int .i64 x), hg, hr0, hr1⟩
theorem IsS100.new (w0 W : World) (A0 : Option Addr) (c0 : Nat) (A1 : Option Addr) (c1 : Nat) (f0 : List (S25)) (f1 : List Int) (f2 : Int) (hB : Below w0.heap.size w0 W) (hr0 : Kd.C k25 w0 A0 f0.length f0) (hr1 : Kd.C (Kd.int .i64) w0 A1 f1.length f1) : IsS100 w0 (W.alloc (.cells #[.slice A0 f0.length c0, .slice A1 f1.length c1, .int .i64 f2] 100)) W.heap.size f0 f1 f2 := ⟨A0, c0, A1, c1, by simpa using heap_alloc_new W _, hB.size, hr0, hr1⟩

end Go.Proofs.YtfblohdfmaankaaGreatDoor.PFnTextWritten
