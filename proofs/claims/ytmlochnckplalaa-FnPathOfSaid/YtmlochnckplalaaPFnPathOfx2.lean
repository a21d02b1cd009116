/- FnPathOf: the Go functions that the law reaches as Lean functions, and that the Go code answers what these answer, for every input and in every world that the statements name. Written by this session's program extprint.py over hand-written contracts of some functions. -/
import Derived.Test.YtmlochnckplalaaPFnPathOfx0
import Derived.Test.YtmlochnckplalaaPFnPathOfx1
namespace Go.Proofs.Ytmlochnckplalaa.PFnPathOf
open Go.RowKit Go.Proofs.YtmlochnckplalaaW.PrintWords Go.Proofs.YtmlochnckplalaaW.PrintLast Go.Proofs.YtmlochnckplalaaW.PrintMore
attribute [local go_sem] max2_int min2_int max_two min_two max_three min_three max_four min_four   -- for this text's walks alone
set_option linter.unusedVariables false
set_option linter.unusedSimpArgs false

attribute [local go_sem high] eqA28
/-! ### laws_zzFits7: function 16 -/
def laws_zzFits7.f (a0_0 : ByteArray) (a0_1 : Int) : Option (Bool) := if (a0_0.size : Int) > 2147483647 then (some false) else (some true)
set_option maxHeartbeats 8000000 in
set_option maxRecDepth 100000 in
theorem laws_zzFits7.calls (a0_0 : ByteArray) (a0_1 : Int) (r : Bool) (w : World) (h : laws_zzFits7.f a0_0 a0_1 = some r) :
    Calls Try.prog 16 #[.agg #[.string a0_0, .int .i64 a0_1]] w fun e w' => e = .returned (.bool r) ∧ Below w.heap.size w w' := by
  have hu28 := Try.underlying28
  have HB := Aside0.mk (Below.refl w.heap.size w)
  have H : (if (a0_0.size : Int) > 2147483647 then (some false) else (some true)) = some r := h
  clear h
  by_cases c2 : (a0_0.size : Int) > 2147483647
  · rw [if_pos c2] at H
    have c2b0 : decide (2147483647 < (a0_0.size : Int)) = true := decide_eq_true c2
    have c2b1 : decide (2147483647 < a0_0.size) = true := decide_eq_true (by omega)
    clear c2
    obtain rfl := Option.some.inj H
    go_enter Try.func16, Try.ntmps16
    go_wp2_with (first | ((with_reducible refine gate_dst (N := 1) rfl ?_); refine box_event ?hg (N := 1) ?hd (cs := #[.string a0_0, .int .i64 a0_1]) (t := 28) ?hr ?_; (case hd => rfl); (case hg => rfl); (case hr => first | (go_simp; done) | (go_simp; rfl)); intro gb101 hg w3 hbox hb; have n0_ := Aside0.mk (below_step (by repeat (first | (with_reducible first | exact HB.out | apply below_alloc | apply pw_below_drewN | apply below_drew1) | exact HB.out)) hb); have n1_ := Aside0.mk (hbox); have n2_ := Aside0.mk ((by rw [hg]; exact (below_size (by repeat (first | (with_reducible first | exact HB.out | apply below_alloc | apply pw_below_drewN | apply below_drew1) | exact HB.out))) : w.heap.size ≤ gb101)); have n3_ := Aside0.mk ((by rw [hg]; exact (below_size (by repeat (first | (with_reducible first | exact HB.out | apply below_alloc | apply pw_below_drewN | apply below_drew1) | exact HB.out))) : w.heap.size ≤ gb101)); clear HB; have HB := n0_; have BK101 := n1_; have GW101 := n2_; have GE101 := n3_; clear n0_ n1_ n2_ n3_; clear hb hbox hg; have hcz4_0 : w3.cell? ⟨gb101, 0, none⟩ = some (.string a0_0) := (blk_cell BK101.out 0).trans rfl; have hcz4_1 : w3.cell? ⟨gb101, 1, none⟩ = some (.int .i64 a0_1) := (blk_cell BK101.out 1).trans rfl; have hfz4_0 := blk_frozen BK101.out 0; have hfz4_1 := blk_frozen BK101.out 1))
    go_ret
    exact ⟨by first | rfl | (simp [errW_none, errW_some] <;> rfl) | (simp [*, errW_none, errW_some] <;> rfl), by repeat (first | (with_reducible first | exact HB.out | apply below_alloc | apply pw_below_drewN | apply below_drew1 | refine below_set ?_ GE101.out) | exact HB.out)⟩
  · rw [if_neg c2] at H
    have c2b0 : decide (2147483647 < (a0_0.size : Int)) = false := decide_eq_false c2
    have c2b1 : decide (2147483647 < a0_0.size) = false := decide_eq_false (by omega)
    clear c2
    obtain rfl := Option.some.inj H
    go_enter Try.func16, Try.ntmps16
    go_wp2_with (first | ((with_reducible refine gate_dst (N := 1) rfl ?_); refine box_event ?hg (N := 1) ?hd (cs := #[.string a0_0, .int .i64 a0_1]) (t := 28) ?hr ?_; (case hd => rfl); (case hg => rfl); (case hr => first | (go_simp; done) | (go_simp; rfl)); intro gb101 hg w5 hbox hb; have n0_ := Aside0.mk (below_step (by repeat (first | (with_reducible first | exact HB.out | apply below_alloc | apply pw_below_drewN | apply below_drew1) | exact HB.out)) hb); have n1_ := Aside0.mk (hbox); have n2_ := Aside0.mk ((by rw [hg]; exact (below_size (by repeat (first | (with_reducible first | exact HB.out | apply below_alloc | apply pw_below_drewN | apply below_drew1) | exact HB.out))) : w.heap.size ≤ gb101)); have n3_ := Aside0.mk ((by rw [hg]; exact (below_size (by repeat (first | (with_reducible first | exact HB.out | apply below_alloc | apply pw_below_drewN | apply below_drew1) | exact HB.out))) : w.heap.size ≤ gb101)); clear HB; have HB := n0_; have BK101 := n1_; have GW101 := n2_; have GE101 := n3_; clear n0_ n1_ n2_ n3_; clear hb hbox hg; have hcz6_0 : w5.cell? ⟨gb101, 0, none⟩ = some (.string a0_0) := (blk_cell BK101.out 0).trans rfl; have hcz6_1 : w5.cell? ⟨gb101, 1, none⟩ = some (.int .i64 a0_1) := (blk_cell BK101.out 1).trans rfl; have hfz6_0 := blk_frozen BK101.out 0; have hfz6_1 := blk_frozen BK101.out 1))
    go_ret
    exact ⟨by first | rfl | (simp [errW_none, errW_some] <;> rfl) | (simp [*, errW_none, errW_some] <;> rfl), by repeat (first | (with_reducible first | exact HB.out | apply below_alloc | apply pw_below_drewN | apply below_drew1 | refine below_set ?_ GE101.out) | exact HB.out)⟩

/-! ### laws_zzFits6: function 8 -/
def laws_zzFits6.l0 : Nat → List (S28) → Int → Int → Option (Bool)
  | 0, _, _, _ => none
  | k + 1, x8, x9, x10 => if x10 < x9 then (if 0 ≤ x10 then (if x10 < (x8.length : Int) then ((laws_zzFits7.f ((rd_T28 x8 x10).f0) ((rd_T28 x8 x10).f1)).bind fun t104 => (if t104 = true then (laws_zzFits6.l0 k x8 x9 (wrap64 (x10 + 1))) else (some false))) else (none)) else (none)) else (some true)
def laws_zzFits6.f (k : Nat) (l0 : List (S28)) : Option (Bool) := if (l0.length : Int) > 2147483647 then (some false) else (laws_zzFits6.l0 k l0 (l0.length : Int) 0)
theorem laws_zzFits6.mono_l : ∀ k, (∀ y0 y1 y2, LeO (laws_zzFits6.l0 k y0 y1 y2) (laws_zzFits6.l0 (k + 1) y0 y1 y2))
  | 0 => fun _ _ _ r h => by simp [laws_zzFits6.l0] at h
  | k + 1 => by
    have ih0 := laws_zzFits6.mono_l k
    · intro y0 y1 y2
      unfold laws_zzFits6.l0
      repeat' first
      | (with_reducible exact ih0 _ _ _)
      | (with_reducible exact LeO.refl _)
      | (with_reducible exact LeO.none _)
      | (with_reducible refine LeO.ite ?_ ?_)
      | (with_reducible refine LeO.bind ?_ (fun _ => ?_))
      | exact ih0 _ _ _
      | exact LeO.none _
      | refine LeO.ite ?_ ?_
      | refine LeO.bind ?_ (fun _ => ?_)
theorem laws_zzFits6.mono : ∀ a0 k, LeO (laws_zzFits6.f k a0) (laws_zzFits6.f (k + 1) a0) := by
  intro a0 k
  have ih0 := laws_zzFits6.mono_l k
  unfold laws_zzFits6.f
  repeat' first
      | (with_reducible exact ih0 _ _ _)
      | (with_reducible exact LeO.refl _)
      | (with_reducible exact LeO.none _)
      | (with_reducible refine LeO.ite ?_ ?_)
      | (with_reducible refine LeO.bind ?_ (fun _ => ?_))
      | exact ih0 _ _ _
      | exact LeO.none _
      | refine LeO.ite ?_ ?_
      | refine LeO.bind ?_ (fun _ => ?_)
set_option maxHeartbeats 8000000 in
set_option maxRecDepth 100000 in
theorem laws_zzFits6.calls (k : Nat) (A0 : Option Addr) (c0 : Nat) (l0 : List (S28)) (r : Bool) (w : World) (hr0 : Kd.C k28 w A0 l0.length l0) (hc0 : l0.length ≤ c0) (h : laws_zzFits6.f k l0 = some r) :
    Calls Try.prog 8 #[.slice A0 l0.length c0] w fun e w' => e = .returned (.bool r) ∧ Below w.heap.size w w' := by
  have hu28 := Try.underlying28
  have HR0 := Aside0.mk hr0
  have HC0 := Aside0.mk hc0
  clear hr0 hc0
  have HB := Aside0.mk (Below.refl w.heap.size w)
  have H : (if (l0.length : Int) > 2147483647 then (some false) else (laws_zzFits6.l0 k l0 (l0.length : Int) 0)) = some r := h
  clear h
  by_cases c2 : (l0.length : Int) > 2147483647
  · rw [if_pos c2] at H
    have c2b0 : decide (2147483647 < (l0.length : Int)) = true := decide_eq_true c2
    have c2b1 : decide (2147483647 < l0.length) = true := decide_eq_true (by omega)
    clear c2
    obtain rfl := Option.some.inj H
    go_enter Try.func8, Try.ntmps8
    go_wp2
    go_ret
    exact ⟨by first | rfl | (simp [errW_none, errW_some] <;> rfl) | (simp [*, errW_none, errW_some] <;> rfl), by repeat (first | (with_reducible first | exact HB.out | apply below_alloc | apply pw_below_drewN | apply below_drew1) | exact HB.out)⟩
  · rw [if_neg c2] at H
    have c2b0 : decide (2147483647 < (l0.length : Int)) = false := decide_eq_false c2
    have c2b1 : decide (2147483647 < l0.length) = false := decide_eq_false (by omega)
    clear c2
    have H' := Aside0.mk H
    clear H
    go_enter Try.func8, Try.ntmps8
    go_wp2
    go_loopg [10] k (fun kq v10 w' => ∃ (x10_1 : Int), v10 = .int .i64 x10_1 ∧ Aside0 (laws_zzFits6.l0 kq l0 (l0.length : Int) x10_1 = some r) ∧ Aside0 (kq ≤ k) ∧ Aside0 (Below w.heap.size w w'))
    case atStart => exact ⟨(0), (by first | rfl | (simp; done) | (simp [*]; done)), H', ⟨Nat.le_refl _⟩, ⟨by repeat (first | (with_reducible first | exact HB.out | apply below_alloc | apply pw_below_drewN | apply below_drew1) | exact HB.out)⟩⟩
    case round =>
      clear H'
      try clear c2
      try clear c2b0
      try clear c2b1
      try clear p2
      obtain ⟨x10_1, rfl, HA, HK1, HB⟩ := hrel
      cases gk with
      | zero => exact absurd HA.out (by simp [laws_zzFits6.l0])
      | succ k1 =>
        have H := HA.out
        clear HA
        simp only [laws_zzFits6.l0] at H
        by_cases c3 : x10_1 < (l0.length : Int)
        · rw [if_pos c3] at H
          have c3b0 : decide (x10_1 < (l0.length : Int)) = true := decide_eq_true c3
          clear c3
          by_cases c4 : 0 ≤ x10_1
          · rw [if_pos c4] at H
            have c4b0 : decide (0 ≤ x10_1) = true := decide_eq_true c4
            clear c4
            by_cases c5 : x10_1 < (l0.length : Int)
            · rw [if_pos c5] at H
              have c5b0 : decide (x10_1 < (l0.length : Int)) = true := decide_eq_true c5
              clear c5
              replace H := Option.bind_eq_some_iff.mp H
              obtain ⟨t104, A60, H⟩ := H
              replace H : (if t104 = true then (laws_zzFits6.l0 k1 l0 (l0.length : Int) (wrap64 (x10_1 + 1))) else (some false)) = some r := H
              have A6 := Aside0.mk A60
              clear A60
              by_cases c7 : t104 = true
              · subst c7
                have H1 : (laws_zzFits6.l0 k1 l0 (l0.length : Int) (wrap64 (x10_1 + 1))) = some r := by rw [if_pos rfl] at H; exact H
                clear H
                have H := H1
                clear H1
                have H' := Aside0.mk H
                clear H
                have p102 : 0 ≤ (x10_1 : Int) := of_decide_eq_true (by first | (with_reducible assumption) | assumption)
                have q102 : x10_1 < (l0.length : Int) := of_decide_eq_true (by first | (with_reducible assumption) | assumption)
                obtain ⟨ad102, e102, hx102_0, hx102_1⟩ := at_T28 HR0.out x10_1 p102 q102
                cases e102
                replace hx102_0 := (HB.out.cell (World.block_lt_of_cell? w _ hx102_0)).trans hx102_0
                replace hx102_1 := (HB.out.cell (World.block_lt_of_cell? w _ hx102_1)).trans hx102_1
                replace p102 := eq_true p102
                replace q102 := eq_true q102
                go_wp2_with (first | ((with_reducible refine gate_dst (N := 4) rfl ?_); refine box_event ?hg (N := 4) ?hd (cs := #[.string (⟨#[]⟩ : ByteArray), .int .i64 0]) (t := 28) ?hr ?_; (case hd => rfl); (case hg => rfl); (case hr => first | (go_simp; done) | (go_simp; rfl)); intro gb103 hg w8 hbox hb; have n0_ := Aside0.mk (below_step (by repeat (first | (with_reducible first | exact HB.out | apply below_alloc | apply pw_below_drewN | apply below_drew1) | exact HB.out)) hb); have n1_ := Aside0.mk (hbox); have n2_ := Aside0.mk ((by rw [hg]; exact (below_size (by repeat (first | (with_reducible first | exact HB.out | apply below_alloc | apply pw_below_drewN | apply below_drew1) | exact HB.out))) : w.heap.size ≤ gb103)); have n3_ := Aside0.mk ((by rw [hg]; exact (below_size (by repeat (first | (with_reducible first | exact HB.out | apply below_alloc | apply pw_below_drewN | apply below_drew1) | exact HB.out))) : w.heap.size ≤ gb103)); clear HB; have HB := n0_; have BK103 := n1_; have GW103 := n2_; have GE103 := n3_; clear n0_ n1_ n2_ n3_; clear hb hbox hg; have hcz9_0 : w8.cell? ⟨gb103, 0, none⟩ = some (.string (⟨#[]⟩ : ByteArray)) := (blk_cell BK103.out 0).trans rfl; have hcz9_1 : w8.cell? ⟨gb103, 1, none⟩ = some (.int .i64 0) := (blk_cell BK103.out 1).trans rfl; have hfz9_0 := blk_frozen BK103.out 0; have hfz9_1 := blk_frozen BK103.out 1) | ((with_reducible refine gate_callee (f := 16) rfl ?_); refine goesL_ (some 15) rfl rfl Try.func16 (by kernel_rfl) rfl #[.agg #[.string ((rd_T28 l0 x10_1).f0), .int .i64 ((rd_T28 l0 x10_1).f1)]] rfl (by (try simp only [List.map_toArray, List.map_cons, List.map_nil]); first | done | rfl | (simp only [List.length_drop, List.length_take]; rfl)) ?_; (with_reducible refine (laws_zzFits7.calls ((rd_T28 l0 x10_1).f0) ((rd_T28 l0 x10_1).f1) true _ A6.out).mono ?_); rintro e w10 ⟨rfl, hb⟩; refine ⟨_, rfl, ?_⟩; have n0_ := Aside0.mk (blk_below (g := gb103) (o := .cells #[.string ((rd_T28 l0 x10_1).f0), .int .i64 ((rd_T28 l0 x10_1).f1)] 28 (0, 0)) (by (with_reducible repeat (first | refine blk_drewN ?_ _ | refine blk_drew ?_ | refine blk_alloc ?_ _)); refine blk_put (cs := #[.string ((rd_T28 l0 x10_1).f0), .int .i64 0]) ?_ 1 _ rfl; (with_reducible repeat (first | refine blk_drewN ?_ _ | refine blk_drew ?_ | refine blk_alloc ?_ _)); refine blk_put (cs := #[.string (⟨#[]⟩ : ByteArray), .int .i64 0]) ?_ 0 _ rfl; (with_reducible repeat (first | refine blk_drewN ?_ _ | refine blk_drew ?_ | refine blk_alloc ?_ _)); exact BK103.out) hb); have n1_ := Aside0.mk (below_step (by repeat (first | (with_reducible first | exact HB.out | apply below_alloc | apply pw_below_drewN | apply below_drew1 | refine below_set ?_ GE103.out) | exact HB.out)) hb); clear BK103; clear HB; have BK103 := n0_; have HB := n1_; clear n0_ n1_; (try clear hb); (try clear hb2); (try clear hk); (try clear hi)))
                go_roundg k1
                case measure => have := HK1.out; omega
                case rel => exact ⟨(wrap64 (x10_1 + 1)), (by first | rfl | (simp; done) | (simp [*]; done)), H', ⟨by have := HK1.out; omega⟩, ⟨by repeat (first | (with_reducible first | exact HB.out | apply below_alloc | apply pw_below_drewN | apply below_drew1 | refine below_set ?_ GE103.out) | exact HB.out)⟩⟩
              · replace c7 := Bool.eq_false_iff.mpr c7
                subst c7
                have H1 : (some false) = some r := by rw [if_neg (show ¬ (false = true) by decide)] at H; exact H
                clear H
                have H := H1
                clear H1
                obtain rfl := Option.some.inj H
                have p102 : 0 ≤ (x10_1 : Int) := of_decide_eq_true (by first | (with_reducible assumption) | assumption)
                have q102 : x10_1 < (l0.length : Int) := of_decide_eq_true (by first | (with_reducible assumption) | assumption)
                obtain ⟨ad102, e102, hx102_0, hx102_1⟩ := at_T28 HR0.out x10_1 p102 q102
                cases e102
                replace hx102_0 := (HB.out.cell (World.block_lt_of_cell? w _ hx102_0)).trans hx102_0
                replace hx102_1 := (HB.out.cell (World.block_lt_of_cell? w _ hx102_1)).trans hx102_1
                replace p102 := eq_true p102
                replace q102 := eq_true q102
                go_wp2_with (first | ((with_reducible refine gate_dst (N := 4) rfl ?_); refine box_event ?hg (N := 4) ?hd (cs := #[.string (⟨#[]⟩ : ByteArray), .int .i64 0]) (t := 28) ?hr ?_; (case hd => rfl); (case hg => rfl); (case hr => first | (go_simp; done) | (go_simp; rfl)); intro gb103 hg w11 hbox hb; have n0_ := Aside0.mk (below_step (by repeat (first | (with_reducible first | exact HB.out | apply below_alloc | apply pw_below_drewN | apply below_drew1) | exact HB.out)) hb); have n1_ := Aside0.mk (hbox); have n2_ := Aside0.mk ((by rw [hg]; exact (below_size (by repeat (first | (with_reducible first | exact HB.out | apply below_alloc | apply pw_below_drewN | apply below_drew1) | exact HB.out))) : w.heap.size ≤ gb103)); have n3_ := Aside0.mk ((by rw [hg]; exact (below_size (by repeat (first | (with_reducible first | exact HB.out | apply below_alloc | apply pw_below_drewN | apply below_drew1) | exact HB.out))) : w.heap.size ≤ gb103)); clear HB; have HB := n0_; have BK103 := n1_; have GW103 := n2_; have GE103 := n3_; clear n0_ n1_ n2_ n3_; clear hb hbox hg; have hcz12_0 : w11.cell? ⟨gb103, 0, none⟩ = some (.string (⟨#[]⟩ : ByteArray)) := (blk_cell BK103.out 0).trans rfl; have hcz12_1 : w11.cell? ⟨gb103, 1, none⟩ = some (.int .i64 0) := (blk_cell BK103.out 1).trans rfl; have hfz12_0 := blk_frozen BK103.out 0; have hfz12_1 := blk_frozen BK103.out 1) | ((with_reducible refine gate_callee (f := 16) rfl ?_); refine goesL_ (some 15) rfl rfl Try.func16 (by kernel_rfl) rfl #[.agg #[.string ((rd_T28 l0 x10_1).f0), .int .i64 ((rd_T28 l0 x10_1).f1)]] rfl (by (try simp only [List.map_toArray, List.map_cons, List.map_nil]); first | done | rfl | (simp only [List.length_drop, List.length_take]; rfl)) ?_; (with_reducible refine (laws_zzFits7.calls ((rd_T28 l0 x10_1).f0) ((rd_T28 l0 x10_1).f1) false _ A6.out).mono ?_); rintro e w13 ⟨rfl, hb⟩; refine ⟨_, rfl, ?_⟩; have n0_ := Aside0.mk (blk_below (g := gb103) (o := .cells #[.string ((rd_T28 l0 x10_1).f0), .int .i64 ((rd_T28 l0 x10_1).f1)] 28 (0, 0)) (by (with_reducible repeat (first | refine blk_drewN ?_ _ | refine blk_drew ?_ | refine blk_alloc ?_ _)); refine blk_put (cs := #[.string ((rd_T28 l0 x10_1).f0), .int .i64 0]) ?_ 1 _ rfl; (with_reducible repeat (first | refine blk_drewN ?_ _ | refine blk_drew ?_ | refine blk_alloc ?_ _)); refine blk_put (cs := #[.string (⟨#[]⟩ : ByteArray), .int .i64 0]) ?_ 0 _ rfl; (with_reducible repeat (first | refine blk_drewN ?_ _ | refine blk_drew ?_ | refine blk_alloc ?_ _)); exact BK103.out) hb); have n1_ := Aside0.mk (below_step (by repeat (first | (with_reducible first | exact HB.out | apply below_alloc | apply pw_below_drewN | apply below_drew1 | refine below_set ?_ GE103.out) | exact HB.out)) hb); clear BK103; clear HB; have BK103 := n0_; have HB := n1_; clear n0_ n1_; (try clear hb); (try clear hb2); (try clear hk); (try clear hi)))
                go_ret
                exact ⟨by first | rfl | (simp [errW_none, errW_some] <;> rfl) | (simp [*, errW_none, errW_some] <;> rfl), by repeat (first | (with_reducible first | exact HB.out | apply below_alloc | apply pw_below_drewN | apply below_drew1 | refine below_set ?_ GE103.out) | exact HB.out)⟩
            · rw [if_neg c5] at H
              exact absurd H (by simp)
          · rw [if_neg c4] at H
            exact absurd H (by simp)
        · rw [if_neg c3] at H
          have c3b0 : decide (x10_1 < (l0.length : Int)) = false := decide_eq_false c3
          clear c3
          obtain rfl := Option.some.inj H
          go_wp2
          go_ret
          exact ⟨by first | rfl | (simp [errW_none, errW_some] <;> rfl) | (simp [*, errW_none, errW_some] <;> rfl), by repeat (first | (with_reducible first | exact HB.out | apply below_alloc | apply pw_below_drewN | apply below_drew1) | exact HB.out)⟩

/-! ### spec_SamePath: function 9 -/
def spec_SamePath.l0 : Nat → List (S28) → List (S28) → Int → Option (Bool)
  | 0, _, _, _ => none
  | k + 1, x0, x1, x5 => if x5 < (x0.length : Int) then (if 0 ≤ x5 then (if x5 < (x1.length : Int) then (if (!((((rd_T28 x0 x5).f0).toList) == (((rd_T28 x1 x5).f0).toList)) || (!(((rd_T28 x0 x5).f1) == ((rd_T28 x1 x5).f1)))) = true then (some false) else (spec_SamePath.l0 k x0 x1 (wrap64 (x5 + 1)))) else (none)) else (none)) else (some true)
def spec_SamePath.f (k : Nat) (l0 : List (S28)) (l1 : List (S28)) : Option (Bool) := if (l0.length : Int) = (l1.length : Int) then (spec_SamePath.l0 k l0 l1 0) else (some false)
theorem spec_SamePath.mono_l : ∀ k, (∀ y0 y1 y2, LeO (spec_SamePath.l0 k y0 y1 y2) (spec_SamePath.l0 (k + 1) y0 y1 y2))
  | 0 => fun _ _ _ r h => by simp [spec_SamePath.l0] at h
  | k + 1 => by
    have ih0 := spec_SamePath.mono_l k
    · intro y0 y1 y2
      unfold spec_SamePath.l0
      repeat' first
      | (with_reducible exact ih0 _ _ _)
      | (with_reducible exact LeO.refl _)
      | (with_reducible exact LeO.none _)
      | (with_reducible refine LeO.ite ?_ ?_)
      | (with_reducible refine LeO.bind ?_ (fun _ => ?_))
      | exact ih0 _ _ _
      | exact LeO.none _
      | refine LeO.ite ?_ ?_
      | refine LeO.bind ?_ (fun _ => ?_)
theorem spec_SamePath.mono : ∀ a0 a1 k, LeO (spec_SamePath.f k a0 a1) (spec_SamePath.f (k + 1) a0 a1) := by
  intro a0 a1 k
  have ih0 := spec_SamePath.mono_l k
  unfold spec_SamePath.f
  repeat' first
      | (with_reducible exact ih0 _ _ _)
      | (with_reducible exact LeO.refl _)
      | (with_reducible exact LeO.none _)
      | (with_reducible refine LeO.ite ?_ ?_)
      | (with_reducible refine LeO.bind ?_ (fun _ => ?_))
      | exact ih0 _ _ _
      | exact LeO.none _
      | refine LeO.ite ?_ ?_
      | refine LeO.bind ?_ (fun _ => ?_)
set_option maxHeartbeats 8000000 in
set_option maxRecDepth 100000 in
theorem spec_SamePath.calls (k : Nat) (A0 : Option Addr) (c0 : Nat) (l0 : List (S28)) (A1 : Option Addr) (c1 : Nat) (l1 : List (S28)) (r : Bool) (w : World) (hr0 : Kd.C k28 w A0 l0.length l0) (hc0 : l0.length ≤ c0) (hr1 : Kd.C k28 w A1 l1.length l1) (hc1 : l1.length ≤ c1) (h : spec_SamePath.f k l0 l1 = some r) :
    Calls Try.prog 9 #[.slice A0 l0.length c0, .slice A1 l1.length c1] w fun e w' => e = .returned (.bool r) ∧ Drawn0 w w' := by
  have hu28 := Try.underlying28
  have HR0 := Aside0.mk hr0
  have HC0 := Aside0.mk hc0
  clear hr0 hc0
  have HR1 := Aside0.mk hr1
  have HC1 := Aside0.mk hc1
  clear hr1 hc1
  have H : (if (l0.length : Int) = (l1.length : Int) then (spec_SamePath.l0 k l0 l1 0) else (some false)) = some r := h
  clear h
  by_cases c3 : (l0.length : Int) = (l1.length : Int)
  · rw [if_pos c3] at H
    have c3b0 : ((l0.length : Int) == (l1.length : Int)) = true := beq_iff_eq.mpr c3
    have c3b1 : ((l0.length : Int) != (l1.length : Int)) = false := bne_eq_false_iff_eq.mpr c3
    have c3b2 : (l0.length == l1.length) = true := by first | simpa using c3 | (simp at c3 ⊢; omega)
    clear c3
    have H' := Aside0.mk H
    clear H
    go_enter Try.func9, Try.ntmps9
    go_wp2
    repeat (go_quiet (fail); try go_wp2)
    go_loopg [5] k (fun kq v5 w' => ∃ (x5_1 : Int), v5 = .int .i64 x5_1 ∧ Aside0 (spec_SamePath.l0 kq l0 l1 x5_1 = some r) ∧ Aside0 (kq ≤ k) ∧ Drawn0 w w')
    case atStart => exact ⟨(0), (by first | rfl | (simp; done) | (simp [*]; done)), H', ⟨Nat.le_refl _⟩, by repeat (first | exact Drawn0.refl _ | apply Drawn0.step)⟩
    case round =>
      clear H'
      try clear c1
      try clear p2
      try clear c3
      try clear c3b0
      try clear c3b1
      try clear c3b2
      obtain ⟨x5_1, rfl, HA, HK1, ⟨m1, rfl⟩⟩ := hrel
      cases gk with
      | zero => exact absurd HA.out (by simp [spec_SamePath.l0])
      | succ k1 =>
        have H := HA.out
        clear HA
        simp only [spec_SamePath.l0] at H
        by_cases c4 : x5_1 < (l0.length : Int)
        · rw [if_pos c4] at H
          have c4b0 : decide (x5_1 < (l0.length : Int)) = true := decide_eq_true c4
          clear c4
          by_cases c5 : 0 ≤ x5_1
          · rw [if_pos c5] at H
            have c5b0 : decide (0 ≤ x5_1) = true := decide_eq_true c5
            clear c5
            by_cases c6 : x5_1 < (l1.length : Int)
            · rw [if_pos c6] at H
              have c6b0 : decide (x5_1 < (l1.length : Int)) = true := decide_eq_true c6
              clear c6
              by_cases c7 : (!((((rd_T28 l0 x5_1).f0).toList) == (((rd_T28 l1 x5_1).f0).toList)) || (!(((rd_T28 l0 x5_1).f1) == ((rd_T28 l1 x5_1).f1)))) = true
              · rw [if_pos c7] at H
                have c7b0 : (!((((rd_T28 l0 x5_1).f0).toList) == (((rd_T28 l1 x5_1).f0).toList)) || (!(((rd_T28 l0 x5_1).f1) == ((rd_T28 l1 x5_1).f1)))) = true := c7
                clear c7
                obtain rfl := Option.some.inj H
                have p105 : 0 ≤ (x5_1 : Int) := of_decide_eq_true (by first | (with_reducible assumption) | assumption)
                have q105 : x5_1 < (l0.length : Int) := of_decide_eq_true (by first | (with_reducible assumption) | assumption)
                obtain ⟨ad105, e105, hx105_0, hx105_1⟩ := at_T28 HR0.out x5_1 p105 q105
                cases e105
                replace p105 := eq_true p105
                replace q105 := eq_true q105
                have p106 : 0 ≤ (x5_1 : Int) := of_decide_eq_true (by first | (with_reducible assumption) | assumption)
                have q106 : x5_1 < (l1.length : Int) := of_decide_eq_true (by first | (with_reducible assumption) | assumption)
                obtain ⟨ad106, e106, hx106_0, hx106_1⟩ := at_T28 HR1.out x5_1 p106 q106
                cases e106
                replace p106 := eq_true p106
                replace q106 := eq_true q106
                go_wp2
                repeat (go_quiet (fail); try go_wp2)
                go_ret
                exact ⟨by first | rfl | (simp; done) | (simp [*]; done), by repeat (first | exact Drawn0.refl _ | apply Drawn0.step)⟩
              · rw [if_neg c7] at H
                have c7b0 : (!((((rd_T28 l0 x5_1).f0).toList) == (((rd_T28 l1 x5_1).f0).toList)) || (!(((rd_T28 l0 x5_1).f1) == ((rd_T28 l1 x5_1).f1)))) = false := by simpa using c7
                clear c7
                have H' := Aside0.mk H
                clear H
                have p105 : 0 ≤ (x5_1 : Int) := of_decide_eq_true (by first | (with_reducible assumption) | assumption)
                have q105 : x5_1 < (l0.length : Int) := of_decide_eq_true (by first | (with_reducible assumption) | assumption)
                obtain ⟨ad105, e105, hx105_0, hx105_1⟩ := at_T28 HR0.out x5_1 p105 q105
                cases e105
                replace p105 := eq_true p105
                replace q105 := eq_true q105
                have p106 : 0 ≤ (x5_1 : Int) := of_decide_eq_true (by first | (with_reducible assumption) | assumption)
                have q106 : x5_1 < (l1.length : Int) := of_decide_eq_true (by first | (with_reducible assumption) | assumption)
                obtain ⟨ad106, e106, hx106_0, hx106_1⟩ := at_T28 HR1.out x5_1 p106 q106
                cases e106
                replace p106 := eq_true p106
                replace q106 := eq_true q106
                go_wp2
                repeat (go_quiet (fail); try go_wp2)
                go_roundg k1
                case measure => have := HK1.out; omega
                case rel => exact ⟨(wrap64 (x5_1 + 1)), (by first | rfl | (simp; done) | (simp [*]; done)), H', ⟨by have := HK1.out; omega⟩, by repeat (first | exact Drawn0.refl _ | apply Drawn0.step)⟩
            · rw [if_neg c6] at H
              exact absurd H (by simp)
          · rw [if_neg c5] at H
            exact absurd H (by simp)
        · rw [if_neg c4] at H
          have c4b0 : decide (x5_1 < (l0.length : Int)) = false := decide_eq_false c4
          clear c4
          obtain rfl := Option.some.inj H
          go_wp2
          repeat (go_quiet (fail); try go_wp2)
          go_ret
          exact ⟨by first | rfl | (simp; done) | (simp [*]; done), by repeat (first | exact Drawn0.refl _ | apply Drawn0.step)⟩
  · rw [if_neg c3] at H
    have c3b0 : ((l0.length : Int) == (l1.length : Int)) = false := beq_eq_false_iff_ne.mpr c3
    have c3b1 : ((l0.length : Int) != (l1.length : Int)) = true := bne_iff_ne.mpr c3
    have c3b2 : (l0.length == l1.length) = false := by first | simpa using c3 | (simp at c3 ⊢; omega)
    obtain rfl := Option.some.inj H
    go_enter Try.func9, Try.ntmps9
    go_wp2
    repeat (go_quiet (fail); try go_wp2)
    go_ret
    exact ⟨by first | rfl | (simp; done) | (simp [*]; done), by repeat (first | exact Drawn0.refl _ | apply Drawn0.step)⟩

-- NOT PRINTED: function 17 (graphql_ResponsePath_WithKey)

-- NOT PRINTED: function 18 (graphql_ResponsePath_AsArray)

/-! ### impl_PathOf, with WithKey and AsArray: told by hand -/
inductive PathIn (w : World) : Value → List Value → Prop where
  | nil : PathIn w (.pointer none) []
  | cons (b : Nat) (pv : Value) (t : Nat) (x : Value) (ks : List Value) (hb : w.heap[b]? = some (.cells #[pv, .iface t x] 42 (0, 0))) (h : PathIn w pv ks) : PathIn w (.pointer (some ⟨b, 0, none⟩)) (ks ++ [.iface t x])

theorem PathIn.keep {w w1 : World} {v : Value} {ks : List Value} (h : PathIn w v ks) (hb : Below w.heap.size w w1) : PathIn w1 v ks := by
  induction h with
  | nil => exact .nil
  | cons b pv t x ks hc _ ih =>
    refine .cons b pv t x ks ?_ ih
    rw [hb.block b (by rcases Nat.lt_or_ge b w.heap.size with h | h; exact h; rw [Array.getElem?_eq_none h] at hc; cases hc)]
    exact hc

theorem cell2 {w : World} {b : Nat} {x y : Value} {T : Nat} (h : w.heap[b]? = some (.cells #[x, y] T (0, 0))) : w.cell? ⟨b, 0, none⟩ = some x ∧ w.cell? ⟨b, 1, none⟩ = some y := by
  constructor <;> simp [World.cell?, h]

theorem info20 : (Try.prog.info? 20).map (fun i => (i.zero, i.size, i.bytes)) = some (some .nilIface, 1, 16) := by kernel_rfl

set_option maxRecDepth 100000 in
theorem withKey (p : Option Addr) (t : Nat) (v : Value) (w : World) : Calls Try.prog 17 #[.pointer p, .iface t v] w fun e w' => e = .returned (.pointer (some ⟨w.heap.size, 0, none⟩)) ∧ w' = w.alloc (.cells #[.pointer p, .iface t v] 42) := by
  go_enter Try.func17, Try.ntmps17
  go_wp2
  go_ret
  exact ⟨rfl, rfl⟩

set_option maxRecDepth 100000 in
theorem asArray_nil (w : World) : Calls Try.prog 18 #[.pointer none] w fun e w' => e = .returned (.slice none 0 0) ∧ w' = w := by
  go_enter Try.func18, Try.ntmps18
  go_wp2
  go_ret
  exact ⟨rfl, rfl⟩

set_option maxRecDepth 100000 in
theorem asArray_cons (b : Nat) (pv : Value) (t : Nat) (x : Value) (ks : List Value) (w : World) (hb : w.heap[b]? = some (.cells #[pv, .iface t x] 42 (0, 0))) (hlen : ks.length ≤ 1000)
    (hlt : b < w.heap.size)
    (ih : ∀ w1 : World, Below w.heap.size w w1 → Calls Try.prog 18 #[pv] w1 fun e w' => ∃ v0, e = .returned v0 ∧ w'.ownsRow w.heap.size 20 1 v0 ks.length ks ∧ Below w1.heap.size w1 w') :
    Calls Try.prog 18 #[.pointer (some ⟨b, 0, none⟩)] w fun e w' => ∃ v0, e = .returned v0 ∧ w'.ownsRow w.heap.size 20 1 v0 (ks ++ [Value.iface t x]).length (ks ++ [Value.iface t x]) ∧ Below w.heap.size w w' := by
  obtain ⟨c0, c1⟩ := cell2 hb
  have IH := Aside0.mk ih
  clear ih hb
  obtain ⟨i0, hi, hz0, hz1, hz2⟩ := info_parts info20
  go_enter Try.func18, Try.ntmps18
  go_wp2
  have hnewsA : ∀ W : World, ∀ j u, [Value.iface t x][j]? = some u → (W.alloc (.cells #[Value.iface t x] 20)).cell? ((⟨W.heap.size, 0, none⟩ : Addr).add j) = some u := fun W => cell_one_new _ _ _
  have h1c : ∀ u ∈ [Value.iface t x], u.oneCell' = true := by intro u hu; simp at hu; subst hu; rfl
  have hnewsB : ∀ w1 : World, Below (w.alloc (.cells #[.iface t x] 20)).drew.heap.size (w.alloc (.cells #[.iface t x] 20)).drew w1 → ∀ j u, [Value.iface t x][j]? = some u → w1.cell? ((⟨w.heap.size, 0, none⟩ : Addr).add j) = some u := by
    intro w1 hbel j u hj
    refine (hbel.cell ?_).trans (hnewsA w j u hj)
    show ((⟨w.heap.size, 0, none⟩ : Addr).add j).block < (w.alloc (.cells #[.iface t x] 20)).heap.size
    rw [Addr.add_lit]; simp
  have NA := Aside0.mk hnewsA
  have NB := Aside0.mk hnewsB
  clear hnewsB
  have HC := Aside0.mk h1c
  clear hnewsA h1c
  have KF0 : ∀ (W w2 : World) (v : Value), W.grownBy w2 v.ownBlock → (∀ k, v.ownBlock = some k → w.heap.size ≤ k) → w.heap.size ≤ W.heap.size → ∀ o, w2.cell? ⟨b, o, none⟩ = W.cell? ⟨b, o, none⟩ := by
    intro W w2 v hg hl hs o
    refine hg.cell_far _ (by simp; omega) ?_
    intro he
    have := hl b he.symm
    omega
  have KF := Aside0.mk KF0
  clear KF0
  have KA0 : ∀ (W : World) (O : Obj), w.heap.size ≤ W.heap.size → ∀ o, (W.alloc O).cell? ⟨b, o, none⟩ = W.cell? ⟨b, o, none⟩ := fun W O hs o => (Below.alloc (Below.refl W.heap.size W) (Nat.le_refl _) O).cell (by simp; omega)
  have KA := Aside0.mk KA0
  clear KA0
  go_region_held3 (fun w' => w'.cell? ⟨b, 0, none⟩ = some pv ∧ w'.cell? ⟨b, 1, none⟩ = some (.iface t x)) ((first | (simp [*]; done) | exact ⟨(KA.out w _ (Nat.le_refl _) 0).trans (by assumption), (KA.out w _ (Nat.le_refl _) 1).trans (by assumption)⟩ | (rw [KA.out w1 _ (by have := hbel.size; simp at this ⊢; omega), KA.out w1 _ (by have := hbel.size; simp at this ⊢; omega)]; assumption) | exact ⟨(hbel.cell (by simp; omega)).trans (by simp [*]), (hbel.cell (by simp; omega)).trans (by simp [*])⟩ | (rw [KF.out _ _ _ hgrow (fun k hk => (hown.lt k hk).1) (by have := hbel.size; simp at this ⊢; omega), KF.out _ _ _ hgrow (fun k hk => (hown.lt k hk).1) (by have := hbel.size; simp at this ⊢; omega)]; simp [*]; done) | fail))
    (first | (go_at_call 18; refine (IH.out _ ?_).mono ?_; (first | exact Below.drew (Below.refl _ _) | exact Below.drew (Below.alloc (Below.refl _ _) (Nat.le_refl _) _) | exact Below.alloc (Below.drew (Below.refl _ _)) (Nat.le_refl _) _ | fail); rintro e w1 ⟨v0, rfl, hown, hbel⟩) | (refine step_append_lies _ (by rfl) (.tmp 9) (.tmp 14) 35 (by rfl) w.heap.size 20 i0 .nilIface 1 16 Try.underlying35 hi hz0 hz1 hz2 (by rfl) (by omega) v0 ks.length ks (by rfl) (hown.alloc _) ⟨w1.heap.size, 0, none⟩ 1 1 [.iface t x] (by rfl) (by rfl) (NA.out w1) HC.out (by omega) (by unfold maxLen; omega) (by omega) (by have := hbel.size; simp at this ⊢; omega) _ rfl ?_; intro g cap w2 hown2 hgrow hat hlt2) | (refine step_append_lies _ (by rfl) (.tmp 9) (.tmp 14) 35 (by rfl) w.heap.size 20 i0 .nilIface 1 16 Try.underlying35 hi hz0 hz1 hz2 (by rfl) (by omega) v0 ks.length ks (by rfl) hown ⟨w.heap.size, 0, none⟩ 1 1 [.iface t x] (by rfl) (by rfl) (NB.out w1 hbel) HC.out (by omega) (by unfold maxLen; omega) (by omega) (by have := hbel.size; simp at this ⊢; omega) _ rfl ?_; intro g cap w2 hown2 hgrow hat hlt2) | fail)
  · go_wp2
    go_ret
    refine ⟨_, rfl, by simpa using hown2, ?_⟩
    have hb1 : Below w.heap.size w w1 := (Below.drew (Below.refl _ _)).trans hbel
    exact (hb1.alloc hb1.size _).grown hgrow (by have := hb1.size; simp; omega) (fun k hk => (hown.lt k hk).1)
  · go_wp2
    go_ret
    refine ⟨_, rfl, by simpa using hown2, ?_⟩
    have hb1 : Below w.heap.size w w1 := (Below.drew (Below.alloc (Below.refl _ _) (Nat.le_refl _) _)).trans (hbel.mono (by simp))
    exact hb1.grown hgrow hb1.size (fun k hk => (hown.lt k hk).1)
set_option maxRecDepth 100000 in
theorem asArray (n : Nat) : ∀ (w : World) (v : Value) (ks : List Value), ks.length = n → n ≤ 1000 → PathIn w v ks →
    Calls Try.prog 18 #[v] w fun e w' => ∃ v0, e = .returned v0 ∧ w'.ownsRow w.heap.size 20 1 v0 n ks ∧ Below w.heap.size w w' := by
  induction n with
  | zero =>
    intro w v ks hl _ h
    cases h with
    | nil =>
      refine (asArray_nil w).mono fun e w' ⟨he, hw⟩ => ?_
      subst hw
      exact ⟨_, he, World.ownsRow_nil _ _ _ _, Below.refl _ _⟩
    | cons => simp at hl
  | succ n ih =>
    intro w v ks hl hn h
    cases h with
    | nil => simp at hl
    | cons b pv t x ks hb h =>
      have hlt : b < w.heap.size := by
        rcases Nat.lt_or_ge b w.heap.size with h | h
        · exact h
        · rw [Array.getElem?_eq_none h] at hb; cases hb
      have hl' : ks.length = n := by simpa using hl
      have hl1 : (ks ++ [Value.iface t x]).length = n + 1 := by simp [hl']
      rw [← hl1]
      refine asArray_cons b pv t x ks w hb (by omega) hlt fun w1 hb1 => ?_
      refine (ih w1 pv ks hl' (by omega) (h.keep hb1)).mono fun e w' ⟨v0, he, ho, hb2⟩ => ?_
      exact ⟨v0, he, by rw [hl']; exact own_weaken ho hb1.size, hb2⟩

def keyOf (x : S28) : Value := if x.f0.data.toList = [] then .iface 3 (.int .i64 x.f1) else .iface 9 (.string x.f0)
def normP (x : S28) : S28 := if x.f0.data.toList = [] then ⟨⟨#[]⟩, x.f1⟩ else ⟨x.f0, 0⟩


theorem keyOf_nil {x : S28} (h : x.f0.data.toList = []) : keyOf x = .iface 3 (.int .i64 x.f1) := if_pos h
theorem keyOf_cons {x : S28} (h : ¬ x.f0.data.toList = []) : keyOf x = .iface 9 (.string x.f0) := if_neg h
theorem normP_nil {x : S28} (h : x.f0.data.toList = []) : normP x = ⟨⟨#[]⟩, x.f1⟩ := if_pos h
theorem normP_cons {x : S28} (h : ¬ x.f0.data.toList = []) : normP x = ⟨x.f0, 0⟩ := if_neg h
theorem pathIn_two {w : World} {p : Option Addr} {ks : List Value} {O : Obj} {t : Nat} {x : Value} (h : PathIn w (.pointer p) ks) :
    PathIn ((w.alloc O).alloc (.cells #[.pointer p, .iface t x] 42)) (.pointer (some ⟨w.heap.size + 1, 0, none⟩)) (ks ++ [.iface t x]) := by
  have e : (w.alloc O).heap.size = w.heap.size + 1 := by simp
  rw [← e]
  refine .cons _ _ _ _ _ ?_ (h.keep (Below.alloc (Below.alloc (Below.refl _ _) (Nat.le_refl _) _) (by simp) _))
  show (((w.alloc O).heap.push _))[(w.alloc O).heap.size]? = _
  rw [Array.getElem?_push, if_pos rfl]
theorem below_two {w wr : World} {O O' : Obj} (h : Below w.heap.size w wr) : Below w.heap.size w ((wr.alloc O).alloc O') := Below.alloc (Below.alloc h h.size _) (by have := h.size; simp; omega) _
theorem ta_9_20 (v : Value) (w : World) : (Instr.typeAssert (.iface 9 v) 20 9 true).run Try.prog w = .ok (.tuple #[v, .bool true]) w := by kernel_rfl
theorem ta_3_20_9 (v : Value) (w : World) : (Instr.typeAssert (.iface 3 v) 20 9 true).run Try.prog w = .ok (.tuple #[.string ⟨#[]⟩, .bool false]) w := by kernel_rfl
theorem ta_3_20_3 (v : Value) (w : World) : (Instr.typeAssert (.iface 3 v) 20 3 true).run Try.prog w = .ok (.tuple #[v, .bool true]) w := by kernel_rfl

theorem arr_at {w : World} {base n c : Nat} {A : Option Addr} {l : List S28} (h : w.ownsRow base 20 1 (.slice A n c) n (l.map keyOf)) {m : Nat} (hm : m < l.length) :
    ∃ ad, A = some ad ∧ w.cell? (ad.add m) = some (keyOf l[m]) := by
  have hl : l.length = n := by have := h.1; simpa using this
  obtain ⟨g, cap, e, _, _⟩ := h.form (by omega)
  have e1 : A = some ⟨g, 0, none⟩ := by injection e
  subst e1
  refine ⟨_, rfl, h.cells rfl m _ ?_⟩
  simp [hm]

set_option maxRecDepth 100000 in
theorem pathOf_walk (A0 : Option Addr) (c0 : Nat) (l0 : List S28) (w : World) (hr0 : Kd.C k28 w A0 l0.length l0) (hc0 : l0.length ≤ c0) (hn : l0.length ≤ 60) :
    Calls Try.prog 10 #[.slice A0 l0.length c0] w fun e w' => ∃ v0_ : Value, e = .returned v0_ ∧ Kd.R k28 28 w' w.heap.size (fun _ => True) v0_ (l0.map normP) ∧ Below w.heap.size w w' := by
  have hu28 := Try.underlying28
  have HR0 := Aside0.mk hr0
  have HC0 := Aside0.mk hc0
  clear hr0 hc0
  go_enter Try.func10, Try.ntmps10
  go_wp2
  go_loopw [3, 13] (fun v3 v13 wr => ∃ (k : Nat) (p : Option Addr), k ≤ l0.length ∧ v13 = .int .i64 k ∧ v3 = .pointer p ∧ Aside0 (PathIn wr (.pointer p) ((l0.take k).map keyOf)) ∧ Aside0 (Below w.heap.size w wr)) (fun _ v13 _ => l0.length - (intOf v13).toNat)
  case atStart => exact ⟨0, none, Nat.zero_le _, rfl, rfl, ⟨.nil⟩, ⟨Below.refl _ _⟩⟩
  case round =>
    obtain ⟨k, p, hk, rfl, rfl, HP, HB⟩ := hrel
    by_cases hlt : k < l0.length
    · obtain ⟨ad, e1, hx0, hx1⟩ := at_T28 HR0.out (k : Int) (by omega) (by omega)
      subst e1
      simp only [Int.toNat_natCast] at hx0 hx1
      replace hx0 := (HB.out.cell (World.block_lt_of_cell? w _ hx0)).trans hx0
      replace hx1 := (HB.out.cell (World.block_lt_of_cell? w _ hx1)).trans hx1
      obtain ⟨x, hx⟩ : ∃ x, x = rd_T28 l0 (k : Int) := ⟨_, rfl⟩
      rw [← hx] at hx0 hx1
      have HX := Aside0.mk hx
      clear hx
      have HL := Aside0.mk (show l0.take (k + 1) = l0.take k ++ [x] by
        rw [List.take_succ_eq_append_getElem hlt, HX.out]; simp [rd_T28, List.getD_eq_getElem?_getD, hlt])
      have hB := HB.out.size
      by_cases he : x.f0.data.toList = []
      · have he1 : x.f0.toList = [] := by rw [ByteArray.toList_eq]; exact he
        have HE := Aside0.mk he
        clear he
        go_wp2_with (go_at_call 17; refine (withKey _ _ _ _).mono ?_; rintro e w' ⟨rfl, rfl⟩)
        go_roundw
        case rel =>
          refine ⟨k + 1, _, by omega, by go_num, rfl, ⟨?_⟩, ⟨?_⟩⟩
          · rw [HL.out, List.map_append, List.map_singleton]
            rw [keyOf_nil HE.out]
            exact pathIn_two HP.out
          · exact below_two HB.out
        case measure => simp [intOf]; omega
      · have he1 : ¬ (x.f0.toList = []) := by rw [ByteArray.toList_eq]; exact he
        have he2 : (!x.f0.toList.isEmpty) = true := by simpa using he1
        have HE := Aside0.mk he
        clear he
        go_wp2_with (go_at_call 17; refine (withKey _ _ _ _).mono ?_; rintro e w' ⟨rfl, rfl⟩)
        go_roundw
        case rel =>
          refine ⟨k + 1, _, by omega, by go_num, rfl, ⟨?_⟩, ⟨?_⟩⟩
          · rw [HL.out, List.map_append, List.map_singleton]
            rw [keyOf_cons HE.out]
            exact pathIn_two HP.out
          · exact below_two HB.out
        case measure => simp [intOf]; omega
    · rw [List.take_of_length_le (by omega)] at HP
      go_wp2_with (go_at_call 18; refine (asArray l0.length _ _ _ (by simp) (by omega) HP.out).mono ?_; rintro e w1 ⟨v0, rfl, hown, hbel⟩; obtain ⟨A1, c1, rfl⟩ := own_slice hown)
      go_loopw [6, 34] (fun v6 v34 wq => ∃ m : Nat, m ≤ l0.length ∧ v34 = .int .i64 m ∧ Aside0 (Kd.R k28 28 wq w1.heap.size (fun _ => True) v6 ((l0.take m).map normP)) ∧ Aside0 (Below w1.heap.size w1 wq)) (fun _ v34 _ => l0.length - (intOf v34).toNat)
      case atStart => exact ⟨0, Nat.zero_le _, rfl, ⟨Kd.R_nil _ _ _ _ _⟩, ⟨Below.refl _ _⟩⟩
      case round =>
        obtain ⟨m, hm, rfl, HR, HB1⟩ := hrel
        by_cases hlt1 : m < l0.length
        · obtain ⟨ad, e1, hx0⟩ := arr_at hown hlt1
          subst e1
          replace hx0 := (HB1.out.cell (World.block_lt_of_cell? w1 _ hx0)).trans hx0
          have HL := Aside0.mk (show l0.take (m + 1) = l0.take m ++ [l0[m]] from List.take_succ_eq_append_getElem hlt1)
          obtain ⟨x, hx⟩ : ∃ x, x = l0[m] := ⟨_, rfl⟩
          rw [← hx] at hx0
          rw [← hx] at HL
          clear hx
          have hB1 := HB1.out.size
          have ht1 := @ta_9_20
          have ht2 := @ta_3_20_9
          have ht3 := @ta_3_20_3
          by_cases he : x.f0.data.toList = []
          · rw [keyOf_nil he] at hx0
            have HE := Aside0.mk he
            clear he
            go_wp2_with (first | ((with_reducible refine gate_builtin (b := .append) (xs := #[.tmp 50, .tmp 53]) rfl ?_); at_builtin; refine Kd.R_append k28 (w0 := w1) (W := wr) w1.heap.size rfl (.tmp 50) (.tmp 53) 25 28 (.agg #[.string ⟨#[]⟩, .int .i64 0]) 24 rfl Try.underlying25 info28 rfl (by decide) (by omega) u6 ((l0.take m).map normP) ⟨⟨#[]⟩, x.f1⟩ [.string ⟨#[]⟩, .int .i64 x.f1] (fun _ => True) (fun _ => False) rfl rfl ?aP1 (fun _ hk => hk.elim) ?aF1 ?aO1 ?aB1 ?aS1 ?aL1 ?_; (case aP1 => exact k28_mkM _ _ _ _); (case aB1 => exact HB1.out); (case aF1 => exact (fun _ _ => trivial)); (case aO1 => exact HR.out); (case aS1 => exact hB1); (case aL1 => simp; omega); intro v7 w9 ho hb hg hat))
            go_roundw
            case rel => exact ⟨m + 1, by omega, by go_num, ⟨by rw [HL.out, List.map_append, List.map_singleton, normP_nil HE.out]; exact ho⟩, ⟨hb⟩⟩
            case measure => simp [intOf]; omega
          · rw [keyOf_cons he] at hx0
            have HE := Aside0.mk he
            clear he
            go_wp2_with (first | ((with_reducible refine gate_builtin (b := .append) (xs := #[.tmp 42, .tmp 45]) rfl ?_); at_builtin; refine Kd.R_append k28 (w0 := w1) (W := wr) w1.heap.size rfl (.tmp 42) (.tmp 45) 25 28 (.agg #[.string ⟨#[]⟩, .int .i64 0]) 24 rfl Try.underlying25 info28 rfl (by decide) (by omega) u6 ((l0.take m).map normP) ⟨x.f0, 0⟩ [.string x.f0, .int .i64 0] (fun _ => True) (fun _ => False) rfl rfl ?aP2 (fun _ hk => hk.elim) ?aF2 ?aO2 ?aB2 ?aS2 ?aL2 ?_; (case aP2 => exact k28_mkM _ _ _ _); (case aB2 => exact HB1.out); (case aF2 => exact (fun _ _ => trivial)); (case aO2 => exact HR.out); (case aS2 => exact hB1); (case aL2 => simp; omega); intro v7 w9 ho hb hg hat))
            go_roundw
            case rel => exact ⟨m + 1, by omega, by go_num, ⟨by rw [HL.out, List.map_append, List.map_singleton, normP_cons HE.out]; exact ho⟩, ⟨hb⟩⟩
            case measure => simp [intOf]; omega
        · rw [List.take_of_length_le (by omega)] at HR
          go_wp2
          go_ret
          refine ⟨_, rfl, Kd.R_lower HR.out ?_, ?_⟩
          · exact Nat.le_trans HB.out.size hbel.size
          · exact HB.out.trans ((hbel.mono HB.out.size).trans (HB1.out.mono (Nat.le_trans HB.out.size hbel.size)))
def impl_PathOf.f (l0 : List (S28)) : Option (List (S28)) := if l0.length ≤ 60 then (some (l0.map normP)) else (none)
theorem impl_PathOf.calls (A0 : Option Addr) (c0 : Nat) (l0 : List (S28)) (r : List (S28)) (w : World) (hr0 : Kd.C k28 w A0 l0.length l0) (hc0 : l0.length ≤ c0) (h : impl_PathOf.f l0 = some r) :
    Calls Try.prog 10 #[.slice A0 l0.length c0] w fun e w' => ∃ v0_ : Value, e = .returned (v0_) ∧ Kd.R k28 28 w' w.heap.size (fun _ => True) v0_ r ∧ Below w.heap.size w w' := by
  unfold impl_PathOf.f at h
  by_cases hn : l0.length ≤ 60
  · rw [if_pos hn] at h
    obtain rfl := Option.some.inj h
    exact pathOf_walk A0 c0 l0 w hr0 hc0 hn
  · rw [if_neg hn] at h
    cases h

/-! ### laws_FnPathOf: function 4 -/
def laws_FnPathOf.l0 : Nat → List (S28) → Int → Option (Bool)
  | 0, _, _ => none
  | k + 1, x0, x3 => if x3 < (x0.length : Int) then (if 0 ≤ x3 then (if ((rd_T28 x0 x3).f1) < 0 then (some true) else (if ((rd_T28 x0 x3).f0).toList = ([] : List UInt8) then (laws_FnPathOf.l0 k x0 (wrap64 (x3 + 1))) else (if ((rd_T28 x0 x3).f1) = 0 then (laws_FnPathOf.l0 k x0 (wrap64 (x3 + 1))) else (some true)))) else (none)) else ((some (([(⟨(⟨#[97]⟩ : ByteArray), 0⟩ : S28)] : List (S28)) : List (S28))).bind fun y111 => ((impl_PathOf.f x0).bind fun t114 => ((spec_SamePath.f k t114 x0).bind fun t117 => (if t117 = true then ((impl_PathOf.f y111).bind fun t118 => ((spec_SamePath.f k t118 y111).bind fun t121 => (some t121))) else (some false)))))
def laws_FnPathOf.f (k : Nat) (l0 : List (S28)) : Option (Bool) := (laws_zzFits6.f k l0).bind fun t107 => (if t107 = true then (if (l0.length : Int) > 60 then (some true) else (laws_FnPathOf.l0 k l0 0)) else (some true))
theorem laws_FnPathOf.mono_l : ∀ k, (∀ y0 y1, LeO (laws_FnPathOf.l0 k y0 y1) (laws_FnPathOf.l0 (k + 1) y0 y1))
  | 0 => fun _ _ r h => by simp [laws_FnPathOf.l0] at h
  | k + 1 => by
    have ih0 := laws_FnPathOf.mono_l k
    · intro y0 y1
      unfold laws_FnPathOf.l0
      repeat' first
      | (with_reducible exact ih0 _ _)
      | (with_reducible exact laws_zzFits6.mono _ _)
      | (with_reducible exact spec_SamePath.mono _ _ _)
      | (with_reducible exact LeO.refl _)
      | (with_reducible exact LeO.none _)
      | (with_reducible refine LeO.ite ?_ ?_)
      | (with_reducible refine LeO.bind ?_ (fun _ => ?_))
      | exact ih0 _ _
      | exact laws_zzFits6.mono _ _
      | exact spec_SamePath.mono _ _ _
      | exact LeO.none _
      | refine LeO.ite ?_ ?_
      | refine LeO.bind ?_ (fun _ => ?_)
theorem laws_FnPathOf.mono : ∀ a0 k, LeO (laws_FnPathOf.f k a0) (laws_FnPathOf.f (k + 1) a0) := by
  intro a0 k
  have ih0 := laws_FnPathOf.mono_l k
  unfold laws_FnPathOf.f
  repeat' first
      | (with_reducible exact ih0 _ _)
      | (with_reducible exact laws_zzFits6.mono _ _)
      | (with_reducible exact spec_SamePath.mono _ _ _)
      | (with_reducible exact LeO.refl _)
      | (with_reducible exact LeO.none _)
      | (with_reducible refine LeO.ite ?_ ?_)
      | (with_reducible refine LeO.bind ?_ (fun _ => ?_))
      | exact ih0 _ _
      | exact laws_zzFits6.mono _ _
      | exact spec_SamePath.mono _ _ _
      | exact LeO.none _
      | refine LeO.ite ?_ ?_
      | refine LeO.bind ?_ (fun _ => ?_)
set_option maxHeartbeats 8000000 in
set_option maxRecDepth 100000 in
theorem laws_FnPathOf.calls (k : Nat) (A0 : Option Addr) (c0 : Nat) (l0 : List (S28)) (r : Bool) (w : World) (hr0 : Kd.C k28 w A0 l0.length l0) (hc0 : l0.length ≤ c0) (h : laws_FnPathOf.f k l0 = some r) :
    Calls Try.prog 4 #[.slice A0 l0.length c0] w fun e w' => e = .returned (.bool r) ∧ Below w.heap.size w w' := by
  have hu28 := Try.underlying28
  have HR0 := Aside0.mk hr0
  have HC0 := Aside0.mk hc0
  clear hr0 hc0
  have HB := Aside0.mk (Below.refl w.heap.size w)
  have H : ((laws_zzFits6.f k l0).bind fun t107 => (if t107 = true then (if (l0.length : Int) > 60 then (some true) else (laws_FnPathOf.l0 k l0 0)) else (some true))) = some r := h
  clear h
  replace H := Option.bind_eq_some_iff.mp H
  obtain ⟨t107, A20, H⟩ := H
  replace H : (if t107 = true then (if (l0.length : Int) > 60 then (some true) else (laws_FnPathOf.l0 k l0 0)) else (some true)) = some r := H
  have A2 := Aside0.mk A20
  clear A20
  by_cases c3 : t107 = true
  · subst c3
    have H1 : (if (l0.length : Int) > 60 then (some true) else (laws_FnPathOf.l0 k l0 0)) = some r := by rw [if_pos rfl] at H; exact H
    clear H
    have H := H1
    clear H1
    by_cases c4 : (l0.length : Int) > 60
    · rw [if_pos c4] at H
      have c4b0 : decide (60 < (l0.length : Int)) = true := decide_eq_true c4
      have c4b1 : decide (60 < l0.length) = true := decide_eq_true (by omega)
      clear c4
      obtain rfl := Option.some.inj H
      go_enter Try.func4, Try.ntmps4
      go_wp2_with (first | ((with_reducible refine gate_callee (f := 8) rfl ?_); refine goesL_ (some 6) rfl rfl Try.func8 (by kernel_rfl) rfl #[.slice A0 l0.length c0] rfl (by (try simp only [List.map_toArray, List.map_cons, List.map_nil]); first | done | rfl | (simp only [List.length_drop, List.length_take]; rfl)) ?_; (with_reducible refine (laws_zzFits6.calls k _ _ l0 true _ ?side1 ?side2 A2.out).mono ?_); (case side1 => repeat (first | exact HR0.out | (with_reducible refine Kd.C_alloc ?_ _) | (with_reducible refine Kd.C_drewN ?_ _) | (with_reducible refine Kd.C_drew ?_))); (case side2 => exact HC0.out); rintro e w5 ⟨rfl, hb⟩; refine ⟨_, rfl, ?_⟩; have n0_ := Aside0.mk (below_step (by repeat (first | (with_reducible first | exact HB.out | apply below_alloc | apply pw_below_drewN | apply below_drew1) | exact HB.out)) hb); clear HB; have HB := n0_; clear n0_; (try clear hb); (try clear hb2); (try clear hk); (try clear hi)))
      go_ret
      exact ⟨by first | rfl | (simp [errW_none, errW_some] <;> rfl) | (simp [*, errW_none, errW_some] <;> rfl), by repeat (first | (with_reducible first | exact HB.out | apply below_alloc | apply pw_below_drewN | apply below_drew1) | exact HB.out)⟩
    · rw [if_neg c4] at H
      have c4b0 : decide (60 < (l0.length : Int)) = false := decide_eq_false c4
      have c4b1 : decide (60 < l0.length) = false := decide_eq_false (by omega)
      clear c4
      have H' := Aside0.mk H
      clear H
      go_enter Try.func4, Try.ntmps4
      go_wp2_with (first | ((with_reducible refine gate_callee (f := 8) rfl ?_); refine goesL_ (some 6) rfl rfl Try.func8 (by kernel_rfl) rfl #[.slice A0 l0.length c0] rfl (by (try simp only [List.map_toArray, List.map_cons, List.map_nil]); first | done | rfl | (simp only [List.length_drop, List.length_take]; rfl)) ?_; (with_reducible refine (laws_zzFits6.calls k _ _ l0 true _ ?side1 ?side2 A2.out).mono ?_); (case side1 => repeat (first | exact HR0.out | (with_reducible refine Kd.C_alloc ?_ _) | (with_reducible refine Kd.C_drewN ?_ _) | (with_reducible refine Kd.C_drew ?_))); (case side2 => exact HC0.out); rintro e w6 ⟨rfl, hb⟩; refine ⟨_, rfl, ?_⟩; have n0_ := Aside0.mk (below_step (by repeat (first | (with_reducible first | exact HB.out | apply below_alloc | apply pw_below_drewN | apply below_drew1) | exact HB.out)) hb); clear HB; have HB := n0_; clear n0_; (try clear hb); (try clear hb2); (try clear hk); (try clear hi)))
      go_loopg [3] k (fun kq v3 w' => ∃ (x3_1 : Int), v3 = .int .i64 x3_1 ∧ Aside0 (laws_FnPathOf.l0 kq l0 x3_1 = some r) ∧ Aside0 (kq ≤ k) ∧ Aside0 (Below w.heap.size w w'))
      case atStart => exact ⟨(0), (by first | rfl | (simp; done) | (simp [*]; done)), H', ⟨Nat.le_refl _⟩, ⟨by repeat (first | (with_reducible first | exact HB.out | apply below_alloc | apply pw_below_drewN | apply below_drew1) | exact HB.out)⟩⟩
      case round =>
        clear H'
        try clear p2
        try clear c3
        try clear c4
        try clear c4b0
        try clear c4b1
        obtain ⟨x3_1, rfl, HA, HK1, HB⟩ := hrel
        cases gk with
        | zero => exact absurd HA.out (by simp [laws_FnPathOf.l0])
        | succ k1 =>
          have H := HA.out
          clear HA
          simp only [laws_FnPathOf.l0] at H
          by_cases c7 : x3_1 < (l0.length : Int)
          · rw [if_pos c7] at H
            have c7b0 : decide (x3_1 < (l0.length : Int)) = true := decide_eq_true c7
            clear c7
            by_cases c8 : 0 ≤ x3_1
            · rw [if_pos c8] at H
              have c8b0 : decide (0 ≤ x3_1) = true := decide_eq_true c8
              clear c8
              by_cases c9 : ((rd_T28 l0 x3_1).f1) < 0
              · rw [if_pos c9] at H
                have c9b0 : decide (((rd_T28 l0 x3_1).f1) < 0) = true := decide_eq_true c9
                clear c9
                obtain rfl := Option.some.inj H
                have p108 : 0 ≤ (x3_1 : Int) := of_decide_eq_true (by first | (with_reducible assumption) | assumption)
                have q108 : x3_1 < (l0.length : Int) := of_decide_eq_true (by first | (with_reducible assumption) | assumption)
                obtain ⟨ad108, e108, hx108_0, hx108_1⟩ := at_T28 HR0.out x3_1 p108 q108
                cases e108
                replace hx108_0 := (HB.out.cell (World.block_lt_of_cell? w _ hx108_0)).trans hx108_0
                replace hx108_1 := (HB.out.cell (World.block_lt_of_cell? w _ hx108_1)).trans hx108_1
                replace p108 := eq_true p108
                replace q108 := eq_true q108
                go_wp2
                go_ret
                exact ⟨by first | rfl | (simp [errW_none, errW_some] <;> rfl) | (simp [*, errW_none, errW_some] <;> rfl), by repeat (first | (with_reducible first | exact HB.out | apply below_alloc | apply pw_below_drewN | apply below_drew1) | exact HB.out)⟩
              · rw [if_neg c9] at H
                have c9b0 : decide (((rd_T28 l0 x3_1).f1) < 0) = false := decide_eq_false c9
                clear c9
                by_cases c10 : ((rd_T28 l0 x3_1).f0).toList = ([] : List UInt8)
                · rw [if_pos c10] at H
                  have c10b0 : (((rd_T28 l0 x3_1).f0).toList == ([] : List UInt8)) = true := beq_iff_eq.mpr c10
                  have c10b1 : (((rd_T28 l0 x3_1).f0).toList != ([] : List UInt8)) = false := bne_eq_false_iff_eq.mpr c10
                  clear c10
                  have H' := Aside0.mk H
                  clear H
                  have p108 : 0 ≤ (x3_1 : Int) := of_decide_eq_true (by first | (with_reducible assumption) | assumption)
                  have q108 : x3_1 < (l0.length : Int) := of_decide_eq_true (by first | (with_reducible assumption) | assumption)
                  obtain ⟨ad108, e108, hx108_0, hx108_1⟩ := at_T28 HR0.out x3_1 p108 q108
                  cases e108
                  replace hx108_0 := (HB.out.cell (World.block_lt_of_cell? w _ hx108_0)).trans hx108_0
                  replace hx108_1 := (HB.out.cell (World.block_lt_of_cell? w _ hx108_1)).trans hx108_1
                  replace p108 := eq_true p108
                  replace q108 := eq_true q108
                  have p109 : 0 ≤ (x3_1 : Int) := of_decide_eq_true (by first | (with_reducible assumption) | assumption)
                  have q109 : x3_1 < (l0.length : Int) := of_decide_eq_true (by first | (with_reducible assumption) | assumption)
                  obtain ⟨ad109, e109, hx109_0, hx109_1⟩ := at_T28 HR0.out x3_1 p109 q109
                  obtain rfl : ad108 = ad109 := (by injection e109)
                  replace hx109_0 := (HB.out.cell (World.block_lt_of_cell? w _ hx109_0)).trans hx109_0
                  replace hx109_1 := (HB.out.cell (World.block_lt_of_cell? w _ hx109_1)).trans hx109_1
                  replace p109 := eq_true p109
                  replace q109 := eq_true q109
                  go_wp2
                  go_roundg k1
                  case measure => have := HK1.out; omega
                  case rel => exact ⟨(wrap64 (x3_1 + 1)), (by first | rfl | (simp; done) | (simp [*]; done)), H', ⟨by have := HK1.out; omega⟩, ⟨by repeat (first | (with_reducible first | exact HB.out | apply below_alloc | apply pw_below_drewN | apply below_drew1) | exact HB.out)⟩⟩
                · rw [if_neg c10] at H
                  have c10b0 : (((rd_T28 l0 x3_1).f0).toList == ([] : List UInt8)) = false := beq_eq_false_iff_ne.mpr c10
                  have c10b1 : (((rd_T28 l0 x3_1).f0).toList != ([] : List UInt8)) = true := bne_iff_ne.mpr c10
                  by_cases c11 : ((rd_T28 l0 x3_1).f1) = 0
                  · rw [if_pos c11] at H
                    have c11b0 : (((rd_T28 l0 x3_1).f1) == 0) = true := beq_iff_eq.mpr c11
                    have c11b1 : (((rd_T28 l0 x3_1).f1) != 0) = false := bne_eq_false_iff_eq.mpr c11
                    clear c11
                    have H' := Aside0.mk H
                    clear H
                    have p108 : 0 ≤ (x3_1 : Int) := of_decide_eq_true (by first | (with_reducible assumption) | assumption)
                    have q108 : x3_1 < (l0.length : Int) := of_decide_eq_true (by first | (with_reducible assumption) | assumption)
                    obtain ⟨ad108, e108, hx108_0, hx108_1⟩ := at_T28 HR0.out x3_1 p108 q108
                    cases e108
                    replace hx108_0 := (HB.out.cell (World.block_lt_of_cell? w _ hx108_0)).trans hx108_0
                    replace hx108_1 := (HB.out.cell (World.block_lt_of_cell? w _ hx108_1)).trans hx108_1
                    replace p108 := eq_true p108
                    replace q108 := eq_true q108
                    have p109 : 0 ≤ (x3_1 : Int) := of_decide_eq_true (by first | (with_reducible assumption) | assumption)
                    have q109 : x3_1 < (l0.length : Int) := of_decide_eq_true (by first | (with_reducible assumption) | assumption)
                    obtain ⟨ad109, e109, hx109_0, hx109_1⟩ := at_T28 HR0.out x3_1 p109 q109
                    obtain rfl : ad108 = ad109 := (by injection e109)
                    replace hx109_0 := (HB.out.cell (World.block_lt_of_cell? w _ hx109_0)).trans hx109_0
                    replace hx109_1 := (HB.out.cell (World.block_lt_of_cell? w _ hx109_1)).trans hx109_1
                    replace p109 := eq_true p109
                    replace q109 := eq_true q109
                    have p110 : 0 ≤ (x3_1 : Int) := of_decide_eq_true (by first | (with_reducible assumption) | assumption)
                    have q110 : x3_1 < (l0.length : Int) := of_decide_eq_true (by first | (with_reducible assumption) | assumption)
                    obtain ⟨ad110, e110, hx110_0, hx110_1⟩ := at_T28 HR0.out x3_1 p110 q110
                    obtain rfl : ad108 = ad110 := (by injection e110)
                    replace hx110_0 := (HB.out.cell (World.block_lt_of_cell? w _ hx110_0)).trans hx110_0
                    replace hx110_1 := (HB.out.cell (World.block_lt_of_cell? w _ hx110_1)).trans hx110_1
                    replace p110 := eq_true p110
                    replace q110 := eq_true q110
                    go_wp2
                    go_roundg k1
                    case measure => have := HK1.out; omega
                    case rel => exact ⟨(wrap64 (x3_1 + 1)), (by first | rfl | (simp; done) | (simp [*]; done)), H', ⟨by have := HK1.out; omega⟩, ⟨by repeat (first | (with_reducible first | exact HB.out | apply below_alloc | apply pw_below_drewN | apply below_drew1) | exact HB.out)⟩⟩
                  · rw [if_neg c11] at H
                    have c11b0 : (((rd_T28 l0 x3_1).f1) == 0) = false := beq_eq_false_iff_ne.mpr c11
                    have c11b1 : (((rd_T28 l0 x3_1).f1) != 0) = true := bne_iff_ne.mpr c11
                    obtain rfl := Option.some.inj H
                    have p108 : 0 ≤ (x3_1 : Int) := of_decide_eq_true (by first | (with_reducible assumption) | assumption)
                    have q108 : x3_1 < (l0.length : Int) := of_decide_eq_true (by first | (with_reducible assumption) | assumption)
                    obtain ⟨ad108, e108, hx108_0, hx108_1⟩ := at_T28 HR0.out x3_1 p108 q108
                    cases e108
                    replace hx108_0 := (HB.out.cell (World.block_lt_of_cell? w _ hx108_0)).trans hx108_0
                    replace hx108_1 := (HB.out.cell (World.block_lt_of_cell? w _ hx108_1)).trans hx108_1
                    replace p108 := eq_true p108
                    replace q108 := eq_true q108
                    have p109 : 0 ≤ (x3_1 : Int) := of_decide_eq_true (by first | (with_reducible assumption) | assumption)
                    have q109 : x3_1 < (l0.length : Int) := of_decide_eq_true (by first | (with_reducible assumption) | assumption)
                    obtain ⟨ad109, e109, hx109_0, hx109_1⟩ := at_T28 HR0.out x3_1 p109 q109
                    obtain rfl : ad108 = ad109 := (by injection e109)
                    replace hx109_0 := (HB.out.cell (World.block_lt_of_cell? w _ hx109_0)).trans hx109_0
                    replace hx109_1 := (HB.out.cell (World.block_lt_of_cell? w _ hx109_1)).trans hx109_1
                    replace p109 := eq_true p109
                    replace q109 := eq_true q109
                    have p110 : 0 ≤ (x3_1 : Int) := of_decide_eq_true (by first | (with_reducible assumption) | assumption)
                    have q110 : x3_1 < (l0.length : Int) := of_decide_eq_true (by first | (with_reducible assumption) | assumption)
                    obtain ⟨ad110, e110, hx110_0, hx110_1⟩ := at_T28 HR0.out x3_1 p110 q110
                    obtain rfl : ad108 = ad110 := (by injection e110)
                    replace hx110_0 := (HB.out.cell (World.block_lt_of_cell? w _ hx110_0)).trans hx110_0
                    replace hx110_1 := (HB.out.cell (World.block_lt_of_cell? w _ hx110_1)).trans hx110_1
                    replace p110 := eq_true p110
                    replace q110 := eq_true q110
                    go_wp2
                    go_ret
                    exact ⟨by first | rfl | (simp [errW_none, errW_some] <;> rfl) | (simp [*, errW_none, errW_some] <;> rfl), by repeat (first | (with_reducible first | exact HB.out | apply below_alloc | apply pw_below_drewN | apply below_drew1) | exact HB.out)⟩
            · rw [if_neg c8] at H
              exact absurd H (by simp)
          · rw [if_neg c7] at H
            have c7b0 : decide (x3_1 < (l0.length : Int)) = false := decide_eq_false c7
            clear c7
            obtain ⟨y111, hy111⟩ : ∃ y_ : List (S28), y_ = (([(⟨(⟨#[97]⟩ : ByteArray), 0⟩ : S28)] : List (S28))) := ⟨_, rfl⟩
            replace H : ((impl_PathOf.f l0).bind fun t114 => ((spec_SamePath.f k1 t114 l0).bind fun t117 => (if t117 = true then ((impl_PathOf.f y111).bind fun t118 => ((spec_SamePath.f k1 t118 y111).bind fun t121 => (some t121))) else (some false)))) = some r := by first | (rw [hy111]; with_reducible exact H) | (have H2_ := (Option.bind_some _ _).symm.trans H; rw [hy111]; with_reducible exact H2_) | (have H2_ := (Option.bind_some _ _).symm.trans H; with_reducible exact H2_) | with_reducible exact H | (rw [hy111]; exact H) | exact H
            have Ny111 := Aside0.mk hy111
            clear hy111
            replace H := Option.bind_eq_some_iff.mp H
            obtain ⟨t114, A120, H⟩ := H
            replace H : ((spec_SamePath.f k1 t114 l0).bind fun t117 => (if t117 = true then ((impl_PathOf.f y111).bind fun t118 => ((spec_SamePath.f k1 t118 y111).bind fun t121 => (some t121))) else (some false))) = some r := H
            have A12 := Aside0.mk A120
            clear A120
            replace H := Option.bind_eq_some_iff.mp H
            obtain ⟨t117, A130, H⟩ := H
            replace H : (if t117 = true then ((impl_PathOf.f y111).bind fun t118 => ((spec_SamePath.f k1 t118 y111).bind fun t121 => (some t121))) else (some false)) = some r := H
            have A13 := Aside0.mk A130
            clear A130
            by_cases c14 : t117 = true
            · subst c14
              have H1 : ((impl_PathOf.f y111).bind fun t118 => ((spec_SamePath.f k1 t118 y111).bind fun t121 => (some t121))) = some r := by rw [if_pos rfl] at H; exact H
              clear H
              have H := H1
              clear H1
              replace H := Option.bind_eq_some_iff.mp H
              obtain ⟨t118, A150, H⟩ := H
              replace H : ((spec_SamePath.f k1 t118 y111).bind fun t121 => (some t121)) = some r := H
              have A15 := Aside0.mk A150
              clear A150
              replace H := Option.bind_eq_some_iff.mp H
              obtain ⟨t121, A160, H⟩ := H
              replace H : (some t121) = some r := H
              have A16 := Aside0.mk A160
              clear A160
              obtain rfl := Option.some.inj H
              go_wp2_with (first | ((with_reducible refine gate_dst (N := 40) rfl ?_); refine Kd.R_lit k28 _ 28 ?hg (N := 40) ?hd (xs := ([(⟨(⟨#[97]⟩ : ByteArray), 0⟩ : S28)] : List (S28))) (inner := [.string (⟨#[97]⟩ : ByteArray), .int .i64 0]) (ok := fun _ => True) (okp := fun _ => True) ?hr ?hp (fun _ hk => hk) trivial (Below.refl _ _) (Nat.le_refl _) (by simp) ?_; (case hd => rfl); (case hg => rfl); (case hr => first | (go_simp; done) | (go_simp; rfl)); (case hp => exact (Reps.c2 (show Kd.M k28 _ _ _ (⟨(⟨#[97]⟩ : ByteArray), 0⟩ : S28) [.string (⟨#[97]⟩ : ByteArray), .int .i64 0] from (k28_mkM _ _ _ (⟨(⟨#[97]⟩ : ByteArray), 0⟩ : S28) )) (Reps.none _ _))); intro v112 w17 ho18 hb hg_ hnew_; clear hg_ hnew_; (first | rw [← Ny111.out] at ho18 | (simp only [Int.reduceToNat] at ho18; rw [← Ny111.out] at ho18)); have n0_ := Aside0.mk (Kd.R_lower ho18 (below_size (by repeat (first | (with_reducible first | exact HB.out | apply below_alloc | apply pw_below_drewN | apply below_drew1) | exact HB.out)))); have n1_ := Aside0.mk (below_step (by repeat (first | (with_reducible first | exact HB.out | apply below_alloc | apply pw_below_drewN | apply below_drew1) | exact HB.out)) hb); clear HB; have HO113 := n0_; have HB := n1_; clear n0_ n1_; clear hb ho18) | ((with_reducible refine gate_callee (f := 10) rfl ?_); refine goesL_ (some 42) rfl rfl Try.func10 (by kernel_rfl) rfl #[.slice A0 l0.length c0] rfl (by (try simp only [List.map_toArray, List.map_cons, List.map_nil]); first | done | rfl | (simp only [List.length_drop, List.length_take]; rfl)) ?_; (with_reducible refine (impl_PathOf.calls _ _ l0 t114 _ ?side1 ?side2 A12.out).mono ?_); (case side1 => repeat (first | exact (Kd.C_below HR0.out HB.out) | (with_reducible refine Kd.C_alloc ?_ _) | (with_reducible refine Kd.C_drewN ?_ _) | (with_reducible refine Kd.C_drew ?_))); (case side2 => exact HC0.out); rintro e w19 ⟨v115, rfl, ho0, hb⟩; refine ⟨_, rfl, ?_⟩; have n0_ := Aside0.mk (Kd.R_elder' (by (with_reducible repeat (first | apply Kd.R_alloc | apply Kd.R_drewN | apply Kd.R_drew)); exact HO113.out) (Kd.R_base ho0) hb); have n1_ := Aside0.mk (Kd.R_lower (Kd.R_new' ho0 (Kd.R_lt (by (with_reducible repeat (first | apply Kd.R_alloc | apply Kd.R_drewN | apply Kd.R_drew)); exact HO113.out))) (below_size (by repeat (first | (with_reducible first | exact HB.out | apply below_alloc | apply pw_below_drewN | apply below_drew1) | exact HB.out)))); have n2_ := Aside0.mk (below_step (by repeat (first | (with_reducible first | exact HB.out | apply below_alloc | apply pw_below_drewN | apply below_drew1) | exact HB.out)) hb); clear HO113; clear HB; have HO113 := n0_; have HO116 := n1_; have HB := n2_; clear n0_ n1_ n2_; (try clear hb); (try clear hb2); (try clear hk); (try clear hi); (try clear ho0); obtain ⟨Ao20, co20, eo20⟩ := Kd.R_slice HO116.out; subst eo20) | ((with_reducible refine gate_callee (f := 9) rfl ?_); refine goesL_ (some 44) rfl rfl Try.func9 (by kernel_rfl) rfl #[.slice Ao20 t114.length co20, .slice A0 l0.length c0] rfl (by (try simp only [List.map_toArray, List.map_cons, List.map_nil]); first | done | rfl | (simp only [List.length_drop, List.length_take]; rfl)) ?_; (with_reducible refine (spec_SamePath.calls k1 _ _ t114 _ _ l0 true _ ?side1 ?side2 ?side3 ?side4 A13.out).mono ?_); (case side1 => repeat (first | exact (Kd.R_reads' HO116.out).2.2 | (with_reducible refine Kd.C_alloc ?_ _) | (with_reducible refine Kd.C_drewN ?_ _) | (with_reducible refine Kd.C_drew ?_))); (case side2 => exact (Kd.R_reads' HO116.out).2.1); (case side3 => repeat (first | exact (Kd.C_below HR0.out HB.out) | (with_reducible refine Kd.C_alloc ?_ _) | (with_reducible refine Kd.C_drewN ?_ _) | (with_reducible refine Kd.C_drew ?_))); (case side4 => exact HC0.out); rintro e w' ⟨rfl, ⟨nd, rfl⟩⟩; refine ⟨_, rfl, ?_⟩; obtain ⟨Ao21, co21, eo21⟩ := Kd.R_slice HO113.out; subst eo21) | (go_at_call 10; (with_reducible refine (impl_PathOf.calls _ _ y111 t118 _ ?side1 ?side2 A15.out).mono ?_); (case side1 => repeat (first | exact (Kd.R_reads' HO113.out).2.2 | (with_reducible refine Kd.C_alloc ?_ _) | (with_reducible refine Kd.C_drewN ?_ _) | (with_reducible refine Kd.C_drew ?_))); (case side2 => exact (Kd.R_reads' HO113.out).2.1); rintro e w22 ⟨v119, rfl, ho0, hb⟩; have n0_ := Aside0.mk (Kd.R_elder' (by (with_reducible repeat (first | apply Kd.R_alloc | apply Kd.R_drewN | apply Kd.R_drew)); exact HO113.out) (Kd.R_base ho0) hb); have n1_ := Aside0.mk (Kd.R_elder' (by (with_reducible repeat (first | apply Kd.R_alloc | apply Kd.R_drewN | apply Kd.R_drew)); exact HO116.out) (Kd.R_base ho0) hb); have n2_ := Aside0.mk (Kd.R_lower (Kd.R_new' (Kd.R_new' ho0 (Kd.R_lt (by (with_reducible repeat (first | apply Kd.R_alloc | apply Kd.R_drewN | apply Kd.R_drew)); exact HO113.out))) (Kd.R_lt (by (with_reducible repeat (first | apply Kd.R_alloc | apply Kd.R_drewN | apply Kd.R_drew)); exact HO116.out))) (below_size (by repeat (first | (with_reducible first | exact HB.out | apply below_alloc | apply pw_below_drewN | apply below_drew1) | exact HB.out)))); have n3_ := Aside0.mk (below_step (by repeat (first | (with_reducible first | exact HB.out | apply below_alloc | apply pw_below_drewN | apply below_drew1) | exact HB.out)) hb); clear HO113; clear HO116; clear HB; have HO113 := n0_; have HO116 := n1_; have HO120 := n2_; have HB := n3_; clear n0_ n1_ n2_ n3_; (try clear hb); (try clear hb2); (try clear hk); (try clear hi); (try clear ho0); obtain ⟨Ao23, co23, eo23⟩ := Kd.R_slice HO120.out; subst eo23) | (go_at_call 9; (with_reducible refine (spec_SamePath.calls k1 _ _ t118 _ _ y111 t121 _ ?side1 ?side2 ?side3 ?side4 A16.out).mono ?_); (case side1 => repeat (first | exact (Kd.R_reads' HO120.out).2.2 | (with_reducible refine Kd.C_alloc ?_ _) | (with_reducible refine Kd.C_drewN ?_ _) | (with_reducible refine Kd.C_drew ?_))); (case side2 => exact (Kd.R_reads' HO120.out).2.1); (case side3 => repeat (first | exact (Kd.R_reads' HO113.out).2.2 | (with_reducible refine Kd.C_alloc ?_ _) | (with_reducible refine Kd.C_drewN ?_ _) | (with_reducible refine Kd.C_drew ?_))); (case side4 => exact (Kd.R_reads' HO113.out).2.1); rintro e w' ⟨rfl, ⟨nd, rfl⟩⟩))
              go_ret
              exact ⟨by first | rfl | (simp [errW_none, errW_some] <;> rfl) | (simp [*, errW_none, errW_some] <;> rfl), by repeat (first | (with_reducible first | exact HB.out | apply below_alloc | apply pw_below_drewN | apply below_drew1) | exact HB.out)⟩
            · replace c14 := Bool.eq_false_iff.mpr c14
              subst c14
              have H1 : (some false) = some r := by rw [if_neg (show ¬ (false = true) by decide)] at H; exact H
              clear H
              have H := H1
              clear H1
              obtain rfl := Option.some.inj H
              go_wp2_with (first | ((with_reducible refine gate_dst (N := 40) rfl ?_); refine Kd.R_lit k28 _ 28 ?hg (N := 40) ?hd (xs := ([(⟨(⟨#[97]⟩ : ByteArray), 0⟩ : S28)] : List (S28))) (inner := [.string (⟨#[97]⟩ : ByteArray), .int .i64 0]) (ok := fun _ => True) (okp := fun _ => True) ?hr ?hp (fun _ hk => hk) trivial (Below.refl _ _) (Nat.le_refl _) (by simp) ?_; (case hd => rfl); (case hg => rfl); (case hr => first | (go_simp; done) | (go_simp; rfl)); (case hp => exact (Reps.c2 (show Kd.M k28 _ _ _ (⟨(⟨#[97]⟩ : ByteArray), 0⟩ : S28) [.string (⟨#[97]⟩ : ByteArray), .int .i64 0] from (k28_mkM _ _ _ (⟨(⟨#[97]⟩ : ByteArray), 0⟩ : S28) )) (Reps.none _ _))); intro v112 w24 ho25 hb hg_ hnew_; clear hg_ hnew_; (first | rw [← Ny111.out] at ho25 | (simp only [Int.reduceToNat] at ho25; rw [← Ny111.out] at ho25)); have n0_ := Aside0.mk (Kd.R_lower ho25 (below_size (by repeat (first | (with_reducible first | exact HB.out | apply below_alloc | apply pw_below_drewN | apply below_drew1) | exact HB.out)))); have n1_ := Aside0.mk (below_step (by repeat (first | (with_reducible first | exact HB.out | apply below_alloc | apply pw_below_drewN | apply below_drew1) | exact HB.out)) hb); clear HB; have HO113 := n0_; have HB := n1_; clear n0_ n1_; clear hb ho25) | ((with_reducible refine gate_callee (f := 10) rfl ?_); refine goesL_ (some 42) rfl rfl Try.func10 (by kernel_rfl) rfl #[.slice A0 l0.length c0] rfl (by (try simp only [List.map_toArray, List.map_cons, List.map_nil]); first | done | rfl | (simp only [List.length_drop, List.length_take]; rfl)) ?_; (with_reducible refine (impl_PathOf.calls _ _ l0 t114 _ ?side1 ?side2 A12.out).mono ?_); (case side1 => repeat (first | exact (Kd.C_below HR0.out HB.out) | (with_reducible refine Kd.C_alloc ?_ _) | (with_reducible refine Kd.C_drewN ?_ _) | (with_reducible refine Kd.C_drew ?_))); (case side2 => exact HC0.out); rintro e w26 ⟨v115, rfl, ho0, hb⟩; refine ⟨_, rfl, ?_⟩; have n0_ := Aside0.mk (Kd.R_elder' (by (with_reducible repeat (first | apply Kd.R_alloc | apply Kd.R_drewN | apply Kd.R_drew)); exact HO113.out) (Kd.R_base ho0) hb); have n1_ := Aside0.mk (Kd.R_lower (Kd.R_new' ho0 (Kd.R_lt (by (with_reducible repeat (first | apply Kd.R_alloc | apply Kd.R_drewN | apply Kd.R_drew)); exact HO113.out))) (below_size (by repeat (first | (with_reducible first | exact HB.out | apply below_alloc | apply pw_below_drewN | apply below_drew1) | exact HB.out)))); have n2_ := Aside0.mk (below_step (by repeat (first | (with_reducible first | exact HB.out | apply below_alloc | apply pw_below_drewN | apply below_drew1) | exact HB.out)) hb); clear HO113; clear HB; have HO113 := n0_; have HO116 := n1_; have HB := n2_; clear n0_ n1_ n2_; (try clear hb); (try clear hb2); (try clear hk); (try clear hi); (try clear ho0); obtain ⟨Ao27, co27, eo27⟩ := Kd.R_slice HO116.out; subst eo27) | ((with_reducible refine gate_callee (f := 9) rfl ?_); refine goesL_ (some 44) rfl rfl Try.func9 (by kernel_rfl) rfl #[.slice Ao27 t114.length co27, .slice A0 l0.length c0] rfl (by (try simp only [List.map_toArray, List.map_cons, List.map_nil]); first | done | rfl | (simp only [List.length_drop, List.length_take]; rfl)) ?_; (with_reducible refine (spec_SamePath.calls k1 _ _ t114 _ _ l0 false _ ?side1 ?side2 ?side3 ?side4 A13.out).mono ?_); (case side1 => repeat (first | exact (Kd.R_reads' HO116.out).2.2 | (with_reducible refine Kd.C_alloc ?_ _) | (with_reducible refine Kd.C_drewN ?_ _) | (with_reducible refine Kd.C_drew ?_))); (case side2 => exact (Kd.R_reads' HO116.out).2.1); (case side3 => repeat (first | exact (Kd.C_below HR0.out HB.out) | (with_reducible refine Kd.C_alloc ?_ _) | (with_reducible refine Kd.C_drewN ?_ _) | (with_reducible refine Kd.C_drew ?_))); (case side4 => exact HC0.out); rintro e w' ⟨rfl, ⟨nd, rfl⟩⟩; refine ⟨_, rfl, ?_⟩))
              go_ret
              exact ⟨by first | rfl | (simp [errW_none, errW_some] <;> rfl) | (simp [*, errW_none, errW_some] <;> rfl), by repeat (first | (with_reducible first | exact HB.out | apply below_alloc | apply pw_below_drewN | apply below_drew1) | exact HB.out)⟩
  · replace c3 := Bool.eq_false_iff.mpr c3
    subst c3
    have H1 : (some true) = some r := by rw [if_neg (show ¬ (false = true) by decide)] at H; exact H
    clear H
    have H := H1
    clear H1
    obtain rfl := Option.some.inj H
    go_enter Try.func4, Try.ntmps4
    go_wp2_with (first | ((with_reducible refine gate_callee (f := 8) rfl ?_); refine goesL_ (some 6) rfl rfl Try.func8 (by kernel_rfl) rfl #[.slice A0 l0.length c0] rfl (by (try simp only [List.map_toArray, List.map_cons, List.map_nil]); first | done | rfl | (simp only [List.length_drop, List.length_take]; rfl)) ?_; (with_reducible refine (laws_zzFits6.calls k _ _ l0 false _ ?side1 ?side2 A2.out).mono ?_); (case side1 => repeat (first | exact HR0.out | (with_reducible refine Kd.C_alloc ?_ _) | (with_reducible refine Kd.C_drewN ?_ _) | (with_reducible refine Kd.C_drew ?_))); (case side2 => exact HC0.out); rintro e w28 ⟨rfl, hb⟩; refine ⟨_, rfl, ?_⟩; have n0_ := Aside0.mk (below_step (by repeat (first | (with_reducible first | exact HB.out | apply below_alloc | apply pw_below_drewN | apply below_drew1) | exact HB.out)) hb); clear HB; have HB := n0_; clear n0_; (try clear hb); (try clear hb2); (try clear hk); (try clear hi)))
    go_ret
    exact ⟨by first | rfl | (simp [errW_none, errW_some] <;> rfl) | (simp [*, errW_none, errW_some] <;> rfl), by repeat (first | (with_reducible first | exact HB.out | apply below_alloc | apply pw_below_drewN | apply below_drew1) | exact HB.out)⟩

end Go.Proofs.Ytmlochnckplalaa.PFnPathOf
