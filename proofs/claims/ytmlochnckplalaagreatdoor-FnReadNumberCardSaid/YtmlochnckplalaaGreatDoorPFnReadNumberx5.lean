/- FnReadNumber: the Go functions that the law reaches as Lean functions, and that the Go code answers what these answer, for every input and in every world that the statements name. Written by this session's program extprint.py over hand-written contracts of some functions. -/
import Derived.Test.YtmlochnckplalaaGreatDoorPFnReadNumberx0
import Derived.Test.YtmlochnckplalaaGreatDoorPFnReadNumberx1
namespace Go.Proofs.YtmlochnckplalaaGreatDoor.PFnReadNumber
open Go.RowKit Go.Proofs.YtmlochnckplalaaGreatDoorW.PrintWords Go.Proofs.YtmlochnckplalaaGreatDoorW.PrintLast Go.Proofs.YtmlochnckplalaaGreatDoorW.PrintMore
attribute [local go_sem] max2_int min2_int max_two min_two max_three min_three max_four min_four   -- for this text's walks alone
set_option linter.unusedVariables false
set_option linter.unusedSimpArgs false

attribute [local go_sem high] eqA24
/-! ### location_zzLineEnds: function 27 -/
mutual
def location_zzLineEnds.l0 : Nat → List Int → List (List Int) → Int → Option ((List (List Int)))
  | 0, _, _, _ => none
  | k + 1, x0, x3, x4 => if x4 < (x0.length : Int) then (if 0 ≤ x4 then (if (rd x0 x4) = 13 then (if (wrap64 (x4 + 1)) < (x0.length : Int) then (if 0 ≤ (wrap64 (x4 + 1)) then (location_zzLineEnds.j1 k x0 x3 x4 ((rd x0 (wrap64 (x4 + 1))) == 10)) else (none)) else (location_zzLineEnds.j1 k x0 x3 x4 false)) else (location_zzLineEnds.j1 k x0 x3 x4 false)) else (none)) else (some x3)
def location_zzLineEnds.j1 : Nat → List Int → List (List Int) → Int → Bool → Option ((List (List Int)))
  | 0, _, _, _, _ => none
  | k + 1, x0, x3, x4, x11 => if x11 = true then (if x3.length < 5864062014805 then (location_zzLineEnds.l0 k x0 (x3 ++ [(([x4, wrap64 (x4 + 2)] : List Int))]) (wrap64 ((wrap64 (x4 + 1)) + 1))) else (none)) else (if 0 ≤ x4 then (if x4 < (x0.length : Int) then (if (rd x0 x4) = 13 then (if x3.length < 5864062014805 then (location_zzLineEnds.l0 k x0 (x3 ++ [(([x4, wrap64 (x4 + 1)] : List Int))]) (wrap64 (x4 + 1))) else (none)) else (if (rd x0 x4) = 10 then (if x3.length < 5864062014805 then (location_zzLineEnds.l0 k x0 (x3 ++ [(([x4, wrap64 (x4 + 1)] : List Int))]) (wrap64 (x4 + 1))) else (none)) else (location_zzLineEnds.l0 k x0 x3 (wrap64 (x4 + 1))))) else (none)) else (none))
end
def location_zzLineEnds.f (k : Nat) (l0 : List Int) : Option ((List (List Int))) := location_zzLineEnds.l0 k l0 ([] : List (List Int)) 0
theorem location_zzLineEnds.mono_l : ∀ k, (∀ y0 y1 y2, LeO (location_zzLineEnds.l0 k y0 y1 y2) (location_zzLineEnds.l0 (k + 1) y0 y1 y2)) ∧ (∀ y0 y1 y2 y3, LeO (location_zzLineEnds.j1 k y0 y1 y2 y3) (location_zzLineEnds.j1 (k + 1) y0 y1 y2 y3))
  | 0 => ⟨fun _ _ _ r h => by simp [location_zzLineEnds.l0] at h, fun _ _ _ _ r h => by simp [location_zzLineEnds.j1] at h⟩
  | k + 1 => by
    obtain ⟨ih0, ih1⟩ := location_zzLineEnds.mono_l k
    refine ⟨?_, ?_⟩
    · intro y0 y1 y2
      unfold location_zzLineEnds.l0
      repeat' first
      | (with_reducible exact ih0 _ _ _)
      | (with_reducible exact ih1 _ _ _ _)
      | (with_reducible exact LeO.refl _)
      | (with_reducible exact LeO.none _)
      | (with_reducible refine LeO.ite ?_ ?_)
      | (with_reducible refine LeO.bind ?_ (fun _ => ?_))
      | exact ih0 _ _ _
      | exact ih1 _ _ _ _
      | exact LeO.none _
      | refine LeO.ite ?_ ?_
      | refine LeO.bind ?_ (fun _ => ?_)
    · intro y0 y1 y2 y3
      unfold location_zzLineEnds.j1
      repeat' first
      | (with_reducible exact ih0 _ _ _)
      | (with_reducible exact ih1 _ _ _ _)
      | (with_reducible exact LeO.refl _)
      | (with_reducible exact LeO.none _)
      | (with_reducible refine LeO.ite ?_ ?_)
      | (with_reducible refine LeO.bind ?_ (fun _ => ?_))
      | exact ih0 _ _ _
      | exact ih1 _ _ _ _
      | exact LeO.none _
      | refine LeO.ite ?_ ?_
      | refine LeO.bind ?_ (fun _ => ?_)
theorem location_zzLineEnds.mono : ∀ a0 k, LeO (location_zzLineEnds.f k a0) (location_zzLineEnds.f (k + 1) a0) := by
  intro a0 k
  obtain ⟨ih0, ih1⟩ := location_zzLineEnds.mono_l k
  unfold location_zzLineEnds.f
  repeat' first
      | (with_reducible exact ih0 _ _ _)
      | (with_reducible exact ih1 _ _ _ _)
      | (with_reducible exact LeO.refl _)
      | (with_reducible exact LeO.none _)
      | (with_reducible refine LeO.ite ?_ ?_)
      | (with_reducible refine LeO.bind ?_ (fun _ => ?_))
      | exact ih0 _ _ _
      | exact ih1 _ _ _ _
      | exact LeO.none _
      | refine LeO.ite ?_ ?_
      | refine LeO.bind ?_ (fun _ => ?_)
set_option maxHeartbeats 8000000 in
set_option maxRecDepth 100000 in
theorem location_zzLineEnds.calls (k : Nat) (A0 : Option Addr) (c0 : Nat) (l0 : List Int) (r : List (List Int)) (w : World) (hr0 : Kd.C (Kd.int .u8) w A0 l0.length l0) (hc0 : l0.length ≤ c0) (h : location_zzLineEnds.f k l0 = some r) :
    Calls Tryz.prog 27 #[.slice A0 l0.length c0] w fun e w' => ∃ v0_ : Value, e = .returned (v0_) ∧ Kd.S (Kd.slice 3 (Kd.int .i64)) 64 w' w.heap.size (fun _ => True) v0_ r ∧ Below w.heap.size w w' := by
  have HR0 := Aside0.mk hr0
  have HC0 := Aside0.mk hc0
  clear hr0 hc0
  have HB := Aside0.mk (Below.refl w.heap.size w)
  have H : (location_zzLineEnds.l0 k l0 ([] : List (List Int)) 0) = some r := h
  clear h
  have H' := Aside0.mk H
  clear H
  go_enter Tryz.func27, Tryz.ntmps27
  go_wp2
  go_loopg [3, 4] k (fun kq v3 v4 w' => ∃ (x3_1 : List (List Int)) (x4_1 : Int), v4 = .int .i64 x4_1 ∧ Aside0 (location_zzLineEnds.l0 kq l0 x3_1 x4_1 = some r) ∧ Aside0 (kq ≤ k) ∧ Aside0 (Kd.S (Kd.slice 3 (Kd.int .i64)) 64 w' w.heap.size (fun _ => True) v3 x3_1) ∧ Aside0 (Below w.heap.size w w'))
  case atStart => exact ⟨(([] : List (List Int))), (0), (by first | rfl | (simp; done) | (simp [*]; done)), H', ⟨Nat.le_refl _⟩, ⟨by first | exact Kd.S_nil _ _ _ _ _ | exact Kd.N_nil _ _ _ _ _ | exact Kd.V_nil _ _ _ _ _ | exact Kd.Q_nil _ _ _ _ _ | exact Kd.R_nil _ _ _ _ _⟩, ⟨by repeat (first | (with_reducible first | exact HB.out | apply below_alloc | apply pw_below_drewN | apply below_drew1) | exact HB.out)⟩⟩
  case round =>
    clear H'
    obtain ⟨x3_1, x4_1, rfl, HA, HK1, HO_3, HB⟩ := hrel
    cases gk with
    | zero => exact absurd HA.out (by simp [location_zzLineEnds.l0])
    | succ k1 =>
      have H := HA.out
      clear HA
      simp only [location_zzLineEnds.l0] at H
      by_cases c2 : x4_1 < (l0.length : Int)
      · rw [if_pos c2] at H
        have c2b0 : decide (x4_1 < (l0.length : Int)) = true := decide_eq_true c2
        clear c2
        have HC3 := Aside0.mk H
        clear H
        go_upto_region 5 with (fail)
        go_cut [11] (fun v11 wc => ∃ (kq : Nat) (x11_2 : Bool), v11 = .bool x11_2 ∧ Aside0 (location_zzLineEnds.j1 kq l0 x3_1 x4_1 x11_2 = some r) ∧ Aside0 (kq ≤ k1) ∧ Aside0 (Kd.S (Kd.slice 3 (Kd.int .i64)) 64 wc w.heap.size (fun _ => True) u3 x3_1) ∧ Aside0 (Below w.heap.size w wc))
        case first =>
          have H := HC3.out
          clear HC3
          by_cases c4 : 0 ≤ x4_1
          · rw [if_pos c4] at H
            have c4b0 : decide (0 ≤ x4_1) = true := decide_eq_true c4
            clear c4
            (first | rw [c4b0] | (simp only [i64_w, i32_w]; rw [c4b0]) | skip)
            by_cases c5 : (rd l0 x4_1) = 13
            · rw [if_pos c5] at H
              have c5b0 : ((rd l0 x4_1) == 13) = true := beq_iff_eq.mpr c5
              have c5b1 : ((rd l0 x4_1) != 13) = false := bne_eq_false_iff_eq.mpr c5
              clear c5
              by_cases c6 : (wrap64 (x4_1 + 1)) < (l0.length : Int)
              · rw [if_pos c6] at H
                have c6b0 : decide ((wrap64 (x4_1 + 1)) < (l0.length : Int)) = true := decide_eq_true c6
                clear c6
                obtain ⟨ji7, hji7⟩ : ∃ j_ : Int, (wrap64 (x4_1 + 1)) = j_ := ⟨_, rfl⟩
                replace H : (if 0 ≤ (ji7) then (location_zzLineEnds.j1 k1 l0 x3_1 x4_1 ((rd l0 (ji7)) == 10)) else (none)) = some r := by first | (rw [hji7] at H; exact H) | (simp only [hji7] at H ⊢; exact H)
                (try rw [hji7] at c6b0)
                have hji7w : (IntKind.i64.wrap (x4_1 + 1)) = ji7 := (i64_w _).trans hji7
                by_cases c8 : 0 ≤ (ji7)
                · rw [if_pos c8] at H
                  have c8b0 : decide (0 ≤ (ji7)) = true := decide_eq_true c8
                  clear c8
                  have H' := Aside0.mk H
                  clear H
                  have p162 : 0 ≤ (x4_1 : Int) := of_decide_eq_true (by first | (with_reducible assumption) | assumption)
                  have q162 : x4_1 < (l0.length : Int) := of_decide_eq_true (by first | (with_reducible assumption) | assumption)
                  obtain ⟨ad162, e162, hx162_0⟩ := Kd.at_int HR0.out x4_1 p162 q162
                  cases e162
                  replace hx162_0 := (HB.out.cell (World.block_lt_of_cell? w _ hx162_0)).trans hx162_0
                  replace p162 := eq_true p162
                  replace q162 := eq_true q162
                  have p163 : 0 ≤ ((ji7) : Int) := of_decide_eq_true (by first | (with_reducible assumption) | assumption)
                  have q163 : (ji7) < (l0.length : Int) := of_decide_eq_true (by first | (with_reducible assumption) | assumption)
                  obtain ⟨ad163, e163, hx163_0⟩ := Kd.at_int HR0.out (ji7) p163 q163
                  obtain rfl : ad162 = ad163 := (by injection e163)
                  replace hx163_0 := (HB.out.cell (World.block_lt_of_cell? w _ hx163_0)).trans hx163_0
                  replace p163 := eq_true p163
                  replace q163 := eq_true q163
                  go_wp2
                  go_meet
                  case rel => exact ⟨_, (((rd l0 (ji7)) == 10)), (by first | rfl | (simp; done) | (simp only [← hji7] <;> (first | rfl | simp)) | (simp [*]; done)), H', ⟨by have := HK1.out; first | omega | exact Nat.le_refl _⟩, ⟨by (with_reducible repeat (first | apply Kd.S_alloc | apply Kd.S_drewN | apply Kd.S_drew)); exact HO_3.out⟩, ⟨by repeat (first | (with_reducible first | exact HB.out | apply below_alloc | apply pw_below_drewN | apply below_drew1) | exact HB.out)⟩⟩
                · rw [if_neg c8] at H
                  exact absurd H (by simp)
              · rw [if_neg c6] at H
                have c6b0 : decide ((wrap64 (x4_1 + 1)) < (l0.length : Int)) = false := decide_eq_false c6
                clear c6
                have H' := Aside0.mk H
                clear H
                have p162 : 0 ≤ (x4_1 : Int) := of_decide_eq_true (by first | (with_reducible assumption) | assumption)
                have q162 : x4_1 < (l0.length : Int) := of_decide_eq_true (by first | (with_reducible assumption) | assumption)
                obtain ⟨ad162, e162, hx162_0⟩ := Kd.at_int HR0.out x4_1 p162 q162
                cases e162
                replace hx162_0 := (HB.out.cell (World.block_lt_of_cell? w _ hx162_0)).trans hx162_0
                replace p162 := eq_true p162
                replace q162 := eq_true q162
                go_wp2
                go_meet
                case rel => exact ⟨_, (false), (by first | rfl | (simp; done) | (simp [*]; done)), H', ⟨by have := HK1.out; first | omega | exact Nat.le_refl _⟩, ⟨by (with_reducible repeat (first | apply Kd.S_alloc | apply Kd.S_drewN | apply Kd.S_drew)); exact HO_3.out⟩, ⟨by repeat (first | (with_reducible first | exact HB.out | apply below_alloc | apply pw_below_drewN | apply below_drew1) | exact HB.out)⟩⟩
            · rw [if_neg c5] at H
              have c5b0 : ((rd l0 x4_1) == 13) = false := beq_eq_false_iff_ne.mpr c5
              have c5b1 : ((rd l0 x4_1) != 13) = true := bne_iff_ne.mpr c5
              have H' := Aside0.mk H
              clear H
              have p162 : 0 ≤ (x4_1 : Int) := of_decide_eq_true (by first | (with_reducible assumption) | assumption)
              have q162 : x4_1 < (l0.length : Int) := of_decide_eq_true (by first | (with_reducible assumption) | assumption)
              obtain ⟨ad162, e162, hx162_0⟩ := Kd.at_int HR0.out x4_1 p162 q162
              cases e162
              replace hx162_0 := (HB.out.cell (World.block_lt_of_cell? w _ hx162_0)).trans hx162_0
              replace p162 := eq_true p162
              replace q162 := eq_true q162
              go_wp2
              go_meet
              case rel => exact ⟨_, (false), (by first | rfl | (simp; done) | (simp [*]; done)), H', ⟨by have := HK1.out; first | omega | exact Nat.le_refl _⟩, ⟨by (with_reducible repeat (first | apply Kd.S_alloc | apply Kd.S_drewN | apply Kd.S_drew)); exact HO_3.out⟩, ⟨by repeat (first | (with_reducible first | exact HB.out | apply below_alloc | apply pw_below_drewN | apply below_drew1) | exact HB.out)⟩⟩
          · rw [if_neg c4] at H
            exact absurd H (by simp)
        case rest =>
          clear HC3
          try clear p1
          try clear q1
          try clear hx1
          try clear c2
          try clear c2b0
          try clear p2
          try clear c4
          try clear c4b0
          try clear c5
          try clear c5b0
          try clear c5b1
          try clear c6
          try clear c6b0
          try clear p6
          try clear c8
          try clear c8b0
          try clear hx162_0
          try clear hx163_0
          try clear p162
          try clear p163
          try clear q162
          try clear q163
          obtain ⟨kq, x11_2, rfl, HA, HJ2, HO_3, HB⟩ := hcut
          cases kq with
          | zero => exact absurd HA.out (by simp [location_zzLineEnds.j1])
          | succ kj2 =>
            have H := HA.out
            clear HA
            simp only [location_zzLineEnds.j1] at H
            by_cases c9 : x11_2 = true
            · subst c9
              have H1 : (if x3_1.length < 5864062014805 then (location_zzLineEnds.l0 kj2 l0 (x3_1 ++ [(([x4_1, wrap64 (x4_1 + 2)] : List Int))]) (wrap64 ((wrap64 (x4_1 + 1)) + 1))) else (none)) = some r := by rw [if_pos rfl] at H; exact H
              clear H
              have H := H1
              clear H1
              obtain ⟨y164, hy164⟩ : ∃ y_ : List Int, y_ = (([x4_1, wrap64 (x4_1 + 2)] : List Int)) := ⟨_, rfl⟩
              replace H : (if x3_1.length < 5864062014805 then (location_zzLineEnds.l0 kj2 l0 (x3_1 ++ [y164]) (wrap64 ((wrap64 (x4_1 + 1)) + 1))) else (none)) = some r := by first | (rw [hy164]; with_reducible exact H) | (have H2_ := (Option.bind_some _ _).symm.trans H; rw [hy164]; with_reducible exact H2_) | (have H2_ := (Option.bind_some _ _).symm.trans H; with_reducible exact H2_) | with_reducible exact H | (rw [hy164]; exact H) | exact H
              have Ny164 := Aside0.mk hy164
              clear hy164
              by_cases c10 : x3_1.length < 5864062014805
              · rw [if_pos c10] at H
                have LMc10 := Aside0.mk c10
                clear c10
                obtain ⟨y167, hy167⟩ : ∃ y_ : List (List Int), y_ = (x3_1 ++ [y164]) := ⟨_, rfl⟩
                replace H : (location_zzLineEnds.l0 kj2 l0 y167 (wrap64 ((wrap64 (x4_1 + 1)) + 1))) = some r := by first | (rw [hy167]; with_reducible exact H) | (have H2_ := (Option.bind_some _ _).symm.trans H; rw [hy167]; with_reducible exact H2_) | (have H2_ := (Option.bind_some _ _).symm.trans H; with_reducible exact H2_) | with_reducible exact H | (rw [hy167]; exact H) | exact H
                have Ny167 := Aside0.mk hy167
                clear hy167
                have H' := Aside0.mk H
                clear H
                go_wp2_with (first | ((with_reducible refine gate_dst (N := 36) rfl ?_); (try (refine gate_guard (by rfl) ?_; dsimp only)); refine Kd.R_lit (Kd.int .i64) _ 3 ?hg (N := 36) ?hd (xs := ([x4_1, wrap64 (x4_1 + 2)] : List Int)) (inner := [.int .i64 x4_1, .int .i64 (wrap64 (x4_1 + 2))]) (ok := fun _ => True) (okp := fun _ => True) ?hr ?hp (fun _ hk => hk) trivial (Below.refl _ _) (Nat.le_refl _) (by simp) ?_; (case hd => rfl); (case hg => rfl); (case hr => first | (go_simp; done) | (go_simp; rfl)); (case hp => exact (Reps.one (show Kd.M (Kd.int .i64) _ _ _ x4_1 [.int .i64 x4_1] from rfl) (Reps.one (show Kd.M (Kd.int .i64) _ _ _ (wrap64 (x4_1 + 2)) [.int .i64 (wrap64 (x4_1 + 2))] from rfl) (Reps.none _ _)))); intro v165 w11 ho12 hb hg_ hnew_; clear hg_ hnew_; (first | rw [← Ny164.out] at ho12 | (simp only [Int.reduceToNat] at ho12; rw [← Ny164.out] at ho12)); have n0_ := Aside0.mk (Kd.S_elder' (by (with_reducible repeat (first | apply Kd.S_alloc | apply Kd.S_drewN | apply Kd.S_drew)); exact HO_3.out) (Kd.R_base ho12) hb); have n1_ := Aside0.mk (Kd.R_lower ho12 (below_size (by repeat (first | (with_reducible first | exact HB.out | apply below_alloc | apply pw_below_drewN | apply below_drew1) | exact HB.out)))); have n2_ := Aside0.mk (below_step (by repeat (first | (with_reducible first | exact HB.out | apply below_alloc | apply pw_below_drewN | apply below_drew1) | exact HB.out)) hb); clear HO_3; clear HB; have HO_3 := n0_; have HO166 := n1_; have HB := n2_; clear n0_ n1_ n2_; clear hb ho12; obtain ⟨Ao14, co14, eo14⟩ := Kd.R_slice HO166.out; subst eo14) | ((with_reducible refine gate_builtin (b := .append) (xs := #[.tmp 32, .tmp 37]) rfl ?_); (try (refine gate_guard (by rfl) ?_; dsimp only)); at_builtin; refine Kd.S_append (Kd.slice 3 (Kd.int .i64)) (w0 := w) w.heap.size rfl (.tmp 32) (.tmp 37) 120 64 (.slice none 0 0) 24 rfl Tryz.underlying120 info64 rfl (by decide) (by omega) u3 x3_1 y164 [.slice Ao14 y164.length co14] (fun _ => True) (fun k_ => some k_ = (.slice Ao14 y164.length co14 : Value).ownBlock) rfl rfl ?aP (fun k_ hk_ => ((Kd.R_mono (ok' := fun k_ => ((fun _ => True)) k_ ∧ some k_ ≠ (u3 : Value).ownBlock) (Kd.R_apart' (HO166.out) (Kd.S_typed HO_3.out) (by decide)) (fun k_ hk => ⟨trivial, hk.2⟩))).1 k_ hk_.symm) ?aF ?aO ?aB ?aS ?aL ?_; (case aP => exact Kd.M_row (Kd.R_mono (Kd.R_tight rfl (Kd.R_mono (ok' := fun k_ => ((fun _ => True)) k_ ∧ some k_ ≠ (u3 : Value).ownBlock) (Kd.R_apart' (HO166.out) (Kd.S_typed HO_3.out) (by decide)) (fun k_ hk => ⟨trivial, hk.2⟩))) (fun _ h_ => h_))); (case aB => exact (by repeat (first | (with_reducible first | exact HB.out | apply below_alloc | apply pw_below_drewN | apply below_drew1) | exact HB.out))); (case aF => exact (fun _ _ => trivial)); (case aO => exact (by (with_reducible repeat (first | apply Kd.S_alloc | apply Kd.S_drewN | apply Kd.S_drew)); exact Kd.S_mono HO_3.out (fun k_ hk => ⟨trivial, fun e_ => hk.2 e_⟩))); (case aS => exact (below_size (by repeat (first | (with_reducible first | exact HB.out | apply below_alloc | apply pw_below_drewN | apply below_drew1) | exact HB.out)))); (case aL => have := LMc10.out; omega); intro v168 w13 ho hb hg hat; rw [← Ny167.out] at ho; have n0_ := Aside0.mk (hb); have n1_ := Aside0.mk (ho); clear HB; clear HO_3; clear HO166; have HB := n0_; have HO169 := n1_; clear n0_ n1_; clear ho hb hg hat))
                go_roundg kj2
                case measure => have := HK1.out; have := HJ2.out; omega
                case rel => exact ⟨(y167), (wrap64 ((wrap64 (x4_1 + 1)) + 1)), (by first | rfl | (simp; done) | (simp [*]; done)), H', ⟨by have := HK1.out; have := HJ2.out; omega⟩, ⟨by (with_reducible repeat (first | apply Kd.S_alloc | apply Kd.S_drewN | apply Kd.S_drew)); exact HO169.out⟩, ⟨by repeat (first | (with_reducible first | exact HB.out | apply below_alloc | apply pw_below_drewN | apply below_drew1) | exact HB.out)⟩⟩
              · rw [if_neg c10] at H
                exact absurd H (by simp)
            · replace c9 := Bool.eq_false_iff.mpr c9
              subst c9
              have H1 : (if 0 ≤ x4_1 then (if x4_1 < (l0.length : Int) then (if (rd l0 x4_1) = 13 then (if x3_1.length < 5864062014805 then (location_zzLineEnds.l0 kj2 l0 (x3_1 ++ [(([x4_1, wrap64 (x4_1 + 1)] : List Int))]) (wrap64 (x4_1 + 1))) else (none)) else (if (rd l0 x4_1) = 10 then (if x3_1.length < 5864062014805 then (location_zzLineEnds.l0 kj2 l0 (x3_1 ++ [(([x4_1, wrap64 (x4_1 + 1)] : List Int))]) (wrap64 (x4_1 + 1))) else (none)) else (location_zzLineEnds.l0 kj2 l0 x3_1 (wrap64 (x4_1 + 1))))) else (none)) else (none)) = some r := by rw [if_neg (show ¬ (false = true) by decide)] at H; exact H
              clear H
              have H := H1
              clear H1
              by_cases c15 : 0 ≤ x4_1
              · rw [if_pos c15] at H
                have c15b0 : decide (0 ≤ x4_1) = true := decide_eq_true c15
                clear c15
                by_cases c16 : x4_1 < (l0.length : Int)
                · rw [if_pos c16] at H
                  have c16b0 : decide (x4_1 < (l0.length : Int)) = true := decide_eq_true c16
                  clear c16
                  by_cases c17 : (rd l0 x4_1) = 13
                  · rw [if_pos c17] at H
                    have c17b0 : ((rd l0 x4_1) == 13) = true := beq_iff_eq.mpr c17
                    have c17b1 : ((rd l0 x4_1) != 13) = false := bne_eq_false_iff_eq.mpr c17
                    clear c17
                    obtain ⟨y171, hy171⟩ : ∃ y_ : List Int, y_ = (([x4_1, wrap64 (x4_1 + 1)] : List Int)) := ⟨_, rfl⟩
                    replace H : (if x3_1.length < 5864062014805 then (location_zzLineEnds.l0 kj2 l0 (x3_1 ++ [y171]) (wrap64 (x4_1 + 1))) else (none)) = some r := by first | (rw [hy171]; with_reducible exact H) | (have H2_ := (Option.bind_some _ _).symm.trans H; rw [hy171]; with_reducible exact H2_) | (have H2_ := (Option.bind_some _ _).symm.trans H; with_reducible exact H2_) | with_reducible exact H | (rw [hy171]; exact H) | exact H
                    have Ny171 := Aside0.mk hy171
                    clear hy171
                    by_cases c18 : x3_1.length < 5864062014805
                    · rw [if_pos c18] at H
                      have LMc18 := Aside0.mk c18
                      clear c18
                      obtain ⟨y174, hy174⟩ : ∃ y_ : List (List Int), y_ = (x3_1 ++ [y171]) := ⟨_, rfl⟩
                      replace H : (location_zzLineEnds.l0 kj2 l0 y174 (wrap64 (x4_1 + 1))) = some r := by first | (rw [hy174]; with_reducible exact H) | (have H2_ := (Option.bind_some _ _).symm.trans H; rw [hy174]; with_reducible exact H2_) | (have H2_ := (Option.bind_some _ _).symm.trans H; with_reducible exact H2_) | with_reducible exact H | (rw [hy174]; exact H) | exact H
                      have Ny174 := Aside0.mk hy174
                      clear hy174
                      have H' := Aside0.mk H
                      clear H
                      have p170 : 0 ≤ (x4_1 : Int) := of_decide_eq_true (by first | (with_reducible assumption) | assumption)
                      have q170 : x4_1 < (l0.length : Int) := of_decide_eq_true (by first | (with_reducible assumption) | assumption)
                      obtain ⟨ad170, e170, hx170_0⟩ := Kd.at_int HR0.out x4_1 p170 q170
                      cases e170
                      replace hx170_0 := (HB.out.cell (World.block_lt_of_cell? w _ hx170_0)).trans hx170_0
                      replace p170 := eq_true p170
                      replace q170 := eq_true q170
                      go_wp2_with (first | ((with_reducible refine gate_dst (N := 58) rfl ?_); (try (refine gate_guard (by rfl) ?_; dsimp only)); refine Kd.R_lit (Kd.int .i64) _ 3 ?hg (N := 58) ?hd (xs := ([x4_1, wrap64 (x4_1 + 1)] : List Int)) (inner := [.int .i64 x4_1, .int .i64 (wrap64 (x4_1 + 1))]) (ok := fun _ => True) (okp := fun _ => True) ?hr ?hp (fun _ hk => hk) trivial (Below.refl _ _) (Nat.le_refl _) (by simp) ?_; (case hd => rfl); (case hg => rfl); (case hr => first | (go_simp; done) | (go_simp; rfl)); (case hp => exact (Reps.one (show Kd.M (Kd.int .i64) _ _ _ x4_1 [.int .i64 x4_1] from rfl) (Reps.one (show Kd.M (Kd.int .i64) _ _ _ (wrap64 (x4_1 + 1)) [.int .i64 (wrap64 (x4_1 + 1))] from rfl) (Reps.none _ _)))); intro v172 w19 ho20 hb hg_ hnew_; clear hg_ hnew_; (first | rw [← Ny171.out] at ho20 | (simp only [Int.reduceToNat] at ho20; rw [← Ny171.out] at ho20)); have n0_ := Aside0.mk (Kd.S_elder' (by (with_reducible repeat (first | apply Kd.S_alloc | apply Kd.S_drewN | apply Kd.S_drew)); exact HO_3.out) (Kd.R_base ho20) hb); have n1_ := Aside0.mk (Kd.R_lower ho20 (below_size (by repeat (first | (with_reducible first | exact HB.out | apply below_alloc | apply pw_below_drewN | apply below_drew1) | exact HB.out)))); have n2_ := Aside0.mk (below_step (by repeat (first | (with_reducible first | exact HB.out | apply below_alloc | apply pw_below_drewN | apply below_drew1) | exact HB.out)) hb); clear HO_3; clear HB; have HO_3 := n0_; have HO173 := n1_; have HB := n2_; clear n0_ n1_ n2_; clear hb ho20; obtain ⟨Ao22, co22, eo22⟩ := Kd.R_slice HO173.out; subst eo22) | ((with_reducible refine gate_builtin (b := .append) (xs := #[.tmp 54, .tmp 59]) rfl ?_); (try (refine gate_guard (by rfl) ?_; dsimp only)); at_builtin; refine Kd.S_append (Kd.slice 3 (Kd.int .i64)) (w0 := w) w.heap.size rfl (.tmp 54) (.tmp 59) 120 64 (.slice none 0 0) 24 rfl Tryz.underlying120 info64 rfl (by decide) (by omega) u3 x3_1 y171 [.slice Ao22 y171.length co22] (fun _ => True) (fun k_ => some k_ = (.slice Ao22 y171.length co22 : Value).ownBlock) rfl rfl ?aP (fun k_ hk_ => ((Kd.R_mono (ok' := fun k_ => ((fun _ => True)) k_ ∧ some k_ ≠ (u3 : Value).ownBlock) (Kd.R_apart' (HO173.out) (Kd.S_typed HO_3.out) (by decide)) (fun k_ hk => ⟨trivial, hk.2⟩))).1 k_ hk_.symm) ?aF ?aO ?aB ?aS ?aL ?_; (case aP => exact Kd.M_row (Kd.R_mono (Kd.R_tight rfl (Kd.R_mono (ok' := fun k_ => ((fun _ => True)) k_ ∧ some k_ ≠ (u3 : Value).ownBlock) (Kd.R_apart' (HO173.out) (Kd.S_typed HO_3.out) (by decide)) (fun k_ hk => ⟨trivial, hk.2⟩))) (fun _ h_ => h_))); (case aB => exact (by repeat (first | (with_reducible first | exact HB.out | apply below_alloc | apply pw_below_drewN | apply below_drew1) | exact HB.out))); (case aF => exact (fun _ _ => trivial)); (case aO => exact (by (with_reducible repeat (first | apply Kd.S_alloc | apply Kd.S_drewN | apply Kd.S_drew)); exact Kd.S_mono HO_3.out (fun k_ hk => ⟨trivial, fun e_ => hk.2 e_⟩))); (case aS => exact (below_size (by repeat (first | (with_reducible first | exact HB.out | apply below_alloc | apply pw_below_drewN | apply below_drew1) | exact HB.out)))); (case aL => have := LMc18.out; omega); intro v175 w21 ho hb hg hat; rw [← Ny174.out] at ho; have n0_ := Aside0.mk (hb); have n1_ := Aside0.mk (ho); clear HB; clear HO_3; clear HO173; have HB := n0_; have HO176 := n1_; clear n0_ n1_; clear ho hb hg hat))
                      go_roundg kj2
                      case measure => have := HK1.out; have := HJ2.out; omega
                      case rel => exact ⟨(y174), (wrap64 (x4_1 + 1)), (by first | rfl | (simp; done) | (simp [*]; done)), H', ⟨by have := HK1.out; have := HJ2.out; omega⟩, ⟨by (with_reducible repeat (first | apply Kd.S_alloc | apply Kd.S_drewN | apply Kd.S_drew)); exact HO176.out⟩, ⟨by repeat (first | (with_reducible first | exact HB.out | apply below_alloc | apply pw_below_drewN | apply below_drew1) | exact HB.out)⟩⟩
                    · rw [if_neg c18] at H
                      exact absurd H (by simp)
                  · rw [if_neg c17] at H
                    have c17b0 : ((rd l0 x4_1) == 13) = false := beq_eq_false_iff_ne.mpr c17
                    have c17b1 : ((rd l0 x4_1) != 13) = true := bne_iff_ne.mpr c17
                    by_cases c23 : (rd l0 x4_1) = 10
                    · rw [if_pos c23] at H
                      have c23b0 : ((rd l0 x4_1) == 10) = true := beq_iff_eq.mpr c23
                      have c23b1 : ((rd l0 x4_1) != 10) = false := bne_eq_false_iff_eq.mpr c23
                      clear c23
                      obtain ⟨y178, hy178⟩ : ∃ y_ : List Int, y_ = (([x4_1, wrap64 (x4_1 + 1)] : List Int)) := ⟨_, rfl⟩
                      replace H : (if x3_1.length < 5864062014805 then (location_zzLineEnds.l0 kj2 l0 (x3_1 ++ [y178]) (wrap64 (x4_1 + 1))) else (none)) = some r := by first | (rw [hy178]; with_reducible exact H) | (have H2_ := (Option.bind_some _ _).symm.trans H; rw [hy178]; with_reducible exact H2_) | (have H2_ := (Option.bind_some _ _).symm.trans H; with_reducible exact H2_) | with_reducible exact H | (rw [hy178]; exact H) | exact H
                      have Ny178 := Aside0.mk hy178
                      clear hy178
                      by_cases c24 : x3_1.length < 5864062014805
                      · rw [if_pos c24] at H
                        have LMc24 := Aside0.mk c24
                        clear c24
                        obtain ⟨y181, hy181⟩ : ∃ y_ : List (List Int), y_ = (x3_1 ++ [y178]) := ⟨_, rfl⟩
                        replace H : (location_zzLineEnds.l0 kj2 l0 y181 (wrap64 (x4_1 + 1))) = some r := by first | (rw [hy181]; with_reducible exact H) | (have H2_ := (Option.bind_some _ _).symm.trans H; rw [hy181]; with_reducible exact H2_) | (have H2_ := (Option.bind_some _ _).symm.trans H; with_reducible exact H2_) | with_reducible exact H | (rw [hy181]; exact H) | exact H
                        have Ny181 := Aside0.mk hy181
                        clear hy181
                        have H' := Aside0.mk H
                        clear H
                        have p170 : 0 ≤ (x4_1 : Int) := of_decide_eq_true (by first | (with_reducible assumption) | assumption)
                        have q170 : x4_1 < (l0.length : Int) := of_decide_eq_true (by first | (with_reducible assumption) | assumption)
                        obtain ⟨ad170, e170, hx170_0⟩ := Kd.at_int HR0.out x4_1 p170 q170
                        cases e170
                        replace hx170_0 := (HB.out.cell (World.block_lt_of_cell? w _ hx170_0)).trans hx170_0
                        replace p170 := eq_true p170
                        replace q170 := eq_true q170
                        have p177 : 0 ≤ (x4_1 : Int) := of_decide_eq_true (by first | (with_reducible assumption) | assumption)
                        have q177 : x4_1 < (l0.length : Int) := of_decide_eq_true (by first | (with_reducible assumption) | assumption)
                        obtain ⟨ad177, e177, hx177_0⟩ := Kd.at_int HR0.out x4_1 p177 q177
                        obtain rfl : ad170 = ad177 := (by injection e177)
                        replace hx177_0 := (HB.out.cell (World.block_lt_of_cell? w _ hx177_0)).trans hx177_0
                        replace p177 := eq_true p177
                        replace q177 := eq_true q177
                        go_wp2_with (first | ((with_reducible refine gate_dst (N := 58) rfl ?_); (try (refine gate_guard (by rfl) ?_; dsimp only)); refine Kd.R_lit (Kd.int .i64) _ 3 ?hg (N := 58) ?hd (xs := ([x4_1, wrap64 (x4_1 + 1)] : List Int)) (inner := [.int .i64 x4_1, .int .i64 (wrap64 (x4_1 + 1))]) (ok := fun _ => True) (okp := fun _ => True) ?hr ?hp (fun _ hk => hk) trivial (Below.refl _ _) (Nat.le_refl _) (by simp) ?_; (case hd => rfl); (case hg => rfl); (case hr => first | (go_simp; done) | (go_simp; rfl)); (case hp => exact (Reps.one (show Kd.M (Kd.int .i64) _ _ _ x4_1 [.int .i64 x4_1] from rfl) (Reps.one (show Kd.M (Kd.int .i64) _ _ _ (wrap64 (x4_1 + 1)) [.int .i64 (wrap64 (x4_1 + 1))] from rfl) (Reps.none _ _)))); intro v179 w25 ho26 hb hg_ hnew_; clear hg_ hnew_; (first | rw [← Ny178.out] at ho26 | (simp only [Int.reduceToNat] at ho26; rw [← Ny178.out] at ho26)); have n0_ := Aside0.mk (Kd.S_elder' (by (with_reducible repeat (first | apply Kd.S_alloc | apply Kd.S_drewN | apply Kd.S_drew)); exact HO_3.out) (Kd.R_base ho26) hb); have n1_ := Aside0.mk (Kd.R_lower ho26 (below_size (by repeat (first | (with_reducible first | exact HB.out | apply below_alloc | apply pw_below_drewN | apply below_drew1) | exact HB.out)))); have n2_ := Aside0.mk (below_step (by repeat (first | (with_reducible first | exact HB.out | apply below_alloc | apply pw_below_drewN | apply below_drew1) | exact HB.out)) hb); clear HO_3; clear HB; have HO_3 := n0_; have HO180 := n1_; have HB := n2_; clear n0_ n1_ n2_; clear hb ho26; obtain ⟨Ao28, co28, eo28⟩ := Kd.R_slice HO180.out; subst eo28) | ((with_reducible refine gate_builtin (b := .append) (xs := #[.tmp 54, .tmp 59]) rfl ?_); (try (refine gate_guard (by rfl) ?_; dsimp only)); at_builtin; refine Kd.S_append (Kd.slice 3 (Kd.int .i64)) (w0 := w) w.heap.size rfl (.tmp 54) (.tmp 59) 120 64 (.slice none 0 0) 24 rfl Tryz.underlying120 info64 rfl (by decide) (by omega) u3 x3_1 y178 [.slice Ao28 y178.length co28] (fun _ => True) (fun k_ => some k_ = (.slice Ao28 y178.length co28 : Value).ownBlock) rfl rfl ?aP (fun k_ hk_ => ((Kd.R_mono (ok' := fun k_ => ((fun _ => True)) k_ ∧ some k_ ≠ (u3 : Value).ownBlock) (Kd.R_apart' (HO180.out) (Kd.S_typed HO_3.out) (by decide)) (fun k_ hk => ⟨trivial, hk.2⟩))).1 k_ hk_.symm) ?aF ?aO ?aB ?aS ?aL ?_; (case aP => exact Kd.M_row (Kd.R_mono (Kd.R_tight rfl (Kd.R_mono (ok' := fun k_ => ((fun _ => True)) k_ ∧ some k_ ≠ (u3 : Value).ownBlock) (Kd.R_apart' (HO180.out) (Kd.S_typed HO_3.out) (by decide)) (fun k_ hk => ⟨trivial, hk.2⟩))) (fun _ h_ => h_))); (case aB => exact (by repeat (first | (with_reducible first | exact HB.out | apply below_alloc | apply pw_below_drewN | apply below_drew1) | exact HB.out))); (case aF => exact (fun _ _ => trivial)); (case aO => exact (by (with_reducible repeat (first | apply Kd.S_alloc | apply Kd.S_drewN | apply Kd.S_drew)); exact Kd.S_mono HO_3.out (fun k_ hk => ⟨trivial, fun e_ => hk.2 e_⟩))); (case aS => exact (below_size (by repeat (first | (with_reducible first | exact HB.out | apply below_alloc | apply pw_below_drewN | apply below_drew1) | exact HB.out)))); (case aL => have := LMc24.out; omega); intro v182 w27 ho hb hg hat; rw [← Ny181.out] at ho; have n0_ := Aside0.mk (hb); have n1_ := Aside0.mk (ho); clear HB; clear HO_3; clear HO180; have HB := n0_; have HO183 := n1_; clear n0_ n1_; clear ho hb hg hat))
                        go_roundg kj2
                        case measure => have := HK1.out; have := HJ2.out; omega
                        case rel => exact ⟨(y181), (wrap64 (x4_1 + 1)), (by first | rfl | (simp; done) | (simp [*]; done)), H', ⟨by have := HK1.out; have := HJ2.out; omega⟩, ⟨by (with_reducible repeat (first | apply Kd.S_alloc | apply Kd.S_drewN | apply Kd.S_drew)); exact HO183.out⟩, ⟨by repeat (first | (with_reducible first | exact HB.out | apply below_alloc | apply pw_below_drewN | apply below_drew1) | exact HB.out)⟩⟩
                      · rw [if_neg c24] at H
                        exact absurd H (by simp)
                    · rw [if_neg c23] at H
                      have c23b0 : ((rd l0 x4_1) == 10) = false := beq_eq_false_iff_ne.mpr c23
                      have c23b1 : ((rd l0 x4_1) != 10) = true := bne_iff_ne.mpr c23
                      have H' := Aside0.mk H
                      clear H
                      have p170 : 0 ≤ (x4_1 : Int) := of_decide_eq_true (by first | (with_reducible assumption) | assumption)
                      have q170 : x4_1 < (l0.length : Int) := of_decide_eq_true (by first | (with_reducible assumption) | assumption)
                      obtain ⟨ad170, e170, hx170_0⟩ := Kd.at_int HR0.out x4_1 p170 q170
                      cases e170
                      replace hx170_0 := (HB.out.cell (World.block_lt_of_cell? w _ hx170_0)).trans hx170_0
                      replace p170 := eq_true p170
                      replace q170 := eq_true q170
                      have p177 : 0 ≤ (x4_1 : Int) := of_decide_eq_true (by first | (with_reducible assumption) | assumption)
                      have q177 : x4_1 < (l0.length : Int) := of_decide_eq_true (by first | (with_reducible assumption) | assumption)
                      obtain ⟨ad177, e177, hx177_0⟩ := Kd.at_int HR0.out x4_1 p177 q177
                      obtain rfl : ad170 = ad177 := (by injection e177)
                      replace hx177_0 := (HB.out.cell (World.block_lt_of_cell? w _ hx177_0)).trans hx177_0
                      replace p177 := eq_true p177
                      replace q177 := eq_true q177
                      go_wp2
                      go_roundg kj2
                      case measure => have := HK1.out; have := HJ2.out; omega
                      case rel => exact ⟨(x3_1), (wrap64 (x4_1 + 1)), (by first | rfl | (simp; done) | (simp [*]; done)), H', ⟨by have := HK1.out; have := HJ2.out; omega⟩, ⟨by (with_reducible repeat (first | apply Kd.S_alloc | apply Kd.S_drewN | apply Kd.S_drew)); exact HO_3.out⟩, ⟨by repeat (first | (with_reducible first | exact HB.out | apply below_alloc | apply pw_below_drewN | apply below_drew1) | exact HB.out)⟩⟩
                · rw [if_neg c16] at H
                  exact absurd H (by simp)
              · rw [if_neg c15] at H
                exact absurd H (by simp)
      · rw [if_neg c2] at H
        have c2b0 : decide (x4_1 < (l0.length : Int)) = false := decide_eq_false c2
        clear c2
        obtain rfl := Option.some.inj H
        go_wp2
        go_ret
        exact ⟨_, by first | rfl | (simp [errW_none, errW_some] <;> rfl) | (simp [*, errW_none, errW_some] <;> rfl), by (with_reducible repeat (first | apply Kd.S_alloc | apply Kd.S_drewN | apply Kd.S_drew)); exact HO_3.out, by repeat (first | (with_reducible first | exact HB.out | apply below_alloc | apply pw_below_drewN | apply below_drew1) | exact HB.out)⟩

-- NOT PRINTED: function 26 (location_GetLocation)

-- NOT PRINTED: function 24 (gqlerrors_newError)

-- NOT PRINTED: function 23 (gqlerrors_NewError)

-- NOT PRINTED: function 19 (gqlerrors_NewSyntaxError)

-- NOT PRINTED: function 20 (lexer_readDigits)

/-! ### lexer_makeToken: function 21 -/
def lexer_makeToken.f (a0 : Int) (a1 : Int) (a2 : Int) (a3 : ByteArray) : Option (Int × Int × Int × ByteArray) := some (a0, a1, a2, a3)
set_option maxHeartbeats 8000000 in
set_option maxRecDepth 100000 in
theorem lexer_makeToken.calls (a0 : Int) (a1 : Int) (a2 : Int) (a3 : ByteArray) (r1 : Int) (r2 : Int) (r3 : Int) (r4 : ByteArray) (w : World) (h : lexer_makeToken.f a0 a1 a2 a3 = some (r1, r2, r3, r4)) :
    Calls Tryz.prog 21 #[.int .i64 a0, .int .i64 a1, .int .i64 a2, .string a3] w fun e w' => e = .returned (.agg #[.int .i64 r1, .int .i64 r2, .int .i64 r3, .string r4]) ∧ Below w.heap.size w w' := by
  have hu38 := Tryz.underlying38
  have HB := Aside0.mk (Below.refl w.heap.size w)
  have H : (some (a0, a1, a2, a3)) = some (r1, r2, r3, r4) := h
  clear h
  simp only [Option.some.injEq, Prod.mk.injEq] at H
  obtain ⟨rfl, rfl, rfl, rfl⟩ := H
  go_enter Tryz.func21, Tryz.ntmps21
  go_wp2_with (first | ((with_reducible refine gate_dst (N := 8) rfl ?_); refine box_event ?hg (N := 8) ?hd (cs := #[.int .i64 0, .int .i64 0, .int .i64 0, .string (⟨#[]⟩ : ByteArray)]) (t := 38) ?hr ?_; (case hd => rfl); (case hg => rfl); (case hr => first | (go_simp; done) | (go_simp; rfl)); intro gb188 hg w5 hbox hb; have n0_ := Aside0.mk (below_step (by repeat (first | (with_reducible first | exact HB.out | apply below_alloc | apply pw_below_drewN | apply below_drew1) | exact HB.out)) hb); have n1_ := Aside0.mk (hbox); have n2_ := Aside0.mk ((by rw [hg]; exact (below_size (by repeat (first | (with_reducible first | exact HB.out | apply below_alloc | apply pw_below_drewN | apply below_drew1) | exact HB.out))) : w.heap.size ≤ gb188)); have n3_ := Aside0.mk ((by rw [hg]; exact (below_size (by repeat (first | (with_reducible first | exact HB.out | apply below_alloc | apply pw_below_drewN | apply below_drew1) | exact HB.out))) : w.heap.size ≤ gb188)); clear HB; have HB := n0_; have BK188 := n1_; have GW188 := n2_; have GE188 := n3_; clear n0_ n1_ n2_ n3_; clear hb hbox hg; have hcz6_0 : w5.cell? ⟨gb188, 0, none⟩ = some (.int .i64 0) := (blk_cell BK188.out 0).trans rfl; have hcz6_1 : w5.cell? ⟨gb188, 1, none⟩ = some (.int .i64 0) := (blk_cell BK188.out 1).trans rfl; have hcz6_2 : w5.cell? ⟨gb188, 2, none⟩ = some (.int .i64 0) := (blk_cell BK188.out 2).trans rfl; have hcz6_3 : w5.cell? ⟨gb188, 3, none⟩ = some (.string (⟨#[]⟩ : ByteArray)) := (blk_cell BK188.out 3).trans rfl; have hfz6_0 := blk_frozen BK188.out 0; have hfz6_1 := blk_frozen BK188.out 1; have hfz6_2 := blk_frozen BK188.out 2; have hfz6_3 := blk_frozen BK188.out 3))
  refine bodyPost_ret (results_cell_row rfl _ _ gb188 38 #[.int .i64 a0, .int .i64 a1, .int .i64 a2, .string a3] (0, 0) _ rfl (by (with_reducible repeat (first | refine blk_drewN ?_ _ | refine blk_drew ?_ | refine blk_alloc ?_ _)); refine blk_put (cs := #[.int .i64 a0, .int .i64 a1, .int .i64 a2, .string (⟨#[]⟩ : ByteArray)]) ?_ 3 _ rfl; (with_reducible repeat (first | refine blk_drewN ?_ _ | refine blk_drew ?_ | refine blk_alloc ?_ _)); refine blk_put (cs := #[.int .i64 a0, .int .i64 a1, .int .i64 0, .string (⟨#[]⟩ : ByteArray)]) ?_ 2 _ rfl; (with_reducible repeat (first | refine blk_drewN ?_ _ | refine blk_drew ?_ | refine blk_alloc ?_ _)); refine blk_put (cs := #[.int .i64 a0, .int .i64 0, .int .i64 0, .string (⟨#[]⟩ : ByteArray)]) ?_ 1 _ rfl; (with_reducible repeat (first | refine blk_drewN ?_ _ | refine blk_drew ?_ | refine blk_alloc ?_ _)); refine blk_put (cs := #[.int .i64 0, .int .i64 0, .int .i64 0, .string (⟨#[]⟩ : ByteArray)]) ?_ 0 _ rfl; (with_reducible repeat (first | refine blk_drewN ?_ _ | refine blk_drew ?_ | refine blk_alloc ?_ _)); exact BK188.out) Tryz.underlying38 rfl (by kernel_rfl)) rfl ?_
  exact ⟨by first | rfl | (simp [errW_none, errW_some] <;> rfl) | (simp [*, errW_none, errW_some] <;> rfl), by repeat (first | (with_reducible first | exact HB.out | apply below_alloc | apply pw_below_drewN | apply below_drew1 | refine below_set ?_ GE188.out) | exact HB.out)⟩

-- NOT PRINTED: function 16 (lexer_readNumber)

-- NOT PRINTED: function 10 (lexer_ReadNumber)

/-! ### impl_token: function 11 -/
def impl_token.f (a0_0 : Int) (a0_1 : Int) (a0_2 : Int) (a0_3 : ByteArray) : Option (Int × ByteArray × Int × Int) := some (a0_0, a0_3, a0_1, a0_2)
set_option maxHeartbeats 8000000 in
set_option maxRecDepth 100000 in
theorem impl_token.calls (a0_0 : Int) (a0_1 : Int) (a0_2 : Int) (a0_3 : ByteArray) (r1 : Int) (r2 : ByteArray) (r3 : Int) (r4 : Int) (w : World) (h : impl_token.f a0_0 a0_1 a0_2 a0_3 = some (r1, r2, r3, r4)) :
    Calls Tryz.prog 11 #[.agg #[.int .i64 a0_0, .int .i64 a0_1, .int .i64 a0_2, .string a0_3]] w fun e w' => e = .returned (.agg #[.int .i64 r1, .string r2, .int .i64 r3, .int .i64 r4]) ∧ Below w.heap.size w w' := by
  have hu38 := Tryz.underlying38
  have hu24 := Tryz.underlying24
  have HB := Aside0.mk (Below.refl w.heap.size w)
  have H : (some (a0_0, a0_3, a0_1, a0_2)) = some (r1, r2, r3, r4) := h
  clear h
  simp only [Option.some.injEq, Prod.mk.injEq] at H
  obtain ⟨rfl, rfl, rfl, rfl⟩ := H
  go_enter Tryz.func11, Tryz.ntmps11
  go_wp2_with (first | ((with_reducible refine gate_dst (N := 1) rfl ?_); refine box_event ?hg (N := 1) ?hd (cs := #[.int .i64 a0_0, .int .i64 a0_1, .int .i64 a0_2, .string a0_3]) (t := 38) ?hr ?_; (case hd => rfl); (case hg => rfl); (case hr => first | (go_simp; done) | (go_simp; rfl)); intro gb191 hg w2 hbox hb; have n0_ := Aside0.mk (below_step (by repeat (first | (with_reducible first | exact HB.out | apply below_alloc | apply pw_below_drewN | apply below_drew1) | exact HB.out)) hb); have n1_ := Aside0.mk (hbox); have n2_ := Aside0.mk ((by rw [hg]; exact (below_size (by repeat (first | (with_reducible first | exact HB.out | apply below_alloc | apply pw_below_drewN | apply below_drew1) | exact HB.out))) : w.heap.size ≤ gb191)); have n3_ := Aside0.mk ((by rw [hg]; exact (below_size (by repeat (first | (with_reducible first | exact HB.out | apply below_alloc | apply pw_below_drewN | apply below_drew1) | exact HB.out))) : w.heap.size ≤ gb191)); clear HB; have HB := n0_; have BK191 := n1_; have GW191 := n2_; have GE191 := n3_; clear n0_ n1_ n2_ n3_; clear hb hbox hg) | ((with_reducible refine gate_dst (N := 2) rfl ?_); refine box_event ?hg (N := 2) ?hd (cs := #[.int .i64 0, .string (⟨#[]⟩ : ByteArray), .int .i64 0, .int .i64 0]) (t := 24) ?hr ?_; (case hd => rfl); (case hg => rfl); (case hr => first | (go_simp; done) | (go_simp; rfl)); intro gb192 hg w3 hbox hb; have n0_ := Aside0.mk (blk_below (g := gb191) (o := .cells #[.int .i64 a0_0, .int .i64 a0_1, .int .i64 a0_2, .string a0_3] 38 (0, 0)) (by (with_reducible repeat (first | refine blk_drewN ?_ _ | refine blk_drew ?_ | refine blk_alloc ?_ _)); exact BK191.out) hb); have n1_ := Aside0.mk (below_step (by repeat (first | (with_reducible first | exact HB.out | apply below_alloc | apply pw_below_drewN | apply below_drew1 | refine below_set ?_ GE191.out) | exact HB.out)) hb); have n2_ := Aside0.mk (hbox); have n3_ := Aside0.mk ((by rw [hg]; exact (below_size (by repeat (first | (with_reducible first | exact HB.out | apply below_alloc | apply pw_below_drewN | apply below_drew1 | refine below_set ?_ GE191.out) | exact HB.out))) : w.heap.size ≤ gb192)); have n4_ := Aside0.mk ((by rw [hg]; exact (below_size (by repeat (first | (with_reducible first | exact HB.out | apply below_alloc | apply pw_below_drewN | apply below_drew1 | refine below_set ?_ GE191.out) | exact HB.out))) : w.heap.size ≤ gb192)); have n5_ := Aside0.mk ((by rw [hg]; exact Nat.ne_of_lt (blk_lt (g := gb191) (o := .cells #[.int .i64 a0_0, .int .i64 a0_1, .int .i64 a0_2, .string a0_3] 38 (0, 0)) (by (with_reducible repeat (first | refine blk_drewN ?_ _ | refine blk_drew ?_ | refine blk_alloc ?_ _)); exact BK191.out)) : gb191 ≠ gb192)); have n6_ := Aside0.mk ((by rw [hg]; exact Nat.ne_of_gt (blk_lt (g := gb191) (o := .cells #[.int .i64 a0_0, .int .i64 a0_1, .int .i64 a0_2, .string a0_3] 38 (0, 0)) (by (with_reducible repeat (first | refine blk_drewN ?_ _ | refine blk_drew ?_ | refine blk_alloc ?_ _)); exact BK191.out)) : gb192 ≠ gb191)); clear BK191; clear HB; have BK191 := n0_; have HB := n1_; have BK192 := n2_; have GW192 := n3_; have GE192 := n4_; have NB191_192 := n5_; have NB192_191 := n6_; clear n0_ n1_ n2_ n3_ n4_ n5_ n6_; clear hb hbox hg; have hnb4 := NB191_192.out; have hnc4 := NB192_191.out; have hcz5_0 : w3.cell? ⟨gb191, 0, none⟩ = some (.int .i64 a0_0) := (blk_cell BK191.out 0).trans rfl; have hcz5_1 : w3.cell? ⟨gb191, 1, none⟩ = some (.int .i64 a0_1) := (blk_cell BK191.out 1).trans rfl; have hcz5_2 : w3.cell? ⟨gb191, 2, none⟩ = some (.int .i64 a0_2) := (blk_cell BK191.out 2).trans rfl; have hcz5_3 : w3.cell? ⟨gb191, 3, none⟩ = some (.string a0_3) := (blk_cell BK191.out 3).trans rfl; have hfz5_0 := blk_frozen BK191.out 0; have hfz5_1 := blk_frozen BK191.out 1; have hfz5_2 := blk_frozen BK191.out 2; have hfz5_3 := blk_frozen BK191.out 3; have hcz6_0 : w3.cell? ⟨gb192, 0, none⟩ = some (.int .i64 0) := (blk_cell BK192.out 0).trans rfl; have hcz6_1 : w3.cell? ⟨gb192, 1, none⟩ = some (.string (⟨#[]⟩ : ByteArray)) := (blk_cell BK192.out 1).trans rfl; have hcz6_2 : w3.cell? ⟨gb192, 2, none⟩ = some (.int .i64 0) := (blk_cell BK192.out 2).trans rfl; have hcz6_3 : w3.cell? ⟨gb192, 3, none⟩ = some (.int .i64 0) := (blk_cell BK192.out 3).trans rfl; have hfz6_0 := blk_frozen BK192.out 0; have hfz6_1 := blk_frozen BK192.out 1; have hfz6_2 := blk_frozen BK192.out 2; have hfz6_3 := blk_frozen BK192.out 3))
  refine bodyPost_ret (results_cell_row rfl _ _ gb192 24 #[.int .i64 a0_0, .string a0_3, .int .i64 a0_1, .int .i64 a0_2] (0, 0) _ rfl (by (with_reducible repeat (first | refine blk_drewN ?_ _ | refine blk_drew ?_ | refine blk_alloc ?_ _)); refine blk_put (cs := #[.int .i64 a0_0, .string a0_3, .int .i64 a0_1, .int .i64 0]) ?_ 3 _ rfl; (with_reducible repeat (first | refine blk_drewN ?_ _ | refine blk_drew ?_ | refine blk_alloc ?_ _)); refine blk_put (cs := #[.int .i64 a0_0, .string a0_3, .int .i64 0, .int .i64 0]) ?_ 2 _ rfl; (with_reducible repeat (first | refine blk_drewN ?_ _ | refine blk_drew ?_ | refine blk_alloc ?_ _)); refine blk_put (cs := #[.int .i64 a0_0, .string (⟨#[]⟩ : ByteArray), .int .i64 0, .int .i64 0]) ?_ 1 _ rfl; (with_reducible repeat (first | refine blk_drewN ?_ _ | refine blk_drew ?_ | refine blk_alloc ?_ _)); refine blk_put (cs := #[.int .i64 0, .string (⟨#[]⟩ : ByteArray), .int .i64 0, .int .i64 0]) ?_ 0 _ rfl; (with_reducible repeat (first | refine blk_drewN ?_ _ | refine blk_drew ?_ | refine blk_alloc ?_ _)); exact BK192.out) Tryz.underlying24 rfl (by kernel_rfl)) rfl ?_
  exact ⟨by first | rfl | (simp [errW_none, errW_some] <;> rfl) | (simp [*, errW_none, errW_some] <;> rfl), by repeat (first | (with_reducible first | exact HB.out | apply below_alloc | apply pw_below_drewN | apply below_drew1 | refine below_set ?_ GE191.out | refine below_set ?_ GE192.out) | exact HB.out)⟩

-- NOT PRINTED: function 6 (impl_ReadNumber)

/-! ### laws_told9: function 7 -/
def laws_told9.f (a0_0 : Int) (a0_1 : ByteArray) (a0_2 : Int) (a0_3 : Int) (a1 : Bool) (a2_0 : Int) (a2_1 : ByteArray) (a2_2 : Int) (a2_3 : Int) (a3 : Bool) : Option (Bool) := if (a1 == a3) = true then (if a3 = true then (some (a0_0 == a2_0 && (a0_1.toList == a2_1.toList && (a0_2 == a2_2 && (a0_3 == a2_3))))) else (some true)) else (some false)
set_option maxHeartbeats 8000000 in
set_option maxRecDepth 100000 in
theorem laws_told9.calls (a0_0 : Int) (a0_1 : ByteArray) (a0_2 : Int) (a0_3 : Int) (a1 : Bool) (a2_0 : Int) (a2_1 : ByteArray) (a2_2 : Int) (a2_3 : Int) (a3 : Bool) (r : Bool) (w : World) (h : laws_told9.f a0_0 a0_1 a0_2 a0_3 a1 a2_0 a2_1 a2_2 a2_3 a3 = some r) :
    Calls Tryz.prog 7 #[.agg #[.int .i64 a0_0, .string a0_1, .int .i64 a0_2, .int .i64 a0_3], .bool a1, .agg #[.int .i64 a2_0, .string a2_1, .int .i64 a2_2, .int .i64 a2_3], .bool a3] w fun e w' => e = .returned (.bool r) ∧ Below w.heap.size w w' := by
  have hu24 := Tryz.underlying24
  have HB := Aside0.mk (Below.refl w.heap.size w)
  have H : (if (a1 == a3) = true then (if a3 = true then (some (a0_0 == a2_0 && (a0_1.toList == a2_1.toList && (a0_2 == a2_2 && (a0_3 == a2_3))))) else (some true)) else (some false)) = some r := h
  clear h
  by_cases c5 : (a1 == a3) = true
  · rw [if_pos c5] at H
    have c5b0 : (a1 == a3) = true := c5
    (try (have c5b1 : decide (a1 = a3) = true := by simpa using c5))
    (try (have c5b2 : (a1 == a3) = true := by simpa using c5))
    clear c5
    by_cases c6 : a3 = true
    · subst c6
      have H1 : (some (a0_0 == a2_0 && (a0_1.toList == a2_1.toList && (a0_2 == a2_2 && (a0_3 == a2_3))))) = some r := by rw [if_pos rfl] at H; exact H
      clear H
      have H := H1
      clear H1
      obtain rfl := Option.some.inj H
      go_enter Tryz.func7, Tryz.ntmps7
      go_wp2_with (first | ((with_reducible refine gate_dst (N := 4) rfl ?_); refine box_event ?hg (N := 4) ?hd (cs := #[.int .i64 a0_0, .string a0_1, .int .i64 a0_2, .int .i64 a0_3]) (t := 24) ?hr ?_; (case hd => rfl); (case hg => rfl); (case hr => first | (go_simp; done) | (go_simp; rfl)); intro gb194 hg w7 hbox hb; have n0_ := Aside0.mk (below_step (by repeat (first | (with_reducible first | exact HB.out | apply below_alloc | apply pw_below_drewN | apply below_drew1) | exact HB.out)) hb); have n1_ := Aside0.mk (hbox); have n2_ := Aside0.mk ((by rw [hg]; exact (below_size (by repeat (first | (with_reducible first | exact HB.out | apply below_alloc | apply pw_below_drewN | apply below_drew1) | exact HB.out))) : w.heap.size ≤ gb194)); have n3_ := Aside0.mk ((by rw [hg]; exact (below_size (by repeat (first | (with_reducible first | exact HB.out | apply below_alloc | apply pw_below_drewN | apply below_drew1) | exact HB.out))) : w.heap.size ≤ gb194)); clear HB; have HB := n0_; have BK194 := n1_; have GW194 := n2_; have GE194 := n3_; clear n0_ n1_ n2_ n3_; clear hb hbox hg) | ((with_reducible refine gate_dst (N := 6) rfl ?_); refine box_event ?hg (N := 6) ?hd (cs := #[.int .i64 a2_0, .string a2_1, .int .i64 a2_2, .int .i64 a2_3]) (t := 24) ?hr ?_; (case hd => rfl); (case hg => rfl); (case hr => first | (go_simp; done) | (go_simp; rfl)); intro gb195 hg w8 hbox hb; have n0_ := Aside0.mk (blk_below (g := gb194) (o := .cells #[.int .i64 a0_0, .string a0_1, .int .i64 a0_2, .int .i64 a0_3] 24 (0, 0)) (by (with_reducible repeat (first | refine blk_drewN ?_ _ | refine blk_drew ?_ | refine blk_alloc ?_ _)); exact BK194.out) hb); have n1_ := Aside0.mk (below_step (by repeat (first | (with_reducible first | exact HB.out | apply below_alloc | apply pw_below_drewN | apply below_drew1 | refine below_set ?_ GE194.out) | exact HB.out)) hb); have n2_ := Aside0.mk (hbox); have n3_ := Aside0.mk ((by rw [hg]; exact (below_size (by repeat (first | (with_reducible first | exact HB.out | apply below_alloc | apply pw_below_drewN | apply below_drew1 | refine below_set ?_ GE194.out) | exact HB.out))) : w.heap.size ≤ gb195)); have n4_ := Aside0.mk ((by rw [hg]; exact (below_size (by repeat (first | (with_reducible first | exact HB.out | apply below_alloc | apply pw_below_drewN | apply below_drew1 | refine below_set ?_ GE194.out) | exact HB.out))) : w.heap.size ≤ gb195)); have n5_ := Aside0.mk ((by rw [hg]; exact Nat.ne_of_lt (blk_lt (g := gb194) (o := .cells #[.int .i64 a0_0, .string a0_1, .int .i64 a0_2, .int .i64 a0_3] 24 (0, 0)) (by (with_reducible repeat (first | refine blk_drewN ?_ _ | refine blk_drew ?_ | refine blk_alloc ?_ _)); exact BK194.out)) : gb194 ≠ gb195)); have n6_ := Aside0.mk ((by rw [hg]; exact Nat.ne_of_gt (blk_lt (g := gb194) (o := .cells #[.int .i64 a0_0, .string a0_1, .int .i64 a0_2, .int .i64 a0_3] 24 (0, 0)) (by (with_reducible repeat (first | refine blk_drewN ?_ _ | refine blk_drew ?_ | refine blk_alloc ?_ _)); exact BK194.out)) : gb195 ≠ gb194)); clear BK194; clear HB; have BK194 := n0_; have HB := n1_; have BK195 := n2_; have GW195 := n3_; have GE195 := n4_; have NB194_195 := n5_; have NB195_194 := n6_; clear n0_ n1_ n2_ n3_ n4_ n5_ n6_; clear hb hbox hg; have hnb9 := NB194_195.out; have hnc9 := NB195_194.out; have hcz10_0 : w8.cell? ⟨gb194, 0, none⟩ = some (.int .i64 a0_0) := (blk_cell BK194.out 0).trans rfl; have hcz10_1 : w8.cell? ⟨gb194, 1, none⟩ = some (.string a0_1) := (blk_cell BK194.out 1).trans rfl; have hcz10_2 : w8.cell? ⟨gb194, 2, none⟩ = some (.int .i64 a0_2) := (blk_cell BK194.out 2).trans rfl; have hcz10_3 : w8.cell? ⟨gb194, 3, none⟩ = some (.int .i64 a0_3) := (blk_cell BK194.out 3).trans rfl; have hfz10_0 := blk_frozen BK194.out 0; have hfz10_1 := blk_frozen BK194.out 1; have hfz10_2 := blk_frozen BK194.out 2; have hfz10_3 := blk_frozen BK194.out 3; have hcz11_0 : w8.cell? ⟨gb195, 0, none⟩ = some (.int .i64 a2_0) := (blk_cell BK195.out 0).trans rfl; have hcz11_1 : w8.cell? ⟨gb195, 1, none⟩ = some (.string a2_1) := (blk_cell BK195.out 1).trans rfl; have hcz11_2 : w8.cell? ⟨gb195, 2, none⟩ = some (.int .i64 a2_2) := (blk_cell BK195.out 2).trans rfl; have hcz11_3 : w8.cell? ⟨gb195, 3, none⟩ = some (.int .i64 a2_3) := (blk_cell BK195.out 3).trans rfl; have hfz11_0 := blk_frozen BK195.out 0; have hfz11_1 := blk_frozen BK195.out 1; have hfz11_2 := blk_frozen BK195.out 2; have hfz11_3 := blk_frozen BK195.out 3))
      go_ret
      exact ⟨by first | rfl | (simp [errW_none, errW_some] <;> rfl) | (simp [*, errW_none, errW_some] <;> rfl), by repeat (first | (with_reducible first | exact HB.out | apply below_alloc | apply pw_below_drewN | apply below_drew1 | refine below_set ?_ GE194.out | refine below_set ?_ GE195.out) | exact HB.out)⟩
    · replace c6 := Bool.eq_false_iff.mpr c6
      subst c6
      have H1 : (some true) = some r := by rw [if_neg (show ¬ (false = true) by decide)] at H; exact H
      clear H
      have H := H1
      clear H1
      obtain rfl := Option.some.inj H
      go_enter Tryz.func7, Tryz.ntmps7
      go_wp2_with (first | ((with_reducible refine gate_dst (N := 4) rfl ?_); refine box_event ?hg (N := 4) ?hd (cs := #[.int .i64 a0_0, .string a0_1, .int .i64 a0_2, .int .i64 a0_3]) (t := 24) ?hr ?_; (case hd => rfl); (case hg => rfl); (case hr => first | (go_simp; done) | (go_simp; rfl)); intro gb194 hg w12 hbox hb; have n0_ := Aside0.mk (below_step (by repeat (first | (with_reducible first | exact HB.out | apply below_alloc | apply pw_below_drewN | apply below_drew1) | exact HB.out)) hb); have n1_ := Aside0.mk (hbox); have n2_ := Aside0.mk ((by rw [hg]; exact (below_size (by repeat (first | (with_reducible first | exact HB.out | apply below_alloc | apply pw_below_drewN | apply below_drew1) | exact HB.out))) : w.heap.size ≤ gb194)); have n3_ := Aside0.mk ((by rw [hg]; exact (below_size (by repeat (first | (with_reducible first | exact HB.out | apply below_alloc | apply pw_below_drewN | apply below_drew1) | exact HB.out))) : w.heap.size ≤ gb194)); clear HB; have HB := n0_; have BK194 := n1_; have GW194 := n2_; have GE194 := n3_; clear n0_ n1_ n2_ n3_; clear hb hbox hg) | ((with_reducible refine gate_dst (N := 6) rfl ?_); refine box_event ?hg (N := 6) ?hd (cs := #[.int .i64 a2_0, .string a2_1, .int .i64 a2_2, .int .i64 a2_3]) (t := 24) ?hr ?_; (case hd => rfl); (case hg => rfl); (case hr => first | (go_simp; done) | (go_simp; rfl)); intro gb195 hg w13 hbox hb; have n0_ := Aside0.mk (blk_below (g := gb194) (o := .cells #[.int .i64 a0_0, .string a0_1, .int .i64 a0_2, .int .i64 a0_3] 24 (0, 0)) (by (with_reducible repeat (first | refine blk_drewN ?_ _ | refine blk_drew ?_ | refine blk_alloc ?_ _)); exact BK194.out) hb); have n1_ := Aside0.mk (below_step (by repeat (first | (with_reducible first | exact HB.out | apply below_alloc | apply pw_below_drewN | apply below_drew1 | refine below_set ?_ GE194.out) | exact HB.out)) hb); have n2_ := Aside0.mk (hbox); have n3_ := Aside0.mk ((by rw [hg]; exact (below_size (by repeat (first | (with_reducible first | exact HB.out | apply below_alloc | apply pw_below_drewN | apply below_drew1 | refine below_set ?_ GE194.out) | exact HB.out))) : w.heap.size ≤ gb195)); have n4_ := Aside0.mk ((by rw [hg]; exact (below_size (by repeat (first | (with_reducible first | exact HB.out | apply below_alloc | apply pw_below_drewN | apply below_drew1 | refine below_set ?_ GE194.out) | exact HB.out))) : w.heap.size ≤ gb195)); have n5_ := Aside0.mk ((by rw [hg]; exact Nat.ne_of_lt (blk_lt (g := gb194) (o := .cells #[.int .i64 a0_0, .string a0_1, .int .i64 a0_2, .int .i64 a0_3] 24 (0, 0)) (by (with_reducible repeat (first | refine blk_drewN ?_ _ | refine blk_drew ?_ | refine blk_alloc ?_ _)); exact BK194.out)) : gb194 ≠ gb195)); have n6_ := Aside0.mk ((by rw [hg]; exact Nat.ne_of_gt (blk_lt (g := gb194) (o := .cells #[.int .i64 a0_0, .string a0_1, .int .i64 a0_2, .int .i64 a0_3] 24 (0, 0)) (by (with_reducible repeat (first | refine blk_drewN ?_ _ | refine blk_drew ?_ | refine blk_alloc ?_ _)); exact BK194.out)) : gb195 ≠ gb194)); clear BK194; clear HB; have BK194 := n0_; have HB := n1_; have BK195 := n2_; have GW195 := n3_; have GE195 := n4_; have NB194_195 := n5_; have NB195_194 := n6_; clear n0_ n1_ n2_ n3_ n4_ n5_ n6_; clear hb hbox hg))
      go_ret
      exact ⟨by first | rfl | (simp [errW_none, errW_some] <;> rfl) | (simp [*, errW_none, errW_some] <;> rfl), by repeat (first | (with_reducible first | exact HB.out | apply below_alloc | apply pw_below_drewN | apply below_drew1 | refine below_set ?_ GE194.out | refine below_set ?_ GE195.out) | exact HB.out)⟩
  · rw [if_neg c5] at H
    have c5b0 : (a1 == a3) = false := by simpa using c5
    (try (have c5b1 : decide (a1 = a3) = false := by simpa using c5))
    (try (have c5b2 : (a1 == a3) = false := by simpa using c5))
    (try (have c5b3 : ¬ (a1 = a3) := by simpa using c5))
    clear c5
    obtain rfl := Option.some.inj H
    go_enter Tryz.func7, Tryz.ntmps7
    go_wp2_with (first | ((with_reducible refine gate_dst (N := 4) rfl ?_); refine box_event ?hg (N := 4) ?hd (cs := #[.int .i64 a0_0, .string a0_1, .int .i64 a0_2, .int .i64 a0_3]) (t := 24) ?hr ?_; (case hd => rfl); (case hg => rfl); (case hr => first | (go_simp; done) | (go_simp; rfl)); intro gb194 hg w14 hbox hb; have n0_ := Aside0.mk (below_step (by repeat (first | (with_reducible first | exact HB.out | apply below_alloc | apply pw_below_drewN | apply below_drew1) | exact HB.out)) hb); have n1_ := Aside0.mk (hbox); have n2_ := Aside0.mk ((by rw [hg]; exact (below_size (by repeat (first | (with_reducible first | exact HB.out | apply below_alloc | apply pw_below_drewN | apply below_drew1) | exact HB.out))) : w.heap.size ≤ gb194)); have n3_ := Aside0.mk ((by rw [hg]; exact (below_size (by repeat (first | (with_reducible first | exact HB.out | apply below_alloc | apply pw_below_drewN | apply below_drew1) | exact HB.out))) : w.heap.size ≤ gb194)); clear HB; have HB := n0_; have BK194 := n1_; have GW194 := n2_; have GE194 := n3_; clear n0_ n1_ n2_ n3_; clear hb hbox hg) | ((with_reducible refine gate_dst (N := 6) rfl ?_); refine box_event ?hg (N := 6) ?hd (cs := #[.int .i64 a2_0, .string a2_1, .int .i64 a2_2, .int .i64 a2_3]) (t := 24) ?hr ?_; (case hd => rfl); (case hg => rfl); (case hr => first | (go_simp; done) | (go_simp; rfl)); intro gb195 hg w15 hbox hb; have n0_ := Aside0.mk (blk_below (g := gb194) (o := .cells #[.int .i64 a0_0, .string a0_1, .int .i64 a0_2, .int .i64 a0_3] 24 (0, 0)) (by (with_reducible repeat (first | refine blk_drewN ?_ _ | refine blk_drew ?_ | refine blk_alloc ?_ _)); exact BK194.out) hb); have n1_ := Aside0.mk (below_step (by repeat (first | (with_reducible first | exact HB.out | apply below_alloc | apply pw_below_drewN | apply below_drew1 | refine below_set ?_ GE194.out) | exact HB.out)) hb); have n2_ := Aside0.mk (hbox); have n3_ := Aside0.mk ((by rw [hg]; exact (below_size (by repeat (first | (with_reducible first | exact HB.out | apply below_alloc | apply pw_below_drewN | apply below_drew1 | refine below_set ?_ GE194.out) | exact HB.out))) : w.heap.size ≤ gb195)); have n4_ := Aside0.mk ((by rw [hg]; exact (below_size (by repeat (first | (with_reducible first | exact HB.out | apply below_alloc | apply pw_below_drewN | apply below_drew1 | refine below_set ?_ GE194.out) | exact HB.out))) : w.heap.size ≤ gb195)); have n5_ := Aside0.mk ((by rw [hg]; exact Nat.ne_of_lt (blk_lt (g := gb194) (o := .cells #[.int .i64 a0_0, .string a0_1, .int .i64 a0_2, .int .i64 a0_3] 24 (0, 0)) (by (with_reducible repeat (first | refine blk_drewN ?_ _ | refine blk_drew ?_ | refine blk_alloc ?_ _)); exact BK194.out)) : gb194 ≠ gb195)); have n6_ := Aside0.mk ((by rw [hg]; exact Nat.ne_of_gt (blk_lt (g := gb194) (o := .cells #[.int .i64 a0_0, .string a0_1, .int .i64 a0_2, .int .i64 a0_3] 24 (0, 0)) (by (with_reducible repeat (first | refine blk_drewN ?_ _ | refine blk_drew ?_ | refine blk_alloc ?_ _)); exact BK194.out)) : gb195 ≠ gb194)); clear BK194; clear HB; have BK194 := n0_; have HB := n1_; have BK195 := n2_; have GW195 := n3_; have GE195 := n4_; have NB194_195 := n5_; have NB195_194 := n6_; clear n0_ n1_ n2_ n3_ n4_ n5_ n6_; clear hb hbox hg))
    go_ret
    exact ⟨by first | rfl | (simp [errW_none, errW_some] <;> rfl) | (simp [*, errW_none, errW_some] <;> rfl), by repeat (first | (with_reducible first | exact HB.out | apply below_alloc | apply pw_below_drewN | apply below_drew1 | refine below_set ?_ GE194.out | refine below_set ?_ GE195.out) | exact HB.out)⟩

-- NOT PRINTED: function 3 (laws_FnReadNumber)

end Go.Proofs.YtmlochnckplalaaGreatDoor.PFnReadNumber
