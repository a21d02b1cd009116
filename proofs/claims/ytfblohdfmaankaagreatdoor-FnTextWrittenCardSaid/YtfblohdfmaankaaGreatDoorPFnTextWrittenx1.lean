/- trimmed: of the kit's print those functions alone that FnTextWritten's proof uses -/
/- began as the kit's print; IsName's last lines mended by hand -/
/- FnTextWritten: the Go functions that the law reaches as Lean functions, and that the Go code answers what these answer, for every input and in every world that the statements name. Written by this session's program extprint.py over hand-written contracts of some functions. -/
import Derived.Test.YtfblohdfmaankaaGreatDoorPFnTextWrittenx0
namespace Go.Proofs.YtfblohdfmaankaaGreatDoor.PFnTextWritten
open Go.RowKit Go.Proofs.YtfblohdfmaankaaGreatDoorW.PrintWords Go.Proofs.YtfblohdfmaankaaGreatDoorW.PrintLast Go.Proofs.YtfblohdfmaankaaGreatDoorW.PrintMore
attribute [local go_sem] max2_int min2_int max_two min_two max_three min_three max_four min_four   -- for this text's walks alone
set_option linter.unusedVariables false
set_option linter.unusedSimpArgs false

/-! ### spec_Made: function 4 -/
def spec_Made.l0 : Nat → List (List (S25)) → List (S25) → Int → Option ((List (S25)))
  | 0, _, _, _ => none
  | k + 1, x1, x5, x6 => if x6 < (x1.length : Int) then (if 0 ≤ x6 then (if x5.length + (rd_L3 x1 x6).length < 1954687338268 then (spec_Made.l0 k x1 (x5 ++ (rd_L3 x1 x6)) (wrap64 (x6 + 1))) else (none)) else (none)) else (if 0 < (x5.length : Int) then (some (x5.set (0 : Int).toNat (⟨(rd_T25 x5 0).f0, (rd_T25 x5 0).f1, (rd_T25 x5 0).f2, (rd_T25 x5 0).f3, (rd_T25 x5 0).f4, (x5.length : Int)⟩ : S25))) else (none))
def spec_Made.f (k : Nat) (a0_0 : Int) (a0_1 : ByteArray) (a0_2 : ByteArray) (a0_3 : ByteArray) (a0_4 : Int) (a0_5 : Int) (l1 : List (List (S25))) : Option ((List (S25))) := spec_Made.l0 k l1 (([(⟨a0_0, a0_1, a0_2, a0_3, a0_4, a0_5⟩ : S25)] : List (S25))) 0
theorem spec_Made.mono_l : ∀ k, (∀ y0 y1 y2, LeO (spec_Made.l0 k y0 y1 y2) (spec_Made.l0 (k + 1) y0 y1 y2))
  | 0 => fun _ _ _ r h => by simp [spec_Made.l0] at h
  | k + 1 => by
    have ih0 := spec_Made.mono_l k
    · intro y0 y1 y2
      unfold spec_Made.l0
      repeat' first
      | (with_reducible exact ih0 _ _ _)
      | (with_reducible exact LeO.refl _)
      | (with_reducible exact LeO.none _)
      | (with_reducible refine LeO.ite ?_ ?_)
      | (with_reducible refine LeO.bind ?_ (fun _ => ?_))
      | exact ih0 _ _ _
      | exact LeO.none _
      | refine LeO.ite ?_ ?_
      | refine LeO.bind ?_ (fun _ => ?_)
theorem spec_Made.mono : ∀ a0 a1 a2 a3 a4 a5 a6 k, LeO (spec_Made.f k a0 a1 a2 a3 a4 a5 a6) (spec_Made.f (k + 1) a0 a1 a2 a3 a4 a5 a6) := by
  intro a0 a1 a2 a3 a4 a5 a6 k
  have ih0 := spec_Made.mono_l k
  unfold spec_Made.f
  repeat' first
      | (with_reducible exact ih0 _ _ _)
      | (with_reducible exact LeO.refl _)
      | (with_reducible exact LeO.none _)
      | (with_reducible refine LeO.ite ?_ ?_)
      | (with_reducible refine LeO.bind ?_ (fun _ => ?_))
      | exact ih0 _ _ _
      | exact LeO.none _
      | refine LeO.ite ?_ ?_
      | refine LeO.bind ?_ (fun _ => ?_)
set_option maxHeartbeats 8000000 in
set_option maxRecDepth 100000 in
theorem spec_Made.calls (k : Nat) (a0_0 : Int) (a0_1 : ByteArray) (a0_2 : ByteArray) (a0_3 : ByteArray) (a0_4 : Int) (a0_5 : Int) (A1 : Option Addr) (c1 : Nat) (l1 : List (List (S25))) (r : List (S25)) (w : World) (hr1 : Kd.C (Kd.slice 25 k25) w A1 l1.length l1) (hc1 : l1.length ≤ c1) (h : spec_Made.f k a0_0 a0_1 a0_2 a0_3 a0_4 a0_5 l1 = some r) :
    Calls Tryz.prog 4 #[.agg #[.int .i64 a0_0, .string a0_1, .string a0_2, .string a0_3, .int .i64 a0_4, .int .i64 a0_5], .slice A1 l1.length c1] w fun e w' => ∃ v0_ : Value, e = .returned (v0_) ∧ Kd.R k25 25 w' w.heap.size (fun _ => True) v0_ r ∧ Below w.heap.size w w' := by
  have hu25 := Tryz.underlying25
  have HR1 := Aside0.mk hr1
  have HC1 := Aside0.mk hc1
  clear hr1 hc1
  have HB := Aside0.mk (Below.refl w.heap.size w)
  have H : (spec_Made.l0 k l1 (([(⟨a0_0, a0_1, a0_2, a0_3, a0_4, a0_5⟩ : S25)] : List (S25))) 0) = some r := h
  clear h
  obtain ⟨y102, hy102⟩ : ∃ y_ : List (S25), y_ = (([(⟨a0_0, a0_1, a0_2, a0_3, a0_4, a0_5⟩ : S25)] : List (S25))) := ⟨_, rfl⟩
  replace H : (spec_Made.l0 k l1 y102 0) = some r := by first | (rw [hy102]; with_reducible exact H) | (have H2_ := (Option.bind_some _ _).symm.trans H; rw [hy102]; with_reducible exact H2_) | (have H2_ := (Option.bind_some _ _).symm.trans H; with_reducible exact H2_) | with_reducible exact H | (rw [hy102]; exact H) | exact H
  have Ny102 := Aside0.mk hy102
  clear hy102
  have H' := Aside0.mk H
  clear H
  go_enter Tryz.func4, Tryz.ntmps4
  go_wp2_with (first | ((with_reducible refine gate_dst (N := 2) rfl ?_); refine box_event ?hg (N := 2) ?hd (cs := #[.int .i64 a0_0, .string a0_1, .string a0_2, .string a0_3, .int .i64 a0_4, .int .i64 a0_5]) (t := 25) ?hr ?_; (case hd => rfl); (case hg => rfl); (case hr => first | (go_simp; done) | (go_simp; rfl)); intro gb101 hg w3 hbox hb; have n0_ := Aside0.mk (below_step (by repeat (first | (with_reducible first | exact HB.out | apply below_alloc | apply pw_below_drewN | apply below_drew1) | exact HB.out)) hb); have n1_ := Aside0.mk (hbox); have n2_ := Aside0.mk ((by rw [hg]; exact (below_size (by repeat (first | (with_reducible first | exact HB.out | apply below_alloc | apply pw_below_drewN | apply below_drew1) | exact HB.out))) : w.heap.size ≤ gb101)); have n3_ := Aside0.mk ((by rw [hg]; exact (below_size (by repeat (first | (with_reducible first | exact HB.out | apply below_alloc | apply pw_below_drewN | apply below_drew1) | exact HB.out))) : w.heap.size ≤ gb101)); clear HB; have HB := n0_; have BK101 := n1_; have GW101 := n2_; have GE101 := n3_; clear n0_ n1_ n2_ n3_; clear hb hbox hg; have hcz4_0 : w3.cell? ⟨gb101, 0, none⟩ = some (.int .i64 a0_0) := (blk_cell BK101.out 0).trans rfl; have hcz4_1 : w3.cell? ⟨gb101, 1, none⟩ = some (.string a0_1) := (blk_cell BK101.out 1).trans rfl; have hcz4_2 : w3.cell? ⟨gb101, 2, none⟩ = some (.string a0_2) := (blk_cell BK101.out 2).trans rfl; have hcz4_3 : w3.cell? ⟨gb101, 3, none⟩ = some (.string a0_3) := (blk_cell BK101.out 3).trans rfl; have hcz4_4 : w3.cell? ⟨gb101, 4, none⟩ = some (.int .i64 a0_4) := (blk_cell BK101.out 4).trans rfl; have hcz4_5 : w3.cell? ⟨gb101, 5, none⟩ = some (.int .i64 a0_5) := (blk_cell BK101.out 5).trans rfl; have hfz4_0 := blk_frozen BK101.out 0; have hfz4_1 := blk_frozen BK101.out 1; have hfz4_2 := blk_frozen BK101.out 2; have hfz4_3 := blk_frozen BK101.out 3; have hfz4_4 := blk_frozen BK101.out 4; have hfz4_5 := blk_frozen BK101.out 5) | ((with_reducible refine gate_dst (N := 8) rfl ?_); refine Kd.R_lit k25 _ 25 ?hg (N := 8) ?hd (xs := ([(⟨a0_0, a0_1, a0_2, a0_3, a0_4, a0_5⟩ : S25)] : List (S25))) (inner := [.int .i64 a0_0, .string a0_1, .string a0_2, .string a0_3, .int .i64 a0_4, .int .i64 a0_5]) (ok := fun _ => True) (okp := fun _ => True) ?hr ?hp (fun _ hk => hk) trivial (Below.refl _ _) (Nat.le_refl _) (by simp) ?_; (case hd => rfl); (case hg => rfl); (case hr => first | (go_simp; done) | (go_simp; rfl)); (case hp => exact (Reps.c6 (show Kd.M k25 _ _ _ (⟨a0_0, a0_1, a0_2, a0_3, a0_4, a0_5⟩ : S25) [.int .i64 a0_0, .string a0_1, .string a0_2, .string a0_3, .int .i64 a0_4, .int .i64 a0_5] from (k25_mkM _ _ _ (⟨a0_0, a0_1, a0_2, a0_3, a0_4, a0_5⟩ : S25) )) (Reps.none _ _))); intro v103 w5 ho6 hb hg_ hnew_; clear hg_ hnew_; (first | rw [← Ny102.out] at ho6 | (simp only [Int.reduceToNat] at ho6; rw [← Ny102.out] at ho6)); have n0_ := Aside0.mk (Kd.R_lower (Kd.R_newB ho6 (g := gb101) (o := .cells #[.int .i64 a0_0, .string a0_1, .string a0_2, .string a0_3, .int .i64 a0_4, .int .i64 a0_5] 25 (0, 0)) (by (with_reducible repeat (first | refine blk_drewN ?_ _ | refine blk_drew ?_ | refine blk_alloc ?_ _)); exact BK101.out)) (below_size (by repeat (first | (with_reducible first | exact HB.out | apply below_alloc | apply pw_below_drewN | apply below_drew1 | refine below_set ?_ GE101.out) | exact HB.out)))); have n1_ := Aside0.mk (blk_below (g := gb101) (o := .cells #[.int .i64 a0_0, .string a0_1, .string a0_2, .string a0_3, .int .i64 a0_4, .int .i64 a0_5] 25 (0, 0)) (by (with_reducible repeat (first | refine blk_drewN ?_ _ | refine blk_drew ?_ | refine blk_alloc ?_ _)); exact BK101.out) hb); have n2_ := Aside0.mk (below_step (by repeat (first | (with_reducible first | exact HB.out | apply below_alloc | apply pw_below_drewN | apply below_drew1 | refine below_set ?_ GE101.out) | exact HB.out)) hb); clear BK101; clear HB; have HO104 := n0_; have BK101 := n1_; have HB := n2_; clear n0_ n1_ n2_; clear hb ho6))
  go_loopg [5, 6] k (fun kq v5 v6 w' => ∃ (x5_1 : List (S25)) (x6_1 : Int), v6 = .int .i64 x6_1 ∧ Aside0 (spec_Made.l0 kq l1 x5_1 x6_1 = some r) ∧ Aside0 (kq ≤ k) ∧ Aside0 (Kd.R k25 25 w' w.heap.size (fun k_ => k_ ≠ gb101) v5 x5_1) ∧ Aside0 (w'.heap[gb101]? = some (.cells #[.int .i64 a0_0, .string a0_1, .string a0_2, .string a0_3, .int .i64 a0_4, .int .i64 a0_5] 25 (0, 0))) ∧ Aside0 (Below w.heap.size w w'))
  case atStart => exact ⟨(y102), (0), (by first | rfl | (simp; done) | (simp [*]; done)), H', ⟨Nat.le_refl _⟩, ⟨by (with_reducible repeat (first | apply Kd.R_alloc | apply Kd.R_drewN | apply Kd.R_drew)); exact Kd.R_mono HO104.out (fun _ hk => hk.2)⟩, ⟨by (with_reducible repeat (first | refine blk_drewN ?_ _ | refine blk_drew ?_ | refine blk_alloc ?_ _)); exact BK101.out⟩, ⟨by repeat (first | (with_reducible first | exact HB.out | apply below_alloc | apply pw_below_drewN | apply below_drew1 | refine below_set ?_ GE101.out) | exact HB.out)⟩⟩
  case round =>
    clear H'
    try clear c1
    try clear p2
    try clear c4
    try clear c6
    try clear hcz4_0
    try clear hcz4_1
    try clear hcz4_2
    try clear hcz4_3
    try clear hcz4_4
    try clear hcz4_5
    try clear hfz4_0
    try clear hfz4_1
    try clear hfz4_2
    try clear hfz4_3
    try clear hfz4_4
    try clear hfz4_5
    obtain ⟨x5_1, x6_1, rfl, HA, HK1, HO_5, BK101, HB⟩ := hrel
    cases gk with
    | zero => exact absurd HA.out (by simp [spec_Made.l0])
    | succ k1 =>
      have H := HA.out
      clear HA
      simp only [spec_Made.l0] at H
      by_cases c7 : x6_1 < (l1.length : Int)
      · rw [if_pos c7] at H
        have c7b0 : decide (x6_1 < (l1.length : Int)) = true := decide_eq_true c7
        clear c7
        by_cases c8 : 0 ≤ x6_1
        · rw [if_pos c8] at H
          have c8b0 : decide (0 ≤ x6_1) = true := decide_eq_true c8
          clear c8
          by_cases c9 : x5_1.length + (rd_L3 l1 x6_1).length < 1954687338268
          · rw [if_pos c9] at H
            have LMc9 := Aside0.mk c9
            clear c9
            obtain ⟨y106, hy106⟩ : ∃ y_ : List (S25), y_ = (x5_1 ++ (rd_L3 l1 x6_1)) := ⟨_, rfl⟩
            replace H : (spec_Made.l0 k1 l1 y106 (wrap64 (x6_1 + 1))) = some r := by first | (rw [hy106]; with_reducible exact H) | (have H2_ := (Option.bind_some _ _).symm.trans H; rw [hy106]; with_reducible exact H2_) | (have H2_ := (Option.bind_some _ _).symm.trans H; with_reducible exact H2_) | with_reducible exact H | (rw [hy106]; exact H) | exact H
            have Ny106 := Aside0.mk hy106
            clear hy106
            have H' := Aside0.mk H
            clear H
            have p105 : 0 ≤ (x6_1 : Int) := of_decide_eq_true (by first | (with_reducible assumption) | assumption)
            have q105 : x6_1 < (l1.length : Int) := of_decide_eq_true (by first | (with_reducible assumption) | assumption)
            obtain ⟨ad105, A105_0, c105_0, e105, hx105_0, hl105_0, hi105_0⟩ := at_L3 HR1.out x6_1 p105 q105
            cases e105
            replace hx105_0 := (HB.out.cell (World.block_lt_of_cell? w _ hx105_0)).trans hx105_0
            have HR105_0 := Aside0.mk hi105_0
            have HC105_0 := Aside0.mk hl105_0
            clear hi105_0 hl105_0
            replace p105 := eq_true p105
            replace q105 := eq_true q105
            go_wp2_with (first | ((with_reducible refine gate_builtin (b := .append) (xs := #[.tmp 15, .tmp 19]) rfl ?_); at_builtin; refine Kd.R_append_rows k25 (w0 := w) w.heap.size rfl (.tmp 15) (.tmp 19) 22 25 (.agg #[(.int .i64 0), (.string ⟨#[]⟩), (.string ⟨#[]⟩), (.string ⟨#[]⟩), (.int .i64 0), (.int .i64 0)]) 72 rfl Tryz.underlying22 info25 rfl (by decide) (by omega) u5 x5_1 (rd_L3 l1 x6_1) _ _ _ (fun k_ => k_ ≠ gb101) (fun _ => False) rfl rfl ?aO ?aR (fun _ _ h => h) (fun _ h => h.elim) ?aF ?aB ?aS ?aL ?_; (case aR => repeat (first | exact (Kd.C_below HR105_0.out HB.out) | (with_reducible refine Kd.C_alloc ?_ _) | (with_reducible refine Kd.C_drewN ?_ _) | (with_reducible refine Kd.C_drew ?_))); (case aB => exact (by repeat (first | (with_reducible first | exact HB.out | apply below_alloc | apply pw_below_drewN | apply below_drew1 | refine below_set ?_ GE101.out) | exact HB.out))); (case aF => exact (fun k_ hk => Kd.freshB (g := gb101) (o := .cells #[.int .i64 a0_0, .string a0_1, .string a0_2, .string a0_3, .int .i64 a0_4, .int .i64 a0_5] 25 (0, 0)) (by (with_reducible repeat (first | refine blk_drewN ?_ _ | refine blk_drew ?_ | refine blk_alloc ?_ _)); exact BK101.out) k_ hk)); (case aO => exact (by (with_reducible repeat (first | apply Kd.R_alloc | apply Kd.R_drewN | apply Kd.R_drew)); exact HO_5.out)); (case aS => exact (below_size (by repeat (first | (with_reducible first | exact HB.out | apply below_alloc | apply pw_below_drewN | apply below_drew1 | refine below_set ?_ GE101.out) | exact HB.out)))); (case aL => have := LMc9.out; omega); intro v107 w10 ho hb hg hat; rw [← Ny106.out] at ho; have n0_ := Aside0.mk (blk_grown (g := gb101) (o := .cells #[.int .i64 a0_0, .string a0_1, .string a0_2, .string a0_3, .int .i64 a0_4, .int .i64 a0_5] 25 (0, 0)) (by (with_reducible repeat (first | refine blk_drewN ?_ _ | refine blk_drew ?_ | refine blk_alloc ?_ _)); exact BK101.out) hg (Kd.R_away HO_5.out (fun _ hk => hk))); have n1_ := Aside0.mk (hb); have n2_ := Aside0.mk (ho); clear BK101; clear HB; clear HO_5; have BK101 := n0_; have HB := n1_; have HO108 := n2_; clear n0_ n1_ n2_; clear ho hb hg hat))
            go_roundg k1
            case measure => have := HK1.out; omega
            case rel => exact ⟨(y106), (wrap64 (x6_1 + 1)), (by first | rfl | (simp; done) | (simp [*]; done)), H', ⟨by have := HK1.out; omega⟩, ⟨by (with_reducible repeat (first | apply Kd.R_alloc | apply Kd.R_drewN | apply Kd.R_drew)); exact HO108.out⟩, ⟨by (with_reducible repeat (first | refine blk_drewN ?_ _ | refine blk_drew ?_ | refine blk_alloc ?_ _)); exact BK101.out⟩, ⟨by repeat (first | (with_reducible first | exact HB.out | apply below_alloc | apply pw_below_drewN | apply below_drew1 | refine below_set ?_ GE101.out) | exact HB.out)⟩⟩
          · rw [if_neg c9] at H
            exact absurd H (by simp)
        · rw [if_neg c8] at H
          exact absurd H (by simp)
      · rw [if_neg c7] at H
        have c7b0 : decide (x6_1 < (l1.length : Int)) = false := decide_eq_false c7
        clear c7
        by_cases c11 : 0 < (x5_1.length : Int)
        · rw [if_pos c11] at H
          have c11b0 : decide (0 < (x5_1.length : Int)) = true := decide_eq_true c11
          have c11b1 : decide (0 < x5_1.length) = true := decide_eq_true (by omega)
          clear c11
          obtain ⟨y109, hy109⟩ : ∃ y_ : List (S25), y_ = (x5_1.set (0 : Int).toNat (⟨(rd_T25 x5_1 0).f0, (rd_T25 x5_1 0).f1, (rd_T25 x5_1 0).f2, (rd_T25 x5_1 0).f3, (rd_T25 x5_1 0).f4, (x5_1.length : Int)⟩ : S25)) := ⟨_, rfl⟩
          replace H : (some y109) = some r := by first | (rw [hy109]; with_reducible exact H) | (have H2_ := (Option.bind_some _ _).symm.trans H; rw [hy109]; with_reducible exact H2_) | (have H2_ := (Option.bind_some _ _).symm.trans H; with_reducible exact H2_) | with_reducible exact H | (rw [hy109]; exact H) | exact H
          have Ny109 := Aside0.mk hy109
          clear hy109
          obtain rfl := Option.some.inj H
          obtain ⟨Ao13, co13, eo13⟩ := Kd.R_slice HO_5.out
          subst eo13
          have p12 : 0 ≤ (0 : Int) := (by omega)
          have q12 : (0 : Int) < ((x5_1.length : Int) : Int) := of_decide_eq_true (by first | (with_reducible assumption) | assumption)
          have qi12 : (0 < x5_1.length) = True := eq_true (by omega)
          obtain ⟨go12, co12, eo12, gb12, gl12, cl12, HG12⟩ := Kd.R_form HO_5.out (by omega)
          (first | cases eo12 | (injection eo12 with ea_ en_ ec_; (first | subst ea_ | (injection ea_ with ea_; subst ea_)); subst ec_; clear en_))
          have GB12 := Aside0.mk gb12
          have GG12 := Aside0.mk HG12
          clear gb12 gl12 HG12
          obtain ⟨ce12, hcl12, hM12, hcc12, hfr12⟩ := Kd.R_elem HO_5.out z25 (0 : Int) p12 q12
          obtain rfl := k25_openM hM12
          have hx12_0 : wr.cell? ⟨go12, (0 : Int).toNat * 6, none⟩ = some (.int .i64 ((rd_T25 x5_1 0).f0)) := hcc12 0 _ rfl
          have hx12_1 : wr.cell? ⟨go12, (0 : Int).toNat * 6 + 1, none⟩ = some (.string ((rd_T25 x5_1 0).f1)) := hcc12 1 _ rfl
          have hx12_2 : wr.cell? ⟨go12, (0 : Int).toNat * 6 + 2, none⟩ = some (.string ((rd_T25 x5_1 0).f2)) := hcc12 2 _ rfl
          have hx12_3 : wr.cell? ⟨go12, (0 : Int).toNat * 6 + 3, none⟩ = some (.string ((rd_T25 x5_1 0).f3)) := hcc12 3 _ rfl
          have hx12_4 : wr.cell? ⟨go12, (0 : Int).toNat * 6 + 4, none⟩ = some (.int .i64 ((rd_T25 x5_1 0).f4)) := hcc12 4 _ rfl
          have hx12_5 : wr.cell? ⟨go12, (0 : Int).toNat * 6 + 5, none⟩ = some (.int .i64 ((rd_T25 x5_1 0).f5)) := hcc12 5 _ rfl
          have hf12_0 : wr.frozen? ⟨go12, (0 : Int).toNat * 6, none⟩ = false := hfr12 0
          have hf12_1 : wr.frozen? ⟨go12, (0 : Int).toNat * 6 + 1, none⟩ = false := hfr12 1
          have hf12_2 : wr.frozen? ⟨go12, (0 : Int).toNat * 6 + 2, none⟩ = false := hfr12 2
          have hf12_3 : wr.frozen? ⟨go12, (0 : Int).toNat * 6 + 3, none⟩ = false := hfr12 3
          have hf12_4 : wr.frozen? ⟨go12, (0 : Int).toNat * 6 + 4, none⟩ = false := hfr12 4
          have hf12_5 : wr.frozen? ⟨go12, (0 : Int).toNat * 6 + 5, none⟩ = false := hfr12 5
          clear hcl12 hcc12 hfr12 hM12
          (try rw [show ((0 : Int)).toNat = 0 from rfl] at hx12_0)
          (try simp only [Nat.reduceMul, Nat.zero_mul, Nat.zero_add, Nat.reduceAdd] at hx12_0)
          (try rw [show ((0 : Int)).toNat = 0 from rfl] at hf12_0)
          (try simp only [Nat.reduceMul, Nat.zero_mul, Nat.zero_add, Nat.reduceAdd] at hf12_0)
          (try rw [show ((0 : Int)).toNat = 0 from rfl] at hx12_1)
          (try simp only [Nat.reduceMul, Nat.zero_mul, Nat.zero_add, Nat.reduceAdd] at hx12_1)
          (try rw [show ((0 : Int)).toNat = 0 from rfl] at hf12_1)
          (try simp only [Nat.reduceMul, Nat.zero_mul, Nat.zero_add, Nat.reduceAdd] at hf12_1)
          (try rw [show ((0 : Int)).toNat = 0 from rfl] at hx12_2)
          (try simp only [Nat.reduceMul, Nat.zero_mul, Nat.zero_add, Nat.reduceAdd] at hx12_2)
          (try rw [show ((0 : Int)).toNat = 0 from rfl] at hf12_2)
          (try simp only [Nat.reduceMul, Nat.zero_mul, Nat.zero_add, Nat.reduceAdd] at hf12_2)
          (try rw [show ((0 : Int)).toNat = 0 from rfl] at hx12_3)
          (try simp only [Nat.reduceMul, Nat.zero_mul, Nat.zero_add, Nat.reduceAdd] at hx12_3)
          (try rw [show ((0 : Int)).toNat = 0 from rfl] at hf12_3)
          (try simp only [Nat.reduceMul, Nat.zero_mul, Nat.zero_add, Nat.reduceAdd] at hf12_3)
          (try rw [show ((0 : Int)).toNat = 0 from rfl] at hx12_4)
          (try simp only [Nat.reduceMul, Nat.zero_mul, Nat.zero_add, Nat.reduceAdd] at hx12_4)
          (try rw [show ((0 : Int)).toNat = 0 from rfl] at hf12_4)
          (try simp only [Nat.reduceMul, Nat.zero_mul, Nat.zero_add, Nat.reduceAdd] at hf12_4)
          (try rw [show ((0 : Int)).toNat = 0 from rfl] at hx12_5)
          (try simp only [Nat.reduceMul, Nat.zero_mul, Nat.zero_add, Nat.reduceAdd] at hx12_5)
          (try rw [show ((0 : Int)).toNat = 0 from rfl] at hf12_5)
          (try simp only [Nat.reduceMul, Nat.zero_mul, Nat.zero_add, Nat.reduceAdd] at hf12_5)
          replace p12 := eq_true p12
          replace q12 := eq_true q12
          have HX14 := Aside0.mk (show Kd.R k25 25 wr w.heap.size (fun k_ => k_ ≠ gb101) (.slice (some ⟨go12, 0, none⟩) x5_1.length co13) x5_1 from (by (with_reducible repeat (first | apply Kd.R_alloc | apply Kd.R_drewN | apply Kd.R_drew)); exact HO_5.out))
          obtain ⟨ce14, hcl14, hM14, hcc14, hfr14⟩ := Kd.R_elem HX14.out z25 (0 : Int) (by omega) (by have h_ : (0 : Int) < ((x5_1.length : Int) : Int) := of_decide_eq_true (by first | (with_reducible assumption) | assumption); first | exact h_ | (have e_ := (Kd.R_reads' HO_5.out).1; omega) | simpa using h_)
          obtain rfl := k25_openM hM14
          have HP14 := Kd.R_seg HX14.out (0 : Int) (by omega) (by have h_ : (0 : Int) < ((x5_1.length : Int) : Int) := of_decide_eq_true (by first | (with_reducible assumption) | assumption); first | exact h_ | (have e_ := (Kd.R_reads' HO_5.out).1; omega) | simpa using h_) (seg := [.int .i64 (x5_1.length : Int)]) (j := 5) hcl14 hcc14 (show 6 ≤ 6 from by decide) (x' := (⟨(rd_T25 x5_1 0).f0, (rd_T25 x5_1 0).f1, (rd_T25 x5_1 0).f2, (rd_T25 x5_1 0).f3, (rd_T25 x5_1 0).f4, (x5_1.length : Int)⟩ : S25)) (k25_mkM _ _ _ (⟨(rd_T25 x5_1 0).f0, (rd_T25 x5_1 0).f1, (rd_T25 x5_1 0).f2, (rd_T25 x5_1 0).f3, (rd_T25 x5_1 0).f4, (x5_1.length : Int)⟩ : S25) ) (fun _ hk => hk)
          have hx14_5 := hcc14 5 _ rfl
          (try simp only [show (k25).sz = 6 from rfl, Nat.mul_one, Nat.add_zero] at hx14_5)
          (try rw [show ((0 : Int)).toNat = 0 from rfl] at hx14_5)
          (try simp only [Nat.reduceMul, Nat.zero_mul, Nat.zero_add, Nat.reduceAdd] at hx14_5)
          have hf14_5 := hfr14 5
          (try simp only [show (k25).sz = 6 from rfl, Nat.mul_one, Nat.add_zero] at hf14_5)
          (try rw [show ((0 : Int)).toNat = 0 from rfl] at hf14_5)
          (try simp only [Nat.reduceMul, Nat.zero_mul, Nat.zero_add, Nat.reduceAdd] at hf14_5)
          clear hcl14 hcc14 hfr14 hM14
          go_wp2_with (first | ((with_reducible refine gate_store (t := 3) (p := 25) rfl ?_); refine store_event (t := 3) (p := 25) (v := ?vo_w15) (w1 := (wr.setCell ⟨go12, 5, none⟩ (.int .i64 (x5_1.length : Int)))) ?hg ?ho ?hn ?hr ?_; (case ho => rfl); (case hg => rfl); (case hn => rfl); (case hr => first | (go_simp; done) | (go_simp; rfl)); intro w15 hw; have hg : wr.grownBy w15 (some go12) := (by rw [hw]; exact HP14.2); have hp_ : Kd.R k25 25 w15 w.heap.size (fun k_ => k_ ≠ gb101) (.slice (some ⟨go12, 0, none⟩) x5_1.length co13) y109 := (by rw [hw, Ny109.out]; exact HP14.1); clear HP14; have n0_ := Aside0.mk (hp_); have n1_ := Aside0.mk (blk_grown (g := gb101) (o := .cells #[.int .i64 a0_0, .string a0_1, .string a0_2, .string a0_3, .int .i64 a0_4, .int .i64 a0_5] 25 (0, 0)) (by (with_reducible repeat (first | refine blk_drewN ?_ _ | refine blk_drew ?_ | refine blk_alloc ?_ _)); exact BK101.out) hg (Kd.R_away HO_5.out (fun _ hk => hk))); have n2_ := Aside0.mk ((by rw [hw]; exact below_set (HB.out) GB12.out : Below w.heap.size w w15)); clear HO_5; clear BK101; clear HB; have HO_5 := n0_; have BK101 := n1_; have HB := n2_; clear n0_ n1_ n2_; clear hg hw hp_))
          go_ret
          exact ⟨_, by first | rfl | (simp [errW_none, errW_some] <;> rfl) | (simp [*, errW_none, errW_some] <;> rfl), by (with_reducible repeat (first | apply Kd.R_alloc | apply Kd.R_drewN | apply Kd.R_drew)); exact Kd.R_mono HO_5.out (fun _ hk => trivial), by repeat (first | (with_reducible first | exact HB.out | apply below_alloc | apply pw_below_drewN | apply below_drew1 | refine below_set ?_ GE101.out) | exact HB.out)⟩
        · rw [if_neg c11] at H
          exact absurd H (by simp)

/-! ### spec_sized: function 16 -/
mutual
def spec_sized.j0 : Nat → List (S25) → Int → Int → Int → Bool → Option (Bool)
  | 0, _, _, _, _, _ => none
  | k + 1, x0, x1, x3, x9, x28 => if x28 = true then (some false) else (spec_sized.l0 k x0 x1 x3 x9 (wrap64 (x1 + 1)))
def spec_sized.l0 : Nat → List (S25) → Int → Int → Int → Int → Option (Bool)
  | 0, _, _, _, _, _ => none
  | k + 1, x0, x1, x3, x9, x10 => if x10 < (wrap64 (x1 + x9)) then ((spec_sized.f k x0 x10 (wrap64 (x1 + x9)) (wrap64 (x3 + 1))).bind fun t111 => (if t111 = true then (if 0 ≤ x10 then (if x10 < (x0.length : Int) then (spec_sized.l0 k x0 x1 x3 x9 (wrap64 (x10 + ((rd_T25 x0 x10).f5)))) else (none)) else (none)) else (some false))) else (some true)
def spec_sized.f : Nat → List (S25) → Int → Int → Int → Option (Bool)
  | 0, _, _, _, _ => none
  | k + 1, l0, a1, a2, a3 => if 0 ≤ a1 then (if a1 < (l0.length : Int) then (if ((rd_T25 l0 a1).f5) < 1 then (spec_sized.j0 k l0 a1 a3 ((rd_T25 l0 a1).f5) true) else (if ((rd_T25 l0 a1).f5) > (wrap64 (a2 - a1)) then (spec_sized.j0 k l0 a1 a3 ((rd_T25 l0 a1).f5) true) else (spec_sized.j0 k l0 a1 a3 ((rd_T25 l0 a1).f5) (decide (a3 > 40))))) else (none)) else (none)
end
theorem spec_sized.mono_l : ∀ k, (∀ y0 y1 y2 y3, LeO (spec_sized.f k y0 y1 y2 y3) (spec_sized.f (k + 1) y0 y1 y2 y3)) ∧ (∀ y0 y1 y2 y3 y4, LeO (spec_sized.j0 k y0 y1 y2 y3 y4) (spec_sized.j0 (k + 1) y0 y1 y2 y3 y4)) ∧ (∀ y0 y1 y2 y3 y4, LeO (spec_sized.l0 k y0 y1 y2 y3 y4) (spec_sized.l0 (k + 1) y0 y1 y2 y3 y4))
  | 0 => ⟨fun _ _ _ _ r h => by simp [spec_sized.f] at h, fun _ _ _ _ _ r h => by simp [spec_sized.j0] at h, fun _ _ _ _ _ r h => by simp [spec_sized.l0] at h⟩
  | k + 1 => by
    obtain ⟨ih0, ih1, ih2⟩ := spec_sized.mono_l k
    refine ⟨?_, ?_, ?_⟩
    · intro y0 y1 y2 y3
      unfold spec_sized.f
      repeat' first
      | (with_reducible exact ih0 _ _ _ _)
      | (with_reducible exact ih1 _ _ _ _ _)
      | (with_reducible exact ih2 _ _ _ _ _)
      | (with_reducible exact LeO.refl _)
      | (with_reducible exact LeO.none _)
      | (with_reducible refine LeO.ite ?_ ?_)
      | (with_reducible refine LeO.bind ?_ (fun _ => ?_))
      | exact ih0 _ _ _ _
      | exact ih1 _ _ _ _ _
      | exact ih2 _ _ _ _ _
      | exact LeO.none _
      | refine LeO.ite ?_ ?_
      | refine LeO.bind ?_ (fun _ => ?_)
    · intro y0 y1 y2 y3 y4
      unfold spec_sized.j0
      repeat' first
      | (with_reducible exact ih0 _ _ _ _)
      | (with_reducible exact ih1 _ _ _ _ _)
      | (with_reducible exact ih2 _ _ _ _ _)
      | (with_reducible exact LeO.refl _)
      | (with_reducible exact LeO.none _)
      | (with_reducible refine LeO.ite ?_ ?_)
      | (with_reducible refine LeO.bind ?_ (fun _ => ?_))
      | exact ih0 _ _ _ _
      | exact ih1 _ _ _ _ _
      | exact ih2 _ _ _ _ _
      | exact LeO.none _
      | refine LeO.ite ?_ ?_
      | refine LeO.bind ?_ (fun _ => ?_)
    · intro y0 y1 y2 y3 y4
      unfold spec_sized.l0
      repeat' first
      | (with_reducible exact ih0 _ _ _ _)
      | (with_reducible exact ih1 _ _ _ _ _)
      | (with_reducible exact ih2 _ _ _ _ _)
      | (with_reducible exact LeO.refl _)
      | (with_reducible exact LeO.none _)
      | (with_reducible refine LeO.ite ?_ ?_)
      | (with_reducible refine LeO.bind ?_ (fun _ => ?_))
      | exact ih0 _ _ _ _
      | exact ih1 _ _ _ _ _
      | exact ih2 _ _ _ _ _
      | exact LeO.none _
      | refine LeO.ite ?_ ?_
      | refine LeO.bind ?_ (fun _ => ?_)
theorem spec_sized.mono : ∀ a0 a1 a2 a3 k, LeO (spec_sized.f k a0 a1 a2 a3) (spec_sized.f (k + 1) a0 a1 a2 a3) := by
  intro a0 a1 a2 a3 k
  obtain ⟨ih0, ih1, ih2⟩ := spec_sized.mono_l k
  exact ih0 a0 a1 a2 a3
set_option maxHeartbeats 8000000 in
set_option maxRecDepth 100000 in
theorem spec_sized.calls (k : Nat) : ∀ (A0 : Option Addr) (c0 : Nat) (l0 : List (S25)) (a1 : Int) (a2 : Int) (a3 : Int) (r : Bool) (w : World) (hr0 : Kd.C k25 w A0 l0.length l0) (hc0 : l0.length ≤ c0) (h : spec_sized.f k l0 a1 a2 a3 = some r),
    Calls Tryz.prog 16 #[.slice A0 l0.length c0, .int .i64 a1, .int .i64 a2, .int .i64 a3] w fun e w' => e = .returned (.bool r) ∧ Drawn0 w w' := by
  induction k using Nat.strongRecOn with
  | _ k ih =>
  intro A0 c0 l0 a1 a2 a3 r w hr0 hc0 h
  cases k with
  | zero => exact absurd h (by simp [spec_sized.f])
  | succ k =>
  simp only [spec_sized.f] at h
  have HR0 := Aside0.mk hr0
  have HC0 := Aside0.mk hc0
  clear hr0 hc0
  have H : (if 0 ≤ a1 then (if a1 < (l0.length : Int) then (if ((rd_T25 l0 a1).f5) < 1 then (spec_sized.j0 k l0 a1 a3 ((rd_T25 l0 a1).f5) true) else (if ((rd_T25 l0 a1).f5) > (wrap64 (a2 - a1)) then (spec_sized.j0 k l0 a1 a3 ((rd_T25 l0 a1).f5) true) else (spec_sized.j0 k l0 a1 a3 ((rd_T25 l0 a1).f5) (decide (a3 > 40))))) else (none)) else (none)) = some r := h
  clear h
  by_cases c5 : 0 ≤ a1
  · rw [if_pos c5] at H
    have c5b0 : decide (0 ≤ a1) = true := decide_eq_true c5
    clear c5
    by_cases c6 : a1 < (l0.length : Int)
    · rw [if_pos c6] at H
      have c6b0 : decide (a1 < (l0.length : Int)) = true := decide_eq_true c6
      clear c6
      have HC7 := Aside0.mk H
      clear H
      have p110 : 0 ≤ (a1 : Int) := of_decide_eq_true (by first | (with_reducible assumption) | assumption)
      have q110 : a1 < (l0.length : Int) := of_decide_eq_true (by first | (with_reducible assumption) | assumption)
      obtain ⟨ad110, e110, hx110_0, hx110_1, hx110_2, hx110_3, hx110_4, hx110_5⟩ := at_T25 HR0.out a1 p110 q110
      cases e110
      replace p110 := eq_true p110
      replace q110 := eq_true q110
      go_enter Tryz.func16, Tryz.ntmps16
      go_upto_region 2 with (fail)
      go_cut [28] (fun v28 wc => ∃ (kq : Nat) (x28_6 : Bool), v28 = .bool x28_6 ∧ Aside0 (spec_sized.j0 kq l0 a1 a3 ((rd_T25 l0 a1).f5) x28_6 = some r) ∧ Aside0 (kq ≤ k) ∧ Drawn0 w wc)
      case first =>
        have H := HC7.out
        clear HC7
        by_cases c8 : ((rd_T25 l0 a1).f5) < 1
        · rw [if_pos c8] at H
          have c8b0 : decide (((rd_T25 l0 a1).f5) < 1) = true := decide_eq_true c8
          clear c8
          (first | rw [c8b0] | (simp only [i64_w, i32_w]; rw [c8b0]) | skip)
          have H' := Aside0.mk H
          clear H
          go_wp2
          go_meet
          case rel => exact ⟨_, (true), (by first | rfl | (simp; done) | (simp [*]; done)), H', ⟨by first | omega | exact Nat.le_refl _⟩, by repeat (first | exact Drawn0.refl _ | apply Drawn0.step)⟩
        · rw [if_neg c8] at H
          have c8b0 : decide (((rd_T25 l0 a1).f5) < 1) = false := decide_eq_false c8
          clear c8
          (first | rw [c8b0] | (simp only [i64_w, i32_w]; rw [c8b0]) | skip)
          by_cases c9 : ((rd_T25 l0 a1).f5) > (wrap64 (a2 - a1))
          · rw [if_pos c9] at H
            have c9b0 : decide ((wrap64 (a2 - a1)) < ((rd_T25 l0 a1).f5)) = true := decide_eq_true c9
            clear c9
            have H' := Aside0.mk H
            clear H
            go_wp2
            go_meet
            case rel => exact ⟨_, (true), (by first | rfl | (simp; done) | (simp [*]; done)), H', ⟨by first | omega | exact Nat.le_refl _⟩, by repeat (first | exact Drawn0.refl _ | apply Drawn0.step)⟩
          · rw [if_neg c9] at H
            have c9b0 : decide ((wrap64 (a2 - a1)) < ((rd_T25 l0 a1).f5)) = false := decide_eq_false c9
            clear c9
            have H' := Aside0.mk H
            clear H
            go_wp2
            go_meet
            case rel => exact ⟨_, (decide (a3 > 40)), (by first | rfl | (simp; done) | (simp [*]; done)), H', ⟨by first | omega | exact Nat.le_refl _⟩, by repeat (first | exact Drawn0.refl _ | apply Drawn0.step)⟩
      case rest =>
        clear HC7
        try clear c1
        try clear p1
        try clear q1
        try clear hx1
        try clear p2
        try clear c5
        try clear c5b0
        try clear c6
        try clear c6b0
        try clear p6
        try clear c8
        try clear c8b0
        try clear c9
        try clear c9b0
        try clear hx110_0
        try clear hx110_1
        try clear hx110_2
        try clear hx110_3
        try clear hx110_4
        try clear hx110_5
        try clear p110
        try clear q110
        obtain ⟨kq, x28_6, rfl, HA, HJ6, ⟨mc6, rfl⟩⟩ := hcut
        cases kq with
        | zero => exact absurd HA.out (by simp [spec_sized.j0])
        | succ kj6 =>
          have H := HA.out
          clear HA
          simp only [spec_sized.j0] at H
          by_cases c10 : x28_6 = true
          · subst c10
            have H1 : (some false) = some r := by rw [if_pos rfl] at H; exact H
            clear H
            have H := H1
            clear H1
            obtain rfl := Option.some.inj H
            go_wp2
            go_ret
            exact ⟨by first | rfl | (simp; done) | (simp [*]; done), by repeat (first | exact Drawn0.refl _ | apply Drawn0.step)⟩
          · replace c10 := Bool.eq_false_iff.mpr c10
            subst c10
            have H1 : (spec_sized.l0 kj6 l0 a1 a3 ((rd_T25 l0 a1).f5) (wrap64 (a1 + 1))) = some r := by rw [if_neg (show ¬ (false = true) by decide)] at H; exact H
            clear H
            have H := H1
            clear H1
            have H' := Aside0.mk H
            clear H
            go_wp2
            go_loopg [10] kj6 (fun kq v10 w' => ∃ (x10_2 : Int), v10 = .int .i64 x10_2 ∧ Aside0 (spec_sized.l0 kq l0 a1 a3 ((rd_T25 l0 a1).f5) x10_2 = some r) ∧ Aside0 (kq ≤ kj6) ∧ Drawn0 w w')
            case atStart => exact ⟨(wrap64 (a1 + 1)), (by first | rfl | (simp; done) | (simp [*]; done)), H', ⟨Nat.le_refl _⟩, by repeat (first | exact Drawn0.refl _ | apply Drawn0.step)⟩
            case round =>
              clear H'
              try clear c1
              try clear p1
              try clear q1
              try clear hx1
              try clear p2
              try clear c5
              try clear c5b0
              try clear c6
              try clear c6b0
              try clear p6
              try clear c8
              try clear c8b0
              try clear c9
              try clear c9b0
              try clear c10
              try clear hx110_0
              try clear hx110_1
              try clear hx110_2
              try clear hx110_3
              try clear hx110_4
              try clear hx110_5
              try clear p1
              try clear p110
              try clear p2
              try clear p6
              try clear q1
              try clear q110
              obtain ⟨x10_2, rfl, HA, HK2, ⟨m2, rfl⟩⟩ := hrel
              cases gk with
              | zero => exact absurd HA.out (by simp [spec_sized.l0])
              | succ k2 =>
                have H := HA.out
                clear HA
                simp only [spec_sized.l0] at H
                by_cases c11 : x10_2 < (wrap64 (a1 + ((rd_T25 l0 a1).f5)))
                · rw [if_pos c11] at H
                  have c11b0 : decide (x10_2 < (wrap64 (a1 + ((rd_T25 l0 a1).f5)))) = true := decide_eq_true c11
                  clear c11
                  replace H := Option.bind_eq_some_iff.mp H
                  obtain ⟨t111, A120, H⟩ := H
                  replace H : (if t111 = true then (if 0 ≤ x10_2 then (if x10_2 < (l0.length : Int) then (spec_sized.l0 k2 l0 a1 a3 ((rd_T25 l0 a1).f5) (wrap64 (x10_2 + ((rd_T25 l0 x10_2).f5)))) else (none)) else (none)) else (some false)) = some r := H
                  have A12 := Aside0.mk A120
                  clear A120
                  by_cases c13 : t111 = true
                  · subst c13
                    have H1 : (if 0 ≤ x10_2 then (if x10_2 < (l0.length : Int) then (spec_sized.l0 k2 l0 a1 a3 ((rd_T25 l0 a1).f5) (wrap64 (x10_2 + ((rd_T25 l0 x10_2).f5)))) else (none)) else (none)) = some r := by rw [if_pos rfl] at H; exact H
                    clear H
                    have H := H1
                    clear H1
                    by_cases c14 : 0 ≤ x10_2
                    · rw [if_pos c14] at H
                      have c14b0 : decide (0 ≤ x10_2) = true := decide_eq_true c14
                      clear c14
                      by_cases c15 : x10_2 < (l0.length : Int)
                      · rw [if_pos c15] at H
                        have c15b0 : decide (x10_2 < (l0.length : Int)) = true := decide_eq_true c15
                        clear c15
                        have H' := Aside0.mk H
                        clear H
                        go_wp2_with (first | ((with_reducible refine gate_callee (f := 16) rfl ?_); refine goesL_ (some 43) rfl rfl Tryz.func16 (by kernel_rfl) rfl #[.slice (some ad110) l0.length c0, .int .i64 x10_2, .int .i64 (wrap64 (a1 + ((rd_T25 l0 a1).f5))), .int .i64 (wrap64 (a3 + 1))] rfl (by (try simp only [List.map_toArray, List.map_cons, List.map_nil]); first | done | rfl | (simp only [List.length_drop, List.length_take]; rfl)) ?_; (with_reducible refine (ih k2 (by have := HJ6.out; have := HK2.out; omega) _ _ l0 x10_2 (wrap64 (a1 + ((rd_T25 l0 a1).f5))) (wrap64 (a3 + 1)) true _ ?side1 ?side2 A12.out).mono ?_); (case side1 => repeat (first | exact HR0.out | (with_reducible refine Kd.C_alloc ?_ _) | (with_reducible refine Kd.C_drewN ?_ _) | (with_reducible refine Kd.C_drew ?_))); (case side2 => exact HC0.out); rintro e w' ⟨rfl, ⟨nd, rfl⟩⟩; refine ⟨_, rfl, ?_⟩; have p112 : 0 ≤ (x10_2 : Int) := of_decide_eq_true (by first | (with_reducible assumption) | assumption); have q112 : x10_2 < (l0.length : Int) := of_decide_eq_true (by first | (with_reducible assumption) | assumption); obtain ⟨ad112, e112, hx112_0, hx112_1, hx112_2, hx112_3, hx112_4, hx112_5⟩ := at_T25 HR0.out x10_2 p112 q112; obtain rfl : ad110 = ad112 := (by injection e112); replace p112 := eq_true p112; replace q112 := eq_true q112))
                        go_roundg k2
                        case measure => have := HJ6.out; have := HK2.out; omega
                        case rel => exact ⟨(wrap64 (x10_2 + ((rd_T25 l0 x10_2).f5))), (by first | rfl | (simp; done) | (simp [*]; done)), H', ⟨by have := HJ6.out; have := HK2.out; omega⟩, by repeat (first | exact Drawn0.refl _ | apply Drawn0.step)⟩
                      · rw [if_neg c15] at H
                        exact absurd H (by simp)
                    · rw [if_neg c14] at H
                      exact absurd H (by simp)
                  · replace c13 := Bool.eq_false_iff.mpr c13
                    subst c13
                    have H1 : (some false) = some r := by rw [if_neg (show ¬ (false = true) by decide)] at H; exact H
                    clear H
                    have H := H1
                    clear H1
                    obtain rfl := Option.some.inj H
                    go_wp2_with (first | ((with_reducible refine gate_callee (f := 16) rfl ?_); refine goesL_ (some 43) rfl rfl Tryz.func16 (by kernel_rfl) rfl #[.slice (some ad110) l0.length c0, .int .i64 x10_2, .int .i64 (wrap64 (a1 + ((rd_T25 l0 a1).f5))), .int .i64 (wrap64 (a3 + 1))] rfl (by (try simp only [List.map_toArray, List.map_cons, List.map_nil]); first | done | rfl | (simp only [List.length_drop, List.length_take]; rfl)) ?_; (with_reducible refine (ih k2 (by have := HJ6.out; have := HK2.out; omega) _ _ l0 x10_2 (wrap64 (a1 + ((rd_T25 l0 a1).f5))) (wrap64 (a3 + 1)) false _ ?side1 ?side2 A12.out).mono ?_); (case side1 => repeat (first | exact HR0.out | (with_reducible refine Kd.C_alloc ?_ _) | (with_reducible refine Kd.C_drewN ?_ _) | (with_reducible refine Kd.C_drew ?_))); (case side2 => exact HC0.out); rintro e w' ⟨rfl, ⟨nd, rfl⟩⟩; refine ⟨_, rfl, ?_⟩))
                    go_ret
                    exact ⟨by first | rfl | (simp; done) | (simp [*]; done), by repeat (first | exact Drawn0.refl _ | apply Drawn0.step)⟩
                · rw [if_neg c11] at H
                  have c11b0 : decide (x10_2 < (wrap64 (a1 + ((rd_T25 l0 a1).f5)))) = false := decide_eq_false c11
                  clear c11
                  obtain rfl := Option.some.inj H
                  go_wp2
                  go_ret
                  exact ⟨by first | rfl | (simp; done) | (simp [*]; done), by repeat (first | exact Drawn0.refl _ | apply Drawn0.step)⟩
    · rw [if_neg c6] at H
      exact absurd H (by simp)
  · rw [if_neg c5] at H
    exact absurd H (by simp)

/-! ### spec_starts: function 15 -/
def spec_starts.f (a0 : ByteArray) (a1 : Int) (a2 : ByteArray) : Option (Bool) := if (wrap64 (a1 + (a2.size : Int))) ≤ (a0.size : Int) then (if 0 ≤ a1 then (if a1 ≤ (wrap64 (a1 + (a2.size : Int))) then (some ((a0.extract (a1 : Int).toNat ((wrap64 (a1 + (a2.size : Int))) : Int).toNat).toList == a2.toList)) else (none)) else (none)) else (some false)
set_option maxHeartbeats 8000000 in
set_option maxRecDepth 100000 in
theorem spec_starts.calls (a0 : ByteArray) (a1 : Int) (a2 : ByteArray) (r : Bool) (w : World) (h : spec_starts.f a0 a1 a2 = some r) :
    Calls Tryz.prog 15 #[.string a0, .int .i64 a1, .string a2] w fun e w' => e = .returned (.bool r) ∧ Drawn0 w w' := by
  have H : (if (wrap64 (a1 + (a2.size : Int))) ≤ (a0.size : Int) then (if 0 ≤ a1 then (if a1 ≤ (wrap64 (a1 + (a2.size : Int))) then (some ((a0.extract (a1 : Int).toNat ((wrap64 (a1 + (a2.size : Int))) : Int).toNat).toList == a2.toList)) else (none)) else (none)) else (some false)) = some r := h
  clear h
  by_cases c4 : (wrap64 (a1 + (a2.size : Int))) ≤ (a0.size : Int)
  · rw [if_pos c4] at H
    have c4b0 : decide ((wrap64 (a1 + (a2.size : Int))) ≤ (a0.size : Int)) = true := decide_eq_true c4
    clear c4
    by_cases c5 : 0 ≤ a1
    · rw [if_pos c5] at H
      have c5b0 := eq_true c5
      try (have c5s := c5; simp only [ByteArray.size_append, ByteArray.size_extract] at c5s)
      have c5b1 : decide (0 ≤ a1) = true := decide_eq_true c5
      clear c5
      by_cases c6 : a1 ≤ (wrap64 (a1 + (a2.size : Int)))
      · rw [if_pos c6] at H
        have c6b0 := eq_true c6
        try (have c6s := c6; simp only [ByteArray.size_append, ByteArray.size_extract] at c6s)
        have c6b1 : decide (a1 ≤ (wrap64 (a1 + (a2.size : Int)))) = true := decide_eq_true c6
        have c7b0 := eq_true (of_decide_eq_true (by first | (with_reducible assumption) | assumption) : (wrap64 (a1 + (a2.size : Int))) ≤ (a0.size : Int))
        obtain rfl := Option.some.inj H
        go_enter Tryz.func15, Tryz.ntmps15
        go_wp2
        go_ret
        exact ⟨by first | rfl | (cases h0_ : a0.toList <;> simp_all [List.isEmpty]; done) | (simp; done) | (simp [*]; done), by repeat (first | exact Drawn0.refl _ | apply Drawn0.step)⟩
      · rw [if_neg c6] at H
        exact absurd H (by simp)
    · rw [if_neg c5] at H
      exact absurd H (by simp)
  · rw [if_neg c4] at H
    have c4b0 : decide ((wrap64 (a1 + (a2.size : Int))) ≤ (a0.size : Int)) = false := decide_eq_false c4
    clear c4
    obtain rfl := Option.some.inj H
    go_enter Tryz.func15, Tryz.ntmps15
    go_wp2
    go_ret
    exact ⟨by first | rfl | (cases h0_ : a0.toList <;> simp_all [List.isEmpty]; done) | (simp; done) | (simp [*]; done), by repeat (first | exact Drawn0.refl _ | apply Drawn0.step)⟩

end Go.Proofs.YtfblohdfmaankaaGreatDoor.PFnTextWritten
