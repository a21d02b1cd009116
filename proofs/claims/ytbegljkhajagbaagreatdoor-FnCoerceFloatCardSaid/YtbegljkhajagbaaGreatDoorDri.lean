/- FnCoerceFloat: the reference's dataRight, walked: it answers a Boolean, and where that is true, a number is one that is looked at. Condition: the value's first node lies in the world. -/
import Derived.Test.YtbegljkhajagbaaGreatDoorMth
import Derived.Test.YtbegljkhajagbaaGreatDoorU8
import Derived.Deep.CutRange
import Derived.Deep.RegionWith
namespace Go.Proofs.YtbegljkhajagbaaGreatDoor.PFnCoerceFloat
open Go.RowKit Go.Proofs.YtbegljkhajagbaaGreatDoorW.PrintWords Go.Proofs.YtbegljkhajagbaaGreatDoorW.PrintLast Go.Proofs.YtbegljkhajagbaaGreatDoorW.PrintMore
set_option linter.unusedVariables false
set_option linter.unusedSimpArgs false
attribute [local go_sem] run_store_float
/-- It answers a Boolean; where that is true, P. -/
def DRP (e : Ending) (P : Prop) : Prop := ∃ b : Bool, e = .returned (.bool b) ∧ (b = true → P)
/-- What is known of a right value's first node. -/
def DGood (kd sz : Int) (nu n : Nat) : Prop := sz = n ∧ (kd = 2 ∨ kd = 3 → n = 1) ∧ (kd = 4 → n = 1 ∧ eqF nu (truncB nu) = true ∧ (FloatKind.f64.format.order (absB nu) 4845873199050653696 == some Ordering.lt) = true) ∧ (kd = 5 → n = 1 ∧ eqF nu nu = true)
/-- What the first test has seen. -/
def Seen (b : Bool) (sz dp : Int) (n : Nat) : Prop := b = false → sz = n ∧ 0 ≤ dp
set_option maxRecDepth 100000 in
theorem trunc_num (x : Nat) (w : World) (hn : ∀ s t, FloatKind.f64.decode x ≠ .nan s t) : Calls Tryz.prog 15 #[.float .f64 x] w fun e w' => e = .returned (.float .f64 (truncB x)) ∧ w' = w := by
  have e : Extern.MathFloor.toIntegral "math.archTrunc" .zero #[.float .f64 x] = pure (.float .f64 (truncB x)) := by
    obtain ⟨f, hf⟩ : ∃ f : Bool → Nat → Sem Value, Extern.MathFloor.toIntegral "math.archTrunc" .zero #[.float .f64 x] = (match FloatKind.f64.decode x with | .nan s t => f s t | d => pure (.float .f64 (FloatKind.f64.encode (d.integral .zero)))) := ⟨_, rfl⟩
    rw [hf]
    unfold truncB
    cases hd : FloatKind.f64.decode x with
    | nan s t => exact absurd hd (hn s t)
    | number s m e => rfl
    | infinity s => rfl
  have h : (callFunc 27 #[.float .f64 x]).run Tryz.prog w = .ok (.value (.float .f64 (truncB x))) w := by
    rw [run_callFunc_extern (e := Extern.MathFloor.toIntegral "math.archTrunc" .zero) Tryz.func27 (by kernel_rfl) (by kernel_rfl) (by kernel_rfl) (by kernel_rfl), e]
    rfl
  clear e hn
  go_enter Tryz.func15, Tryz.ntmps15
  go_wp2
  go_ret
  exact ⟨rfl, rfl⟩
theorem sb_num (x : Nat) (w : World) : Calls Tryz.prog 17 #[.float .f64 x] w fun e w' => e = .returned (.bool (decide (wrap64 (x : Int) < 0))) ∧ w' = w := by
  have h1 := fun (x : Nat) w => run_bits x w
  have h2 := fun (x : Int) w => run_frombits x w
  go_enter Tryz.func17, Tryz.ntmps17
  go_wp2
  go_ret
  exact ⟨rfl, rfl⟩
theorem good123 {kd sz : Int} {nu n : Nat} (hk : kd = 1 ∨ kd = 2 ∨ kd = 3) (hs : sz = n) (h : ((n : Int) == 1) = true) : DGood kd sz nu n :=
  ⟨hs, fun _ => by have h2 := eq_of_beq h; omega, fun h => by omega, fun h => by omega⟩
theorem goodx {kd sz : Int} {nu n : Nat} (h2 : kd ≠ 2) (h3 : kd ≠ 3) (h4 : kd ≠ 4) (h5 : kd ≠ 5) (hs : sz = n) : DGood kd sz nu n := ⟨hs, fun h => by omega, fun h => by omega, fun h => by omega⟩
theorem nan_ne {x : Nat} {s : Bool} {t : Nat} (h : FloatKind.f64.decode x = .nan s t) (r : Nat) : (FloatKind.f64.format.order x r == some Ordering.eq) = false := by
  have hn' : FloatKind.f64.format.read x = .nan s t := h
  unfold Ieee.Format.order
  rw [hn']
  rfl
set_option maxHeartbeats 8000000 in
set_option maxRecDepth 100000 in
theorem dr_walk {w : World} {ad : Addr} {n cap : Nat} (kd sz dp : Int) (nu : Nat) (tx : ByteArray) (er : Bool) (c0 : w.cell? ad = some (.int .i64 kd)) (c1 : w.cell? ⟨ad.block, ad.off + 1, none⟩ = some (.float .f64 nu)) (c2 : w.cell? ⟨ad.block, ad.off + 2, none⟩ = some (.string tx)) (c3 : w.cell? ⟨ad.block, ad.off + 3, none⟩ = some (.int .i64 sz)) (hn : 0 < n)
    (h21 : 0 ≤ dp → ∀ w', Below w.heap.size w w' → Calls Tryz.prog 21 #[.slice (some ad) n cap, .bool er, .int .i64 dp] w' fun e w'' => DRP e True ∧ Below w'.heap.size w' w'') :
    Calls Tryz.prog 11 #[.slice (some ad) n cap, .bool er, .int .i64 dp] w fun e w' => DRP e (DGood kd sz nu n) ∧ Below w.heap.size w w' := by
  have HB := Aside0.mk (Below.refl w.heap.size w)
  have H21 := Aside0.mk h21
  clear h21
  go_enter Tryz.func11, Tryz.ntmps11
  go_upto_region 2 with (first | ((with_reducible refine gate_dst (N := 7) rfl ?_); refine box_event ?hg (N := 7) ?hd (cs := #[.int .i64 0, .float .f64 0, .string ⟨#[]⟩, .int .i64 0]) (t := 33) ?hr ?_; (case hd => rfl); (case hg => rfl); (case hr => first | (go_simp; done) | (go_simp; rfl)); intro gb hg w2 hbox hb; have n0_ := Aside0.mk (below_step HB.out hb); have GE := Aside0.mk ((by rw [hg]; exact below_size HB.out : w.heap.size ≤ gb)); clear HB; have HB := n0_; have BK := Aside0.mk hbox; have hz0 : w2.cell? ⟨gb, 0, none⟩ = some (.int .i64 0) := (blk_cell BK.out 0).trans rfl; have hz1 : w2.cell? ⟨gb, 1, none⟩ = some (.float .f64 0) := (blk_cell BK.out 1).trans rfl; have hz2 : w2.cell? ⟨gb, 2, none⟩ = some (.string ⟨#[]⟩) := (blk_cell BK.out 2).trans rfl; have hz3 : w2.cell? ⟨gb, 3, none⟩ = some (.int .i64 0) := (blk_cell BK.out 3).trans rfl; have hf0 := blk_frozen BK.out 0; have hf1 := blk_frozen BK.out 1; have hf2 := blk_frozen BK.out 2; have hf3 := blk_frozen BK.out 3; clear n0_ hb hbox hg))
  obtain ⟨wx, hwx⟩ : ∃ wx, wx = (((w2.setCell ⟨gb, 0, none⟩ (.int .i64 kd)).setCell ⟨gb, 1, none⟩ (.float .f64 nu)).setCell ⟨gb, 2, none⟩ (.string tx)).setCell ⟨gb, 3, none⟩ (.int .i64 sz) := ⟨_, rfl⟩
  have HBx := Aside0.mk (show Below w.heap.size w wx by rw [hwx]; exact below_set (below_set (below_set (below_set HB.out GE.out) GE.out) GE.out) GE.out)
  have BKx := Aside0.mk (show wx.heap[gb]? = some (.cells #[.int .i64 kd, .float .f64 nu, .string tx, .int .i64 sz] 33 (0, 0)) by rw [hwx]; refine blk_put (cs := #[.int .i64 kd, .float .f64 nu, .string tx, .int .i64 0]) ?_ 3 _ rfl; refine blk_put (cs := #[.int .i64 kd, .float .f64 nu, .string ⟨#[]⟩, .int .i64 0]) ?_ 2 _ rfl; refine blk_put (cs := #[.int .i64 kd, .float .f64 0, .string ⟨#[]⟩, .int .i64 0]) ?_ 1 _ rfl; refine blk_put (cs := #[.int .i64 0, .float .f64 0, .string ⟨#[]⟩, .int .i64 0]) ?_ 0 _ rfl; exact BK.out)
  rw [← hwx]
  clear hwx HB BK hz0 hz1 hz2 hz3 hf0 hf1 hf2 hf3
  have HB := HBx
  have BK := BKx
  clear HBx BKx
  have hx0 : wx.cell? ⟨gb, 0, none⟩ = some (.int .i64 kd) := (blk_cell BK.out 0).trans rfl; have hx1 : wx.cell? ⟨gb, 1, none⟩ = some (.float .f64 nu) := (blk_cell BK.out 1).trans rfl; have hx2 : wx.cell? ⟨gb, 2, none⟩ = some (.string tx) := (blk_cell BK.out 2).trans rfl; have hx3 : wx.cell? ⟨gb, 3, none⟩ = some (.int .i64 sz) := (blk_cell BK.out 3).trans rfl
  go_cut [49] (fun v49 wc => ∃ b : Bool, v49 = .bool b ∧ Aside0 (Seen b sz dp n) ∧ Aside0 (Below w.heap.size w wc) ∧ Aside0 (wc.heap[gb]? = some (.cells #[.int .i64 kd, .float .f64 nu, .string tx, .int .i64 sz] 33 (0, 0))))
  case first =>
    by_cases hs : sz = n
    · have e1 : (sz != (n : Int)) = false := by rw [hs]; simp
      by_cases hd : dp < 0
      · have e2 : decide (dp < 0) = true := decide_eq_true hd
        clear hs hd
        go_wp2
        all_goals (go_meet; (case rel => exact ⟨_, by first | rfl | simp, ⟨fun h => by cases h⟩, HB, BK⟩))
      · have e2 : decide (dp < 0) = false := decide_eq_false hd
        have HSE := Aside0.mk (show ∀ b, Seen b sz dp n from fun b _ => ⟨hs, by omega⟩)
        clear hs hd
        go_wp2
        all_goals (go_meet; (case rel => exact ⟨_, by first | rfl | simp, ⟨HSE.out _⟩, HB, BK⟩))
    · have e1 : (sz != (n : Int)) = true := bne_iff_ne.mpr hs
      clear hs
      go_wp2
      all_goals (go_meet; (case rel => exact ⟨_, by first | rfl | simp, ⟨fun h => by cases h⟩, HB, BK⟩))
  case rest =>
    clear HB BK
    obtain ⟨b, rfl, HSE, HB, BK⟩ := hcut
    cases b with
    | true =>
      go_wp2
      go_ret
      exact ⟨⟨false, rfl, fun h => by cases h⟩, HB.out⟩
    | false =>
      have HSE := Aside0.mk (HSE.out rfl)
      have hx0 : wc.cell? ⟨gb, 0, none⟩ = some (.int .i64 kd) := (blk_cell BK.out 0).trans rfl
      have hx1 : wc.cell? ⟨gb, 1, none⟩ = some (.float .f64 nu) := (blk_cell BK.out 1).trans rfl
      have hx2 : wc.cell? ⟨gb, 2, none⟩ = some (.string tx) := (blk_cell BK.out 2).trans rfl
      have hx3 : wc.cell? ⟨gb, 3, none⟩ = some (.int .i64 sz) := (blk_cell BK.out 3).trans rfl
      by_cases k123 : kd = 1 ∨ kd = 2 ∨ kd = 3
      · have HK := Aside0.mk k123
        rcases k123 with h | h | h
        all_goals
          subst h
          go_wp2
          go_ret
          exact ⟨⟨_, rfl, fun h => good123 (by omega) HSE.out.1 h⟩, HB.out⟩
      have k1 : (kd == 1) = false := beq_eq_false_iff_ne.mpr (by omega)
      have k2 : (kd == 2) = false := beq_eq_false_iff_ne.mpr (by omega)
      have k3 : (kd == 3) = false := beq_eq_false_iff_ne.mpr (by omega)
      have HK := Aside0.mk k123
      clear k123
      by_cases h10 : kd = 10
      · subst h10
        cases er
        all_goals
          go_wp2
          all_goals go_ret
          all_goals exact ⟨⟨_, rfl, fun _ => goodx (by omega) (by omega) (by omega) (by omega) HSE.out.1⟩, HB.out⟩
      have k10 : (kd == 10) = false := beq_eq_false_iff_ne.mpr h10
      clear h10
      by_cases h4 : kd = 4
      · subst h4
        by_cases hn1 : n = 1
        · subst hn1
          by_cases hnan : ∃ s t, FloatKind.f64.decode nu = .nan s t
          · obtain ⟨s, t, hd⟩ := hnan
            have hord := nan_ne hd
            have hbin : ∀ (r : Nat) (w' : World), (binOp .eql 25 (.float .f64 nu) (.float .f64 r)).run Tryz.prog w' = .ok (.bool false) w' := fun r w' => by
              have h := hord r
              have hu := Tryz.underlying25
              go_simp
              done
            clear hd
            go_wp2
            have hundef : undef = Value.tuple #[] := rfl
            first | (go_region_with (first | (go_at_call 15; refine (trunc_walk nu _).mono ?_; rintro e w' ⟨⟨r, rfl, hr⟩, hB⟩; have hx1' : w'.cell? ⟨gb, 1, none⟩ = some (.float .f64 nu) := (hB.cell (World.block_lt_of_cell? wc _ hx1)).trans hx1; have n0_ := Aside0.mk (below_step (below_drew1 HB.out) hB); clear HB hr hB; have HB := n0_; clear n0_))) | fail
            all_goals go_wp2
            all_goals go_ret
            all_goals exact ⟨⟨false, by first | rfl | simp, fun h => by cases h⟩, HB.out⟩
          · have hnn : ∀ s t, FloatKind.f64.decode nu ≠ .nan s t := fun s t h => hnan ⟨s, t, h⟩
            have HNN := Aside0.mk hnn
            clear hnan hnn
            cases q1 : (FloatKind.f64.format.order nu (truncB nu) == some Ordering.eq) with
            | false =>
              go_wp2
              repeat (go_quiet (first | (go_at_call 15; refine Calls.quiet_of_same (trunc_num nu _ HNN.out)) | (go_at_call 16; refine Calls.quiet_of_same (abs_walk nu _)) | (go_at_call 17; refine Calls.quiet_of_same (sb_num nu _))); try go_wp2)
              go_ret
              exact ⟨⟨false, rfl, fun h => by cases h⟩, by repeat (first | (with_reducible first | exact HB.out | apply below_alloc | apply pw_below_drewN | apply below_drew1) | exact HB.out)⟩
            | true =>
              have HQ1 := Aside0.mk q1
              cases q2 : (FloatKind.f64.format.order (absB nu) 4845873199050653696 == some Ordering.lt) with
              | false =>
                go_wp2
                repeat (go_quiet (first | (go_at_call 15; refine Calls.quiet_of_same (trunc_num nu _ HNN.out)) | (go_at_call 16; refine Calls.quiet_of_same (abs_walk nu _)) | (go_at_call 17; refine Calls.quiet_of_same (sb_num nu _))); try go_wp2)
                go_ret
                exact ⟨⟨false, rfl, fun h => by cases h⟩, by repeat (first | (with_reducible first | exact HB.out | apply below_alloc | apply pw_below_drewN | apply below_drew1) | exact HB.out)⟩
              | true =>
                have HQ2 := Aside0.mk q2
                cases q3 : (FloatKind.f64.format.order nu 0 == some Ordering.eq)
                all_goals
                  go_wp2
                  repeat (go_quiet (first | (go_at_call 15; refine Calls.quiet_of_same (trunc_num nu _ HNN.out)) | (go_at_call 16; refine Calls.quiet_of_same (abs_walk nu _)) | (go_at_call 17; refine Calls.quiet_of_same (sb_num nu _))); try go_wp2)
                  go_ret
                  exact ⟨⟨_, rfl, fun _ => ⟨HSE.out.1, (fun _ => rfl), (fun _ => ⟨rfl, HQ1.out, HQ2.out⟩), (fun h => by omega)⟩⟩, by repeat (first | (with_reducible first | exact HB.out | apply below_alloc | apply pw_below_drewN | apply below_drew1) | exact HB.out)⟩
        · have e1 : ((n : Int) == 1) = false := beq_eq_false_iff_ne.mpr (by omega)
          clear hn1
          go_wp2
          repeat (go_quiet (fail); try go_wp2)
          go_ret
          exact ⟨⟨false, rfl, fun h => by cases h⟩, by repeat (first | (with_reducible first | exact HB.out | apply below_alloc | apply pw_below_drewN | apply below_drew1) | exact HB.out)⟩
      have k4 : (kd == 4) = false := beq_eq_false_iff_ne.mpr h4
      have H4 := Aside0.mk h4
      clear h4
      by_cases h5 : kd = 5
      · subst h5
        by_cases hn1 : n = 1
        · subst hn1
          cases q1 : (FloatKind.f64.format.order nu nu != some Ordering.eq) with
          | true =>
            go_wp2_with (first | (go_at_call 18; refine (nan_walk nu _).mono ?_; rintro e w' ⟨rfl, rfl⟩) | (go_at_call 19; refine (inf_walk nu _).mono ?_; rintro e w' ⟨⟨b, rfl⟩, rfl⟩))
            go_ret
            exact ⟨⟨false, rfl, fun h => by cases h⟩, by repeat (first | (with_reducible first | exact HB.out | apply below_alloc | apply pw_below_drewN | apply below_drew1) | exact HB.out)⟩
          | false =>
            have HQ1 := Aside0.mk (show eqF nu nu = true by simpa [eqF, bne] using q1)
            go_wp2_with (first | (go_at_call 18; refine (nan_walk nu _).mono ?_; rintro e w' ⟨rfl, rfl⟩) | (go_at_call 19; refine (inf_walk nu _).mono ?_; rintro e w' ⟨⟨b, rfl⟩, rfl⟩))
            go_ret
            exact ⟨⟨_, rfl, fun _ => ⟨HSE.out.1, (fun _ => rfl), (fun h => by omega), (fun _ => ⟨rfl, HQ1.out⟩)⟩⟩, by repeat (first | (with_reducible first | exact HB.out | apply below_alloc | apply pw_below_drewN | apply below_drew1) | exact HB.out)⟩
        · have e1 : ((n : Int) == 1) = false := beq_eq_false_iff_ne.mpr (by omega)
          clear hn1
          go_wp2
          go_ret
          exact ⟨⟨false, rfl, fun h => by cases h⟩, by repeat (first | (with_reducible first | exact HB.out | apply below_alloc | apply pw_below_drewN | apply below_drew1) | exact HB.out)⟩
      have k5 : (kd == 5) = false := beq_eq_false_iff_ne.mpr h5
      have HG := Aside0.mk (goodx (nu := nu) (fun h => HK.out (.inr (.inl h))) (fun h => HK.out (.inr (.inr h))) H4.out h5 HSE.out.1)
      clear h5
      by_cases h6 : kd = 6
      · subst h6
        have HU : ∀ w', tx.size ≤ 200 → ∃ b : Bool, Calls Tryz.prog 20 #[.string tx] w' fun e w'' => e = .returned (.bool b) ∧ Drawn0 w' w'' := by
          intro w' ht
          obtain ⟨b, hb⟩ := utf8_some tx (by omega)
          exact ⟨b, spec_UTF8.calls _ tx b w' (hb _ (Nat.le_refl _))⟩
        have HU := Aside0.mk HU
        by_cases ht : tx.size ≤ 200
        · have HT := Aside0.mk ht
          go_wp2_with (first | (go_at_call 20; obtain ⟨b, hb⟩ := HU.out _ HT.out; refine hb.mono ?_; rintro e w' ⟨rfl, ⟨nd, rfl⟩⟩))
          all_goals go_ret
          all_goals exact ⟨⟨_, rfl, fun _ => HG.out⟩, by repeat (first | (with_reducible first | exact HB.out | apply below_alloc | apply pw_below_drewN | apply below_drew1) | exact HB.out)⟩
        · have e2 : decide ((tx.size : Int) ≤ 200) = false := decide_eq_false (by omega)
          clear ht
          go_wp2
          all_goals go_ret
          all_goals exact ⟨⟨_, rfl, fun _ => HG.out⟩, by repeat (first | (with_reducible first | exact HB.out | apply below_alloc | apply pw_below_drewN | apply below_drew1) | exact HB.out)⟩
      have k6 : (kd == 6) = false := beq_eq_false_iff_ne.mpr h6
      clear h6
      by_cases h7 : kd = 7 ∨ kd = 8
      · rcases h7 with h7 | h7
        all_goals
          subst h7
          go_wp2_with (first | (go_at_call 21; refine (H21.out HSE.out.2 _ HB.out).mono ?_; rintro e w' ⟨⟨b, rfl, _⟩, hB⟩; have HB2 := Aside0.mk (below_step HB.out hB); clear hB))
          go_ret
          exact ⟨⟨_, rfl, fun _ => HG.out⟩, HB2.out⟩
      have k7 : (kd == 7) = false := beq_eq_false_iff_ne.mpr (by omega)
      have k8 : (kd == 8) = false := beq_eq_false_iff_ne.mpr (by omega)
      clear h7
      go_wp2
      go_ret
      exact ⟨⟨false, rfl, fun h => by cases h⟩, HB.out⟩
end Go.Proofs.YtbegljkhajagbaaGreatDoor.PFnCoerceFloat
