/- FnCoerceFloat: the guards, walked: zzFits4, DataRight, number7. Condition: the value lies in the world. -/
import Derived.Test.YtbegljkhajagbaaGreatDoorPri
namespace Go.Proofs.YtbegljkhajagbaaGreatDoor.PFnCoerceFloat
open Go.RowKit Go.Proofs.YtbegljkhajagbaaGreatDoorW.PrintWords Go.Proofs.YtbegljkhajagbaaGreatDoorW.PrintLast Go.Proofs.YtbegljkhajagbaaGreatDoorW.PrintMore
set_option linter.unusedVariables false
set_option linter.unusedSimpArgs false
attribute [local go_sem] run_store_float
theorem DRP.any {e : Ending} {P : Prop} (h : DRP e P) : DRP e True := let ⟨b, h1, _⟩ := h; ⟨b, h1, fun _ => trivial⟩
theorem dr_all (er : Bool) : ∀ (d : Nat) (dp : Int), dp + 1 ≤ d → dp ≤ 20 → -1 ≤ dp → ∀ (w : World) (ad : Addr) (n cap : Nat) (l : List V), 0 < n → n ≤ cap → n ≤ 300 → Kd.C kV w (some ad) n l →
    Calls Tryz.prog 11 #[.slice (some ad) n cap, .bool er, .int .i64 dp] w fun e w' => DRP e (DGood (l.getD 0 zV).f0 (l.getD 0 zV).f3 (l.getD 0 zV).f1 n) ∧ Below w.heap.size w w' := by
  intro d
  induction d with
  | zero =>
    intro dp h1 h2 h2' w ad n cap l h3 h4 h5 hC
    obtain ⟨c0, c1, c2, c3⟩ := cells0 hC h3
    exact dr_walk _ _ dp _ _ er c0 c1 c2 c3 h3 (fun h => by omega)
  | succ d ih =>
    intro dp h1 h2 h2' w ad n cap l h3 h4 h5 hC
    obtain ⟨c0, c1, c2, c3⟩ := cells0 hC h3
    refine dr_walk _ _ dp _ _ er c0 c1 c2 c3 h3 (fun h => fun w' hB => ?_)
    refine pr_walk (Kd.C_below hC hB) h3 h4 h5 dp h h2 er (fun w'' ad' m c l' g1 g2 g3 hC' => ?_)
    have e : wrap64 (dp - 1) = dp - 1 := w64 (by omega) (by omega)
    rw [e]
    exact (ih (dp - 1) (by omega) (by omega) (by omega) w'' ad' m c l' g1 g2 g3 hC').mono fun e w3 ⟨h1, h2⟩ => ⟨h1.any, h2⟩
set_option maxHeartbeats 4000000 in
set_option maxRecDepth 100000 in
theorem dataRight_walk {w : World} {A : Option Addr} {n cap : Nat} {l : List V} (hC : Kd.C kV w A n l) (hcap : n ≤ cap) :
    Calls Tryz.prog 5 #[.slice A n cap, .bool false] w fun e w' => DRP e (0 < n ∧ n ≤ 300 ∧ DGood (l.getD 0 zV).f0 (l.getD 0 zV).f3 (l.getD 0 zV).f1 n) ∧ Below w.heap.size w w' := by
  by_cases h0 : n = 0
  · subst h0
    go_enter Tryz.func5, Tryz.ntmps5
    go_wp2
    go_ret
    exact ⟨⟨false, rfl, fun h => by cases h⟩, Below.refl _ _⟩
  have h00 : 0 < n := by omega
  by_cases h3 : n ≤ 300
  · obtain ⟨ad, rfl⟩ : ∃ ad, A = some ad := by
      obtain ⟨ad, c, e, _⟩ := Kd.C_get hC zV 0 (by omega) (by omega)
      exact ⟨ad, e⟩
    have c11 := dr_all false 21 20 (by omega) (by omega) (by omega) w ad n cap l (by omega) hcap h3 hC
    have HN := Aside0.mk (show 0 < n ∧ n ≤ 300 by omega)
    clear hC hcap h0
    go_enter Tryz.func5, Tryz.ntmps5
    go_wp2_with (first | (go_at_call 11; refine c11.mono ?_; rintro e w' ⟨⟨b, rfl, hg⟩, hB⟩; have HG := Aside0.mk hg; have HB := Aside0.mk hB; clear hg hB))
    go_ret
    exact ⟨⟨b, rfl, fun h => ⟨HN.out.1, HN.out.2, HG.out h⟩⟩, HB.out⟩
  · have e2 : decide ((n : Int) ≤ 300) = false := decide_eq_false (by omega)
    clear hC hcap h0 h3
    go_enter Tryz.func5, Tryz.ntmps5
    go_wp2
    go_ret
    exact ⟨⟨false, rfl, fun h => by cases h⟩, Below.refl _ _⟩
set_option maxHeartbeats 4000000 in
set_option maxRecDepth 100000 in
theorem fits5_walk (kd sz : Int) (nu : Nat) (tx : ByteArray) (w : World) :
    Calls Tryz.prog 10 #[.agg #[.int .i64 kd, .float .f64 nu, .string tx, .int .i64 sz]] w fun e w' => DRP e True ∧ Below w.heap.size w w' := by
  have HB := Aside0.mk (Below.refl w.heap.size w)
  go_enter Tryz.func10, Tryz.ntmps10
  go_wp2_with (first | ((with_reducible refine gate_dst (N := 1) rfl ?_); refine box_event ?hg (N := 1) ?hd (cs := #[.int .i64 kd, .float .f64 nu, .string tx, .int .i64 sz]) (t := 33) ?hr ?_; (case hd => rfl); (case hg => rfl); (case hr => first | (go_simp; done) | (go_simp; rfl)); intro gb hg w2 hbox hb; have n0_ := Aside0.mk (below_step HB.out hb); clear HB; have HB := n0_; have hz2 : w2.cell? ⟨gb, 2, none⟩ = some (.string tx) := (blk_cell hbox 2).trans rfl; clear n0_ hb hbox hg))
  all_goals go_ret
  all_goals exact ⟨⟨_, rfl, fun _ => trivial⟩, HB.out⟩
set_option maxHeartbeats 8000000 in
set_option maxRecDepth 100000 in
theorem fits4_walk {w : World} {A : Option Addr} {n cap : Nat} {l : List V} (hC : Kd.C kV w A n l) :
    Calls Tryz.prog 4 #[.slice A n cap] w fun e w' => DRP e True ∧ Below w.heap.size w w' := by
  have HC := Aside0.mk hC
  by_cases hbig : n > 2147483647
  · have e1 : decide ((n : Int) > 2147483647) = true := decide_eq_true (by omega)
    have e2 : decide ((2147483647 : Int) < (n : Int)) = true := decide_eq_true (by omega)
    clear hC hbig
    go_enter Tryz.func4, Tryz.ntmps4
    go_wp2
    go_ret
    exact ⟨⟨_, rfl, fun _ => trivial⟩, Below.refl _ _⟩
  have e2 : decide ((2147483647 : Int) < (n : Int)) = false := decide_eq_false (by omega)
  have HN := Aside0.mk hbig
  clear hC hbig
  go_enter Tryz.func4, Tryz.ntmps4
  go_wp2
  go_loopw [10] (fun v10 wr => ∃ k : Nat, v10 = .int .i64 k ∧ Aside0 (Below w.heap.size w wr)) (fun v10 _ => lftn n v10)
  case atStart => exact ⟨0, rfl, ⟨Below.refl _ _⟩⟩
  case round =>
    obtain ⟨k, rfl, HB⟩ := hrel
    by_cases hlt : k < n
    · obtain ⟨ad, rfl⟩ : ∃ ad, A = some ad := by
        obtain ⟨ad, c, e, _⟩ := Kd.C_get HC.out zV 0 (by omega) (by omega)
        exact ⟨ad, e⟩
      obtain ⟨ks0, ks1, ks2, ks3⟩ := cellsI (Kd.C_below HC.out HB.out) k hlt
      generalize (l.getD k zV).f0 = kd at ks0
      generalize (l.getD k zV).f1 = nu at ks1
      generalize (l.getD k zV).f2 = tx at ks2
      generalize (l.getD k zV).f3 = sz at ks3
      have HLT := Aside0.mk hlt
      go_wp2_with (first
        | ((with_reducible refine gate_dst (N := 4) rfl ?_); refine box_event ?hg (N := 4) ?hd (cs := #[.int .i64 0, .float .f64 0, .string ⟨#[]⟩, .int .i64 0]) (t := 33) ?hr ?_; (case hd => rfl); (case hg => rfl); (case hr => first | (go_simp; done) | (go_simp; rfl)); intro gb hg w2 hbox hb; have n0_ := Aside0.mk (below_step HB.out hb); have GE := Aside0.mk ((by rw [hg]; exact below_size HB.out : w.heap.size ≤ gb)); clear HB; have HB := n0_; have BK := Aside0.mk hbox; have hz0 : w2.cell? ⟨gb, 0, none⟩ = some (.int .i64 0) := (blk_cell BK.out 0).trans rfl; have hz1 : w2.cell? ⟨gb, 1, none⟩ = some (.float .f64 0) := (blk_cell BK.out 1).trans rfl; have hz2 : w2.cell? ⟨gb, 2, none⟩ = some (.string ⟨#[]⟩) := (blk_cell BK.out 2).trans rfl; have hz3 : w2.cell? ⟨gb, 3, none⟩ = some (.int .i64 0) := (blk_cell BK.out 3).trans rfl; have hf0 := blk_frozen BK.out 0; have hf1 := blk_frozen BK.out 1; have hf2 := blk_frozen BK.out 2; have hf3 := blk_frozen BK.out 3; clear n0_ hb hbox hg)
        | (go_at_call 10; refine (fits5_walk kd sz nu tx _).mono ?_; rintro e w3 ⟨⟨b, rfl, _⟩, hB⟩; have n0_ := Aside0.mk (below_step (below_set (below_set (below_set (below_set HB.out GE.out) GE.out) GE.out) GE.out) hB); clear HB hB; have HB := n0_; clear n0_; cases b))
      · go_ret
        exact ⟨⟨_, rfl, fun _ => trivial⟩, HB.out⟩
      · go_roundw
        case rel => exact ⟨k + 1, by have := HN.out; have := HLT.out; first | rfl | (simp [wrap64]; omega), HB⟩
        case measure => have := HN.out; have := HLT.out; simp only [lftn_int, wrap64]; omega
    · go_wp2
      go_ret
      exact ⟨⟨_, rfl, fun _ => trivial⟩, HB.out⟩
/-- What number7 hands back. -/
def n7 (x : V) : Nat × Bool := if x.f0 = 4 ∨ x.f0 = 5 then (x.f1, true) else if x.f0 = 2 then (4607182418800017408, true) else if x.f0 = 3 then (0, true) else (0, false)
set_option maxHeartbeats 4000000 in
set_option maxRecDepth 100000 in
theorem number7_walk {w : World} {A : Option Addr} {cap : Nat} {x : V} {xs : List V} (h : Kd.C kV w A (x :: xs).length (x :: xs)) :
    Calls Tryz.prog 6 #[.slice A (x :: xs).length cap] w fun e w' => e = .returned (.tuple #[.float .f64 (n7 x).1, .bool (n7 x).2]) ∧ w' = w := by
  obtain ⟨ad, rfl, c0, c1, c2, c3⟩ := at0 h
  have hlen : 0 < (x :: xs).length := by simp
  generalize (x :: xs).length = n at hlen
  have p1 : ((0 : Int) < (n : Int)) = True := eq_true (by omega)
  clear h
  unfold n7
  by_cases h4 : x.f0 = 4
  · rw [if_pos (.inl h4)]
    rw [h4] at c0
    go_enter Tryz.func6, Tryz.ntmps6
    go_wp2
    go_ret2
    exact ⟨rfl, rfl⟩
  by_cases h5 : x.f0 = 5
  · rw [if_pos (.inr h5)]
    rw [h5] at c0
    go_enter Tryz.func6, Tryz.ntmps6
    go_wp2
    go_ret2
    exact ⟨rfl, rfl⟩
  rw [if_neg (by omega)]
  by_cases h2 : x.f0 = 2
  · rw [if_pos h2]
    rw [h2] at c0
    go_enter Tryz.func6, Tryz.ntmps6
    go_wp2
    go_ret2
    exact ⟨rfl, rfl⟩
  rw [if_neg h2]
  by_cases h3 : x.f0 = 3
  · rw [if_pos h3]
    rw [h3] at c0
    go_enter Tryz.func6, Tryz.ntmps6
    go_wp2
    go_ret2
    exact ⟨rfl, rfl⟩
  rw [if_neg h3]
  have e4 : (x.f0 == 4) = false := beq_eq_false_iff_ne.mpr h4
  have e5 : (x.f0 == 5) = false := beq_eq_false_iff_ne.mpr h5
  have e2 : (x.f0 == 2) = false := beq_eq_false_iff_ne.mpr h2
  have e3 : (x.f0 == 3) = false := beq_eq_false_iff_ne.mpr h3
  clear h2 h3 h4 h5
  go_enter Tryz.func6, Tryz.ntmps6
  go_wp2
  go_ret2
  exact ⟨rfl, rfl⟩
end Go.Proofs.YtbegljkhajagbaaGreatDoor.PFnCoerceFloat
