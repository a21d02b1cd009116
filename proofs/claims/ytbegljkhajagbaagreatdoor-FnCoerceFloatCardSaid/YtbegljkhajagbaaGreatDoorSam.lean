/- FnCoerceFloat: NumberValue, Parts, MadeValue, Sorted and SameValue of one node, walked. Condition: the nodes lie in the world. -/
import Derived.Test.YtbegljkhajagbaaGreatDoorPut
namespace Go.Proofs.YtbegljkhajagbaaGreatDoor.PFnCoerceFloat
open Go.RowKit Go.Proofs.YtbegljkhajagbaaGreatDoorW.PrintWords Go.Proofs.YtbegljkhajagbaaGreatDoorW.PrintLast Go.Proofs.YtbegljkhajagbaaGreatDoorW.PrintMore
set_option linter.unusedVariables false
set_option linter.unusedSimpArgs false
attribute [local go_sem] run_store_float
theorem run_eqIn_float {P : Program} {w : World} (d : Nat) (t : TypeId) (k : FloatKind) (x y : Nat) (h : P.underlying t = some (.float k)) : (Op.equalIn (d + 1) t (.float k x) (.float k y)).run P w = .ok (k.format.order x y == some Ordering.eq) w := by
  simp [Op.equalIn, run_underlying h, Op.floatEq]
theorem eqA33 (d : Nat) (w : World) (x0 y0 : Int) (x1 y1 : Nat) (x2 y2 : ByteArray) (x3 y3 : Int) :
    (Op.equalIn (d + 2) 33 (.agg #[.int .i64 x0, .float .f64 x1, .string x2, .int .i64 x3]) (.agg #[.int .i64 y0, .float .f64 y1, .string y2, .int .i64 y3])).run Tryz.prog w = .ok (x0 == y0 && ((FloatKind.f64.format.order x1 y1 == some Ordering.eq) && (x2.toList == y2.toList && (x3 == y3)))) w := by
  refine eqA_of Tryz.underlying33 (by kernel_rfl) ?_
  refine eqf_cons (by rfl) (by go_simp; rfl) (by go_simp; rfl) (by go_simp) ?_
  refine eqf_cons (by rfl) (by first | (go_simp; done) | (go_simp; rfl)) (by first | (go_simp; done) | (go_simp; rfl)) (run_eqIn_float _ _ _ _ _ Tryz.underlying25) ?_
  refine eqf_cons (by rfl) (by go_simp; rfl) (by go_simp; rfl) (by go_simp) ?_
  exact eqf_last (by rfl) (by go_simp; rfl) (by go_simp; rfl) (by go_simp)
section
variable {P : Program} {ops : Array Oper} {rest : List Oper} {o : Oper} {a : Act} {Q : Exit → Act → World → Prop}
theorem sl_event {W : World} (hgd : o.guard = none) {N : Tmp} (_hd : o.dst = some N) {cs : Array Value} {t : TypeId} {n : Nat}
    (hrun : (execOp a.eval o).run P W = .ok (.value (.slice (some ⟨W.heap.size, 0, none⟩) n n)) (W.alloc (.cells cs t (0, 0))))
    (h : ∀ g, g = W.heap.size → ∀ w1, w1.heap[g]? = some (.cells cs t (0, 0)) → Below W.heap.size W w1 → wpList P ops Q rest (a.put o.dst (.slice (some ⟨g, 0, none⟩) n n)) w1) : wpList P ops Q (o :: rest) a W :=
  Kd.event_run hgd hrun (h _ rfl _ (blk_new W _) (below_alloc (Below.refl _ _) _))
end
/-- What is left of one. -/
def lft2 : Value → Nat
  | .int _ a => 1 - a.toNat
  | _ => 0
theorem one_of {w : World} {g : Nat} {kd : Int} {nu : Nat} {tx : ByteArray} (h : w.heap[g]? = some (.cells #[.int .i64 kd, .float .f64 nu, .string tx, .int .i64 1] 33 (0, 0))) : One w ⟨g, 0, none⟩ kd nu tx :=
  ⟨(blk_cell h 0).trans rfl, (blk_cell h 1).trans rfl, (blk_cell h 2).trans rfl, (blk_cell h 3).trans rfl⟩
set_option maxHeartbeats 4000000 in
set_option maxRecDepth 100000 in
theorem nv_walk (y : Nat) (w : World) : Calls Tryz.prog 9 #[.int .i64 5, .float .f64 y] w fun e w' => (∃ g : Nat, e = .returned (.slice (some ⟨g, 0, none⟩) 1 1) ∧ One w' ⟨g, 0, none⟩ 5 y ⟨#[]⟩) ∧ Below w.heap.size w w' := by
  go_enter Tryz.func9, Tryz.ntmps9
  go_wp2_with (first | ((with_reducible refine gate_dst (N := 8) rfl ?_); refine sl_event ?hg (N := 8) ?hd (cs := #[.int .i64 5, .float .f64 y, .string ⟨#[]⟩, .int .i64 1]) (t := 33) (n := 1) ?hr ?_; (case hd => rfl); (case hg => rfl); (case hr => first | (go_simp; done) | (go_simp; rfl)); intro g hg w2 hbox hb; have HB := Aside0.mk hb; have BK := Aside0.mk hbox; clear hg hbox hb))
  go_ret
  exact ⟨⟨g, rfl, one_of BK.out⟩, HB.out⟩
set_option maxHeartbeats 4000000 in
set_option maxRecDepth 100000 in
theorem parts_walk (ad : Addr) (cap : Nat) (w : World) : Calls Tryz.prog 25 #[.slice (some ad) 1 cap] w fun e w' => e = .returned (.slice none 0 0) ∧ w' = w := by
  go_enter Tryz.func25, Tryz.ntmps25
  go_wp2
  go_loopw [3, 4] (fun v3 v4 wr => v3 = .slice none 0 0 ∧ v4 = .int .i64 1 ∧ w = wr) (fun _ _ _ => 0)
  case atStart => exact ⟨rfl, rfl, rfl⟩
  case round =>
    obtain ⟨rfl, rfl, rfl⟩ := hrel
    go_wp2
    go_ret
    exact ⟨rfl, rfl⟩
set_option maxHeartbeats 4000000 in
set_option maxRecDepth 100000 in
theorem made_walk (kd : Int) (nu : Nat) (tx : ByteArray) (w : World) : Calls Tryz.prog 26 #[.agg #[.int .i64 kd, .float .f64 nu, .string tx, .int .i64 1], .slice none 0 0] w fun e w' => (∃ g : Nat, e = .returned (.slice (some ⟨g, 0, none⟩) 1 1) ∧ One w' ⟨g, 0, none⟩ kd nu tx) ∧ Below w.heap.size w w' := by
  have HB := Aside0.mk (Below.refl w.heap.size w)
  go_enter Tryz.func26, Tryz.ntmps26
  go_wp2_with (first
    | ((with_reducible refine gate_dst (N := 2) rfl ?_); refine box_event ?hg (N := 2) ?hd (cs := #[.int .i64 kd, .float .f64 nu, .string tx, .int .i64 1]) (t := 33) ?hr ?_; (case hd => rfl); (case hg => rfl); (case hr => first | (go_simp; done) | (go_simp; rfl)); intro gb hg w2 hbox hb; have n0_ := Aside0.mk (below_step HB.out hb); clear HB; have HB := n0_; have hz0 : w2.cell? ⟨gb, 0, none⟩ = some (.int .i64 kd) := (blk_cell hbox 0).trans rfl; have hz1 : w2.cell? ⟨gb, 1, none⟩ = some (.float .f64 nu) := (blk_cell hbox 1).trans rfl; have hz2 : w2.cell? ⟨gb, 2, none⟩ = some (.string tx) := (blk_cell hbox 2).trans rfl; have hz3 : w2.cell? ⟨gb, 3, none⟩ = some (.int .i64 1) := (blk_cell hbox 3).trans rfl; clear n0_ hb hbox hg)
    | ((with_reducible refine gate_dst (N := 8) rfl ?_); refine sl_event ?hg (N := 8) ?hd (cs := #[.int .i64 kd, .float .f64 nu, .string tx, .int .i64 1]) (t := 33) (n := 1) ?hr ?_; (case hd => rfl); (case hg => rfl); (case hr => first | (go_simp; done) | (go_simp; rfl)); intro g hg w3 hbox hb; have GE := Aside0.mk ((by rw [hg]; exact below_size HB.out : w.heap.size ≤ g)); have n0_ := Aside0.mk (below_step HB.out hb); clear HB; have HB := n0_; have BK := Aside0.mk hbox; clear n0_ hg hbox hb hz0 hz1 hz2 hz3; have hy0 : w3.cell? ⟨g, 3, none⟩ = some (.int .i64 1) := (blk_cell BK.out 3).trans rfl; have hy1 := blk_frozen BK.out 3))
  go_loopw [5, 6] (fun v5 v6 wr => v5 = .slice (some ⟨g, 0, none⟩) 1 1 ∧ v6 = .int .i64 0 ∧ w3 = wr) (fun _ _ _ => 0)
  case atStart => exact ⟨rfl, rfl, rfl⟩
  case round =>
    obtain ⟨rfl, rfl, rfl⟩ := hrel
    go_wp2
    go_ret
    exact ⟨⟨g, rfl, one_of (by refine blk_put (cs := #[.int .i64 kd, .float .f64 nu, .string tx, .int .i64 1]) ?_ 3 _ rfl; exact BK.out)⟩, below_set HB.out GE.out⟩
set_option maxHeartbeats 4000000 in
set_option maxRecDepth 100000 in
theorem sorted_walk {w : World} {ad : Addr} {kd : Int} {nu : Nat} {tx : ByteArray} (cap : Nat) (h : One w ad kd nu tx) : Calls Tryz.prog 14 #[.slice (some ad) 1 cap] w fun e w' => (∃ g : Nat, e = .returned (.slice (some ⟨g, 0, none⟩) 1 1) ∧ One w' ⟨g, 0, none⟩ kd nu tx) ∧ Below w.heap.size w w' := by
  obtain ⟨c0, c1, c2, c3⟩ := h
  go_enter Tryz.func14, Tryz.ntmps14
  go_wp2_with (first | (go_at_call 25; refine (parts_walk _ _ _).mono ?_; rintro e w' ⟨rfl, rfl⟩))
  go_loopw [4] (fun v4 wr => v4 = .int .i64 0 ∧ w' = wr) (fun _ _ => 0)
  case atStart => exact ⟨rfl, rfl⟩
  case round =>
    obtain ⟨rfl, rfl⟩ := hrel
    go_wp2_with (first | (go_at_call 26; refine (made_walk kd nu tx _).mono ?_; rintro e w2 ⟨⟨g, rfl, hO⟩, hB⟩; have HO := Aside0.mk hO; have HB := Aside0.mk hB; clear hO hB))
    go_ret
    exact ⟨⟨g, rfl, HO.out⟩, HB.out⟩
set_option maxHeartbeats 8000000 in
set_option maxRecDepth 100000 in
theorem same_walk {w : World} {g1 g2 c1 c2 : Nat} {y f : Nat} (h1 : One w ⟨g1, 0, none⟩ 5 y ⟨#[]⟩) (h2 : One w ⟨g2, 0, none⟩ 5 f ⟨#[]⟩) (he : eqF y f = true) : Calls Tryz.prog 8 #[.slice (some ⟨g1, 0, none⟩) 1 c1, .slice (some ⟨g2, 0, none⟩) 1 c2] w fun e w' => e = .returned (.bool true) ∧ Below w.heap.size w w' := by
  have H1 := Aside0.mk h1
  have H2 := Aside0.mk h2
  have hq : ∀ w', (binOp .neq 33 (.agg #[.int .i64 5, .float .f64 y, .string ⟨#[]⟩, .int .i64 1]) (.agg #[.int .i64 5, .float .f64 f, .string ⟨#[]⟩, .int .i64 1])).run Tryz.prog w' = .ok (.bool false) w' := by
    intro w'
    have e1 := eqA33 9998 w' 5 5 y f ⟨#[]⟩ ⟨#[]⟩ 1 1
    have e2 : (FloatKind.f64.format.order y f == some Ordering.eq) = true := he
    rw [e2] at e1
    go_simp
    first | done | (simp [Op.equal, Op.maxDepth, e1]; done)
  clear h1 h2 he
  go_enter Tryz.func8, Tryz.ntmps8
  go_wp2_with (first
    | (go_at_call 14; refine (sorted_walk _ H1.out).mono ?_; rintro e w2 ⟨⟨a1, rfl, hO⟩, hB⟩; have HO1 := Aside0.mk hO; have HB1 := Aside0.mk hB; have H3 := Aside0.mk (H2.out.below hB); clear hO hB H1 H2)
    | (go_at_call 14; refine (sorted_walk _ H3.out).mono ?_; rintro e w3 ⟨⟨a2, rfl, hO⟩, hB⟩; have HO2 := Aside0.mk hO; have n0_ := Aside0.mk (below_step HB1.out hB); have n1_ := Aside0.mk (HO1.out.below hB); clear hO hB HB1 HO1 H3; have HB := n0_; have HO1 := n1_; clear n0_ n1_))
  go_loopw [7] (fun v7 wr => (v7 = .int .i64 0 ∨ v7 = .int .i64 1) ∧ Aside0 (One wr ⟨a1, 0, none⟩ 5 y ⟨#[]⟩) ∧ Aside0 (One wr ⟨a2, 0, none⟩ 5 f ⟨#[]⟩) ∧ Aside0 (Below w.heap.size w wr)) (fun v7 _ => lft2 v7)
  case atStart => exact ⟨.inl rfl, HO1, HO2, HB⟩
  case round =>
    obtain ⟨h7, HO1, HO2, HB⟩ := hrel
    rcases h7 with rfl | rfl
    · obtain ⟨d0, d1, d2, d3⟩ := HO1.out
      obtain ⟨f0, f1, f2, f3⟩ := HO2.out
      go_wp2
      repeat (go_quiet (fail); try go_wp2)
      go_roundw
      case rel => exact ⟨.inr (by first | rfl | simp), ⟨HO1.out.below (pw_below_drewN (Below.refl _ _) _)⟩, ⟨HO2.out.below (pw_below_drewN (Below.refl _ _) _)⟩, ⟨pw_below_drewN HB.out _⟩⟩
      case measure => first | decide | (simp [lft2]; done)
    · go_wp2
      go_ret
      exact ⟨rfl, HB.out⟩
end Go.Proofs.YtbegljkhajagbaaGreatDoor.PFnCoerceFloat
