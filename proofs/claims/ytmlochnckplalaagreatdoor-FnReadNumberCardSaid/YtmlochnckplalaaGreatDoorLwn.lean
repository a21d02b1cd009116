/- FnReadNumber: the law itself, walked in the program: it answers true. Condition: Go's tables of UTF-8 lie in the world. -/
import Derived.Test.YtmlochnckplalaaGreatDoorDrs
namespace Go.Proofs.YtmlochnckplalaaGreatDoor.PFnReadNumber
open Go.RowKit Go.Proofs.YtmlochnckplalaaGreatDoorW.PrintWords Go.Proofs.YtmlochnckplalaaGreatDoorW.PrintLast Go.Proofs.YtmlochnckplalaaGreatDoorW.PrintMore
set_option linter.unusedVariables false
set_option linter.unusedSimpArgs false
theorem short_some (s : ByteArray) : ∃ b k, laws_short9.f k s = some b ∧ (b = true → s.size ≤ 2000) := by
  unfold laws_short9.f
  by_cases h : s.size ≤ 2000
  · obtain ⟨b, hb⟩ := utf8_some s (by omega)
    exact ⟨b, s.size + 21, by rw [if_pos (by omega), hb _ (Nat.le_refl _)]; rfl, fun _ => h⟩
  · exact ⟨false, 0, by rw [if_neg (by omega)], fun h => by cases h⟩
set_option maxHeartbeats 8000000 in
set_option maxRecDepth 100000 in
theorem law_walk (s : ByteArray) (w : World) (hT : Glob w) (hs : s.size ≤ 140737488351232) :
    Calls Tryz.prog 3 #[.string s] w fun e w' => e = .returned (.bool true) ∧ Below w.heap.size w w' := by
  by_cases hbig : s.size > 2147483647
  · clear hT
    go_enter Tryz.func3, Tryz.ntmps3
    go_wp2
    go_ret
    exact ⟨rfl, Below.refl _ _⟩
  obtain ⟨b, k, hf, hb⟩ := short_some s
  have c4 := laws_short9.calls k s b w hf
  cases b with
  | false =>
    clear hT hf hb
    go_enter Tryz.func3, Tryz.ntmps3
    go_wp2_with (first | (go_at_call 4; refine c4.mono ?_; rintro e w' ⟨rfl, ⟨nd, rfl⟩⟩))
    go_ret
    exact ⟨rfl, pw_below_drewN (Below.refl _ _) _⟩
  | true =>
    have HS := Aside0.mk (hb rfl)
    have HT := Aside0.mk hT
    clear hT hf hb
    by_cases hz : s.size = 0
    · obtain rfl : s = ⟨#[]⟩ := by
        apply ByteArray.ext
        exact Array.eq_empty_of_size_eq_zero hz
      clear hz hbig hs
      go_enter Tryz.func3, Tryz.ntmps3
      go_wp2_with (first | (go_at_call 4; refine c4.mono ?_; rintro e w' ⟨rfl, ⟨nd, rfl⟩⟩))
      go_ret
      exact ⟨rfl, pw_below_drewN (Below.refl _ _) _⟩
    have hne : (s.toList == ([] : List UInt8)) = false := by
      rw [beq_eq_false_iff_ne]
      intro e
      apply hz
      have := congrArg List.length e
      rw [ByteArray.toList_eq] at this
      simpa using this
    have hx7 : ∀ h : 0 < s.size, ((s[0]'h).toNat : Int) = bt s 0 := fun h => by unfold bt; rw [dif_pos (show (0 : Int).toNat < s.size by simpa using h)]; rfl
    have hlt : 0 < s.size := by omega
    have hpos : decide ((0 : Int) < (s.size : Int)) = true := decide_eq_true (by omega)
    have p7 : ((0 : Int) < (s.size : Int)) = True := eq_true (by omega)
    have HLT := Aside0.mk hlt
    by_cases hc : bt s 0 = 45 ∨ (48 ≤ bt s 0 ∧ bt s 0 ≤ 57)
    · have HC := Aside0.mk hc
      have e0 : (bt s 0 != 45) = false ∨ ((bt s 0 != 45) = true ∧ decide (bt s 0 < 48) = false ∧ decide (57 < bt s 0) = false) := by
        rcases hc with h | h
        · exact .inl (by rw [h]; rfl)
        · exact .inr ⟨by rw [bne_iff_ne]; omega, decide_eq_false (by omega), decide_eq_false (by omega)⟩
      clear hc
      cases hn : num s with
      | none =>
        have c5 : ∀ w', Calls Tryz.prog 5 #[.string s] w' fun e w2 => e = .returned (.tuple #[.agg #[.int .i64 0, .string ⟨#[]⟩, .int .i64 0, .int .i64 0], .bool false, .bool true]) ∧ Below w'.heap.size w' w2 := fun w' => (specRN_walk s w' HS.out).mono fun e w2 ⟨h, hB⟩ => ⟨(by rcases h with ⟨_, h⟩ | ⟨k, t, h, _⟩ <;> first | exact h | (rw [hn] at h; cases h)), hB⟩
        have c6 : ∀ w', Glob w' → Calls Tryz.prog 6 #[.string s] w' fun e w2 => e = .returned (.tuple #[.agg #[.int .i64 0, .string ⟨#[]⟩, .int .i64 0, .int .i64 0], .bool false]) ∧ Below w'.heap.size w' w2 := fun w' hG => (implRN_walk s w' hG HS.out).mono fun e w2 ⟨h, hB⟩ => ⟨(by rcases h with ⟨_, h⟩ | ⟨k, t, h, _⟩ <;> first | exact h | (rw [hn] at h; cases h)), hB⟩
        have HC5 := Aside0.mk c5
        have HC6 := Aside0.mk c6
        clear c5 c6 hn
        rcases e0 with e0 | ⟨e0, e1, e2⟩
        all_goals
          go_enter Tryz.func3, Tryz.ntmps3
          go_wp2_with (first | (go_at_call 4; refine c4.mono ?_; rintro e w' ⟨rfl, ⟨nd, rfl⟩⟩; have HB := Aside0.mk (pw_below_drewN (Below.refl w.heap.size w) nd)) | (go_at_call 5; refine (HC5.out _).mono ?_; rintro e w2 ⟨rfl, hB⟩; have HB0 := Aside0.mk hB; have n0_ := Aside0.mk (below_step HB.out hB); clear HB; have HB := n0_; clear n0_ hB) | ((with_reducible refine gate_dst (N := 3) rfl ?_); refine box_event ?hg (N := 3) ?hd (cs := #[.int .i64 0, .string ⟨#[]⟩, .int .i64 0, .int .i64 0]) (t := 24) ?hr ?_; (case hd => rfl); (case hg => rfl); (case hr => first | (go_simp; done) | (go_simp; rfl)); intro g3 hg w3 hbox hb; have n0_ := Aside0.mk (below_step HB.out hb); clear HB; have HB := n0_; have B3 := Aside0.mk hbox; have G3 := Aside0.mk ((by rw [hg]; exact (below_size (below_step (pw_below_drewN (Below.refl w.heap.size w) nd) HB0.out)) : w.heap.size ≤ g3)); clear n0_ hb hbox hg; have haz0 : w3.cell? ⟨g3, 0, none⟩ = some (.int .i64 0) := (blk_cell B3.out 0).trans rfl; have haz1 : w3.cell? ⟨g3, 1, none⟩ = some (.string ⟨#[]⟩) := (blk_cell B3.out 1).trans rfl; have haz2 : w3.cell? ⟨g3, 2, none⟩ = some (.int .i64 0) := (blk_cell B3.out 2).trans rfl; have haz3 : w3.cell? ⟨g3, 3, none⟩ = some (.int .i64 0) := (blk_cell B3.out 3).trans rfl; have haf0 := blk_frozen B3.out 0; have haf1 := blk_frozen B3.out 1; have haf2 := blk_frozen B3.out 2; have haf3 := blk_frozen B3.out 3) | (go_at_call 6; refine (HC6.out _ (Glob.below HT.out (below_set (below_set (below_set (below_set HB.out G3.out) G3.out) G3.out) G3.out))).mono ?_; rintro e w4 ⟨rfl, hB⟩; have n0_ := Aside0.mk (below_step (below_set (below_set (below_set (below_set HB.out G3.out) G3.out) G3.out) G3.out) hB); have n1_ := Aside0.mk (blk_below (o := .cells #[.int .i64 0, .string ⟨#[]⟩, .int .i64 0, .int .i64 0] 24 (0, 0)) (by refine blk_put (cs := #[.int .i64 0, .string ⟨#[]⟩, .int .i64 0, .int .i64 0]) ?_ 3 _ rfl; refine blk_put (cs := #[.int .i64 0, .string ⟨#[]⟩, .int .i64 0, .int .i64 0]) ?_ 2 _ rfl; refine blk_put (cs := #[.int .i64 0, .string ⟨#[]⟩, .int .i64 0, .int .i64 0]) ?_ 1 _ rfl; refine blk_put (cs := #[.int .i64 0, .string ⟨#[]⟩, .int .i64 0, .int .i64 0]) ?_ 0 _ rfl; exact B3.out) hB); clear HB B3; have HB := n0_; have B3 := n1_; clear n0_ n1_ hB) | ((with_reducible refine gate_dst (N := 6) rfl ?_); refine box_event ?hg (N := 6) ?hd (cs := #[.int .i64 0, .string ⟨#[]⟩, .int .i64 0, .int .i64 0]) (t := 24) ?hr ?_; (case hd => rfl); (case hg => rfl); (case hr => first | (go_simp; done) | (go_simp; rfl)); intro g6 hg w5 hbox hb; have n0_ := Aside0.mk (below_step HB.out hb); have NE := Aside0.mk ((by rw [hg]; exact Nat.ne_of_lt (blk_lt B3.out)) : g3 ≠ g6); have n1_ := Aside0.mk (blk_below B3.out hb); have G6 := Aside0.mk ((by rw [hg]; exact below_size HB.out : w.heap.size ≤ g6)); clear HB B3; have HB := n0_; have B3 := n1_; have B6 := Aside0.mk hbox; clear n0_ n1_ hb hbox hg; have hne1 := NE.out; have hne2 : g6 ≠ g3 := fun e => NE.out e.symm; have hbz0 : w5.cell? ⟨g6, 0, none⟩ = some (.int .i64 0) := (blk_cell B6.out 0).trans rfl; have hbz1 : w5.cell? ⟨g6, 1, none⟩ = some (.string ⟨#[]⟩) := (blk_cell B6.out 1).trans rfl; have hbz2 : w5.cell? ⟨g6, 2, none⟩ = some (.int .i64 0) := (blk_cell B6.out 2).trans rfl; have hbz3 : w5.cell? ⟨g6, 3, none⟩ = some (.int .i64 0) := (blk_cell B6.out 3).trans rfl; have hbf0 := blk_frozen B6.out 0; have hbf1 := blk_frozen B6.out 1; have hbf2 := blk_frozen B6.out 2; have hbf3 := blk_frozen B6.out 3; have hcz0 : w5.cell? ⟨g3, 0, none⟩ = some (.int .i64 0) := (blk_cell B3.out 0).trans rfl; have hcz1 : w5.cell? ⟨g3, 1, none⟩ = some (.string ⟨#[]⟩) := (blk_cell B3.out 1).trans rfl; have hcz2 : w5.cell? ⟨g3, 2, none⟩ = some (.int .i64 0) := (blk_cell B3.out 2).trans rfl; have hcz3 : w5.cell? ⟨g3, 3, none⟩ = some (.int .i64 0) := (blk_cell B3.out 3).trans rfl; have hcf0 := blk_frozen B3.out 0; have hcf1 := blk_frozen B3.out 1; have hcf2 := blk_frozen B3.out 2; have hcf3 := blk_frozen B3.out 3) | (go_at_call 7; refine (laws_told9.calls 0 ⟨#[]⟩ 0 0 false 0 ⟨#[]⟩ 0 0 false true _ (by unfold laws_told9.f; simp)).mono ?_; rintro e w6 ⟨rfl, hB⟩; have n0_ := Aside0.mk (below_step (below_set (below_set (below_set (below_set HB.out G6.out) G6.out) G6.out) G6.out) hB); clear HB; have HB := n0_; clear n0_ hB))
          go_ret
          exact ⟨rfl, HB.out⟩
      | some kt =>
        obtain ⟨k, t⟩ := kt
        have c5 : ∀ w', Calls Tryz.prog 5 #[.string s] w' fun e w2 => e = .returned (.tuple #[.agg #[.int .i64 k, .string (s.extract 0 t), .int .i64 0, .int .i64 t], .bool true, .bool true]) ∧ Below w'.heap.size w' w2 := fun w' => (specRN_walk s w' HS.out).mono fun e w2 ⟨h, hB⟩ => ⟨(by rcases h with ⟨h, _⟩ | ⟨k', t', h, _, he⟩ <;> rw [hn] at h <;> first | (cases h; done) | (simp only [Option.some.injEq, Prod.mk.injEq] at h; obtain ⟨rfl, rfl⟩ := h; exact he)), hB⟩
        have c6 : ∀ w', Glob w' → Calls Tryz.prog 6 #[.string s] w' fun e w2 => e = .returned (.tuple #[.agg #[.int .i64 k, .string (s.extract 0 t), .int .i64 0, .int .i64 t], .bool true]) ∧ Below w'.heap.size w' w2 := fun w' hG => (implRN_walk s w' hG HS.out).mono fun e w2 ⟨h, hB⟩ => ⟨(by rcases h with ⟨h, _⟩ | ⟨k', t', h, _, he⟩ <;> rw [hn] at h <;> first | (cases h; done) | (simp only [Option.some.injEq, Prod.mk.injEq] at h; obtain ⟨rfl, rfl⟩ := h; exact he)), hB⟩
        have HC5 := Aside0.mk c5
        have HC6 := Aside0.mk c6
        clear c5 c6 hn
        rcases e0 with e0 | ⟨e0, e1, e2⟩
        all_goals
          go_enter Tryz.func3, Tryz.ntmps3
          go_wp2_with (first | (go_at_call 4; refine c4.mono ?_; rintro e w' ⟨rfl, ⟨nd, rfl⟩⟩; have HB := Aside0.mk (pw_below_drewN (Below.refl w.heap.size w) nd)) | (go_at_call 5; refine (HC5.out _).mono ?_; rintro e w2 ⟨rfl, hB⟩; have HB0 := Aside0.mk hB; have n0_ := Aside0.mk (below_step HB.out hB); clear HB; have HB := n0_; clear n0_ hB) | ((with_reducible refine gate_dst (N := 3) rfl ?_); refine box_event ?hg (N := 3) ?hd (cs := #[.int .i64 0, .string ⟨#[]⟩, .int .i64 0, .int .i64 0]) (t := 24) ?hr ?_; (case hd => rfl); (case hg => rfl); (case hr => first | (go_simp; done) | (go_simp; rfl)); intro g3 hg w3 hbox hb; have n0_ := Aside0.mk (below_step HB.out hb); clear HB; have HB := n0_; have B3 := Aside0.mk hbox; have G3 := Aside0.mk ((by rw [hg]; exact (below_size (below_step (pw_below_drewN (Below.refl w.heap.size w) nd) HB0.out)) : w.heap.size ≤ g3)); clear n0_ hb hbox hg; have haz0 : w3.cell? ⟨g3, 0, none⟩ = some (.int .i64 0) := (blk_cell B3.out 0).trans rfl; have haz1 : w3.cell? ⟨g3, 1, none⟩ = some (.string ⟨#[]⟩) := (blk_cell B3.out 1).trans rfl; have haz2 : w3.cell? ⟨g3, 2, none⟩ = some (.int .i64 0) := (blk_cell B3.out 2).trans rfl; have haz3 : w3.cell? ⟨g3, 3, none⟩ = some (.int .i64 0) := (blk_cell B3.out 3).trans rfl; have haf0 := blk_frozen B3.out 0; have haf1 := blk_frozen B3.out 1; have haf2 := blk_frozen B3.out 2; have haf3 := blk_frozen B3.out 3) | (go_at_call 6; refine (HC6.out _ (Glob.below HT.out (below_set (below_set (below_set (below_set HB.out G3.out) G3.out) G3.out) G3.out))).mono ?_; rintro e w4 ⟨rfl, hB⟩; have n0_ := Aside0.mk (below_step (below_set (below_set (below_set (below_set HB.out G3.out) G3.out) G3.out) G3.out) hB); have n1_ := Aside0.mk (blk_below (o := .cells #[.int .i64 k, .string (s.extract 0 t), .int .i64 0, .int .i64 t] 24 (0, 0)) (by refine blk_put (cs := #[.int .i64 k, .string (s.extract 0 t), .int .i64 0, .int .i64 0]) ?_ 3 _ rfl; refine blk_put (cs := #[.int .i64 k, .string (s.extract 0 t), .int .i64 0, .int .i64 0]) ?_ 2 _ rfl; refine blk_put (cs := #[.int .i64 k, .string ⟨#[]⟩, .int .i64 0, .int .i64 0]) ?_ 1 _ rfl; refine blk_put (cs := #[.int .i64 0, .string ⟨#[]⟩, .int .i64 0, .int .i64 0]) ?_ 0 _ rfl; exact B3.out) hB); clear HB B3; have HB := n0_; have B3 := n1_; clear n0_ n1_ hB) | ((with_reducible refine gate_dst (N := 6) rfl ?_); refine box_event ?hg (N := 6) ?hd (cs := #[.int .i64 0, .string ⟨#[]⟩, .int .i64 0, .int .i64 0]) (t := 24) ?hr ?_; (case hd => rfl); (case hg => rfl); (case hr => first | (go_simp; done) | (go_simp; rfl)); intro g6 hg w5 hbox hb; have n0_ := Aside0.mk (below_step HB.out hb); have NE := Aside0.mk ((by rw [hg]; exact Nat.ne_of_lt (blk_lt B3.out)) : g3 ≠ g6); have n1_ := Aside0.mk (blk_below B3.out hb); have G6 := Aside0.mk ((by rw [hg]; exact below_size HB.out : w.heap.size ≤ g6)); clear HB B3; have HB := n0_; have B3 := n1_; have B6 := Aside0.mk hbox; clear n0_ n1_ hb hbox hg; have hne1 := NE.out; have hne2 : g6 ≠ g3 := fun e => NE.out e.symm; have hbz0 : w5.cell? ⟨g6, 0, none⟩ = some (.int .i64 0) := (blk_cell B6.out 0).trans rfl; have hbz1 : w5.cell? ⟨g6, 1, none⟩ = some (.string ⟨#[]⟩) := (blk_cell B6.out 1).trans rfl; have hbz2 : w5.cell? ⟨g6, 2, none⟩ = some (.int .i64 0) := (blk_cell B6.out 2).trans rfl; have hbz3 : w5.cell? ⟨g6, 3, none⟩ = some (.int .i64 0) := (blk_cell B6.out 3).trans rfl; have hbf0 := blk_frozen B6.out 0; have hbf1 := blk_frozen B6.out 1; have hbf2 := blk_frozen B6.out 2; have hbf3 := blk_frozen B6.out 3; have hcz0 : w5.cell? ⟨g3, 0, none⟩ = some (.int .i64 k) := (blk_cell B3.out 0).trans rfl; have hcz1 : w5.cell? ⟨g3, 1, none⟩ = some (.string (s.extract 0 t)) := (blk_cell B3.out 1).trans rfl; have hcz2 : w5.cell? ⟨g3, 2, none⟩ = some (.int .i64 0) := (blk_cell B3.out 2).trans rfl; have hcz3 : w5.cell? ⟨g3, 3, none⟩ = some (.int .i64 t) := (blk_cell B3.out 3).trans rfl; have hcf0 := blk_frozen B3.out 0; have hcf1 := blk_frozen B3.out 1; have hcf2 := blk_frozen B3.out 2; have hcf3 := blk_frozen B3.out 3) | (go_at_call 7; refine (laws_told9.calls k (s.extract 0 t) 0 (t : Int) true k (s.extract 0 t) 0 (t : Int) true true _ (by unfold laws_told9.f; simp)).mono ?_; rintro e w6 ⟨rfl, hB⟩; have n0_ := Aside0.mk (below_step (below_set (below_set (below_set (below_set HB.out G6.out) G6.out) G6.out) G6.out) hB); clear HB; have HB := n0_; clear n0_ hB))
          go_ret
          exact ⟨rfl, HB.out⟩
    · have e0 : (bt s 0 != 45) = true := by rw [bne_iff_ne]; omega
      have e1 : decide (bt s 0 < 48) = true ∨ (decide (bt s 0 < 48) = false ∧ decide (57 < bt s 0) = true) := by
        by_cases h : bt s 0 < 48
        · exact .inl (decide_eq_true h)
        · exact .inr ⟨decide_eq_false h, decide_eq_true (by omega)⟩
      clear hc
      rcases e1 with e1 | ⟨e1, e2⟩
      all_goals
        go_enter Tryz.func3, Tryz.ntmps3
        go_wp2_with (first | (go_at_call 4; refine c4.mono ?_; rintro e w' ⟨rfl, ⟨nd, rfl⟩⟩))
        go_ret
        exact ⟨rfl, pw_below_drewN (Below.refl _ _) _⟩
end Go.Proofs.YtmlochnckplalaaGreatDoor.PFnReadNumber
