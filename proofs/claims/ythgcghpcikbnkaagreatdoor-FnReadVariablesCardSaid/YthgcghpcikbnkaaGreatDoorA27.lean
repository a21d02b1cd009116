/- A part of the proof of the theorem of this claim: Pv2. No condition of its own. -/
import Derived.Test.YthgcghpcikbnkaaGreatDoorA26
set_option maxHeartbeats 16000000
set_option maxRecDepth 100000
namespace Go.Proofs.YthgcghpcikbnkaaGreatDoor.R
open Go.RowKit Go.Proofs.YthgcghpcikbnkaaGreatDoorW.PrintWords Go.Proofs.YthgcghpcikbnkaaGreatDoorW.PrintLast Go.Proofs.YthgcghpcikbnkaaGreatDoorW.PrintMore
set_option linter.unusedVariables false
set_option linter.unusedSimpArgs false
theorem word_yes {v : ByteArray} {l : List UInt8} (h : v = ⟨l.toArray⟩) : (v.toList = l) = True ∧ (v.toList == l) = true := by
 have e : v.toList = l := by rw [h]; exact ByteArray.toList_mk l
 exact ⟨eq_true e, beq_iff_eq.2 e⟩
theorem word_no {v : ByteArray} {l : List UInt8} (h : v ≠ ⟨l.toArray⟩) : (v.toList = l) = False ∧ (v.toList == l) = false := by
 have e : ¬ v.toList = l := fun e => h (by rw [← e, ByteArray.toList_eq])
 exact ⟨eq_false e, beq_eq_false_iff_ne.2 e⟩
theorem adv_ne (l : List Tk) : adv l ≠ .out := by
 unfold adv
 cases l with
 | nil => exact fun e => by cases e
 | cons t r =>
   dsimp only
   split
   ·exact fun e => by cases e
   ·cases r <;> exact fun e => by cases e
theorem must_ne (k : Int) (l : List Tk) : must k l ≠ .out := by
 unfold must
 split
 ·exact adv_ne l
 ·exact fun e => by cases e
theorem pName_ne (l : List Tk) : pName l ≠ .out := by
 unfold pName
 split
 ·have := adv_ne l
  revert this
  cases adv l <;> simp
 ·exact fun e => by cases e
theorem pVar_ne (l : List Tk) : pVar l ≠ .out := by
 unfold pVar
 have := must_ne 3 l
 revert this
 cases must 3 l with
 | out => exact fun h => absurd rfl h
 | bad => exact fun _ e => by cases e
 | ok r => exact fun _ => pName_ne r
theorem val_18 {C : Cx} {w : World} {t : Tk} {r : List Tk} {c : Bool} (h : PS C w t r) (q0 : (t.k == 10) = false) (q1 : (t.k == 12) = false) (q2 : (t.k == 16) = false) (q3 : (t.k == 17) = false) (q4 : (t.k == 19) = false) (q5 : (t.k == 18) = true) : Calls Tryz.prog 84 #[ptr C.gp, .bool c] w (Got C w (one (nd 14 e0 e0 t.v 0 []) (t :: r)) ValE) := by
 have HP := mkA h
 have OK := mkA h.ok
 have LOW := mkA h.lo
 have HB := mkA (Fr.refl C.gp C.gc w)
 obtain ⟨c1, c5, c6, c7, c8⟩ := h.cells
 have HTK := mkA (show t.k ≠ 1 from by intro e; rw [e] at q5; exact absurd q5 (by decide))
 clear h
 cases r with
 | nil =>
   rw [show one (nd 14 e0 e0 t.v 0 []) [t] = .bad by unfold one; rw [adv_nil HTK.out]; rfl]
   go_enter Tryz.func84, Tryz.ntmps84
   go_upto_region 2 with (first
    | ((with_reducible refine gate_dst (N := 6) rfl ?_); refine box_event ?hg (N := 6) ?hd (cs := #[.int .i64 0, .int .i64 0, .int .i64 0, .string ⟨#[]⟩]) (t := 63) ?hr ?_; (case hd => rfl); (case hg => rfl); (case hr => first | (go_simp; done) | (go_simp; rfl)); intro gt hg w2 hbox hb; obtain ⟨n0_, GT, GT2, n1_, BT, NP, tz0, tz1, tz2, tz3, tf0, tf1, tf2, tf3⟩ := tkb OK.out HB.out HP.out hg hbox hb; clear HB hb hbox hg c1 c5 c6 c7 c8; have HB := n0_; have HP2 := n1_; clear n0_ n1_))
   obtain ⟨w3, hw3, n0_, n1_, n2_, sx0, sx1, sx2, sx3⟩ := tk3 HB.out GT.out BT.out HP2.out GT2.out
   rw [← hw3]
   clear HB BT HP2 hw3 tz0 tz1 tz2 tz3 tf0 tf1 tf2 tf3
   have HB := n0_; have BT := n1_; have HP2 := n2_
   clear n0_ n1_ n2_
   go_wp2_with (first
    | (go_at_call 111; have c_ := strLit_walk HP2.out HTK.out; rw [adv_nil HTK.out] at c_; (with_reducible refine c_.mono ?_); rintro e w4 ⟨hF, hP, v_, te, x, rfl⟩; have HB4 := mkA (HB.out.trans hF); have HP4 := mkA hP; clear hF hP))
   go_ret2
   exact ⟨HB4.out, HP4.out, _, te, x, rfl⟩
 | cons u r =>
   rw [show one (nd 14 e0 e0 t.v 0 []) (t :: u :: r) = .ok (nd 14 e0 e0 t.v 0 [], u :: r) by unfold one; rw [adv_cons HTK.out]; rfl]
   go_enter Tryz.func84, Tryz.ntmps84
   go_upto_region 2 with (first
    | ((with_reducible refine gate_dst (N := 6) rfl ?_); refine box_event ?hg (N := 6) ?hd (cs := #[.int .i64 0, .int .i64 0, .int .i64 0, .string ⟨#[]⟩]) (t := 63) ?hr ?_; (case hd => rfl); (case hg => rfl); (case hr => first | (go_simp; done) | (go_simp; rfl)); intro gt hg w2 hbox hb; obtain ⟨n0_, GT, GT2, n1_, BT, NP, tz0, tz1, tz2, tz3, tf0, tf1, tf2, tf3⟩ := tkb OK.out HB.out HP.out hg hbox hb; clear HB hb hbox hg c1 c5 c6 c7 c8; have HB := n0_; have HP2 := n1_; clear n0_ n1_))
   obtain ⟨w3, hw3, n0_, n1_, n2_, sx0, sx1, sx2, sx3⟩ := tk3 HB.out GT.out BT.out HP2.out GT2.out
   rw [← hw3]
   clear HB BT HP2 hw3 tz0 tz1 tz2 tz3 tf0 tf1 tf2 tf3
   have HB := n0_; have BT := n1_; have HP2 := n2_
   clear n0_ n1_ n2_
   go_wp2_with (first
    | (go_at_call 111; have c_ := strLit_walk HP2.out HTK.out; rw [adv_cons HTK.out] at c_; (with_reducible refine c_.mono ?_); rintro e w4 ⟨hF, v4, u4, r4, hl_, hP, hN, rfl⟩; injection hl_ with e1 e2; subst e1 e2; obtain ⟨g4, k4, l4, rfl, q1, q2⟩ := hN; have HN4 := mkA (And.intro q1 q2); have HB4 := mkA (HB.out.trans hF); have HP4 := mkA hP; clear hF hP q1 q2))
   go_ret2
   have hk : Keeps (from_ w3.heap.size) (from_ w.heap.size) w4 w4 := keeps_weak HB.out.size
   exact ⟨HB4.out, _, u, r, rfl, HP4.out, ⟨1, ValS.str (X := ValA (from_ w.heap.size) _ 0) (HN4.out.1.fr hk) (HN4.out.2.fr hk)⟩, rfl⟩
theorem val_19 {C : Cx} {w : World} {t : Tk} {r : List Tk} {c : Bool} (h : PS C w t r) (q0 : (t.k == 10) = false) (q1 : (t.k == 12) = false) (q2 : (t.k == 16) = false) (q3 : (t.k == 17) = false) (q4 : (t.k == 19) = true) : Calls Tryz.prog 84 #[ptr C.gp, .bool c] w (Got C w (one (nd 14 e0 e0 t.v 0 []) (t :: r)) ValE) := by
 have HP := mkA h
 have OK := mkA h.ok
 have LOW := mkA h.lo
 have HB := mkA (Fr.refl C.gp C.gc w)
 obtain ⟨c1, c5, c6, c7, c8⟩ := h.cells
 have HTK := mkA (show t.k ≠ 1 from by intro e; rw [e] at q4; exact absurd q4 (by decide))
 clear h
 cases r with
 | nil =>
   rw [show one (nd 14 e0 e0 t.v 0 []) [t] = .bad by unfold one; rw [adv_nil HTK.out]; rfl]
   go_enter Tryz.func84, Tryz.ntmps84
   go_upto_region 2 with (first
    | ((with_reducible refine gate_dst (N := 6) rfl ?_); refine box_event ?hg (N := 6) ?hd (cs := #[.int .i64 0, .int .i64 0, .int .i64 0, .string ⟨#[]⟩]) (t := 63) ?hr ?_; (case hd => rfl); (case hg => rfl); (case hr => first | (go_simp; done) | (go_simp; rfl)); intro gt hg w2 hbox hb; obtain ⟨n0_, GT, GT2, n1_, BT, NP, tz0, tz1, tz2, tz3, tf0, tf1, tf2, tf3⟩ := tkb OK.out HB.out HP.out hg hbox hb; clear HB hb hbox hg c1 c5 c6 c7 c8; have HB := n0_; have HP2 := n1_; clear n0_ n1_))
   obtain ⟨w3, hw3, n0_, n1_, n2_, sx0, sx1, sx2, sx3⟩ := tk3 HB.out GT.out BT.out HP2.out GT2.out
   rw [← hw3]
   clear HB BT HP2 hw3 tz0 tz1 tz2 tz3 tf0 tf1 tf2 tf3
   have HB := n0_; have BT := n1_; have HP2 := n2_
   clear n0_ n1_ n2_
   go_wp2_with (first
    | (go_at_call 111; have c_ := strLit_walk HP2.out HTK.out; rw [adv_nil HTK.out] at c_; (with_reducible refine c_.mono ?_); rintro e w4 ⟨hF, hP, v_, te, x, rfl⟩; have HB4 := mkA (HB.out.trans hF); have HP4 := mkA hP; clear hF hP))
   go_ret2
   exact ⟨HB4.out, HP4.out, _, te, x, rfl⟩
 | cons u r =>
   rw [show one (nd 14 e0 e0 t.v 0 []) (t :: u :: r) = .ok (nd 14 e0 e0 t.v 0 [], u :: r) by unfold one; rw [adv_cons HTK.out]; rfl]
   go_enter Tryz.func84, Tryz.ntmps84
   go_upto_region 2 with (first
    | ((with_reducible refine gate_dst (N := 6) rfl ?_); refine box_event ?hg (N := 6) ?hd (cs := #[.int .i64 0, .int .i64 0, .int .i64 0, .string ⟨#[]⟩]) (t := 63) ?hr ?_; (case hd => rfl); (case hg => rfl); (case hr => first | (go_simp; done) | (go_simp; rfl)); intro gt hg w2 hbox hb; obtain ⟨n0_, GT, GT2, n1_, BT, NP, tz0, tz1, tz2, tz3, tf0, tf1, tf2, tf3⟩ := tkb OK.out HB.out HP.out hg hbox hb; clear HB hb hbox hg c1 c5 c6 c7 c8; have HB := n0_; have HP2 := n1_; clear n0_ n1_))
   obtain ⟨w3, hw3, n0_, n1_, n2_, sx0, sx1, sx2, sx3⟩ := tk3 HB.out GT.out BT.out HP2.out GT2.out
   rw [← hw3]
   clear HB BT HP2 hw3 tz0 tz1 tz2 tz3 tf0 tf1 tf2 tf3
   have HB := n0_; have BT := n1_; have HP2 := n2_
   clear n0_ n1_ n2_
   go_wp2_with (first
    | (go_at_call 111; have c_ := strLit_walk HP2.out HTK.out; rw [adv_cons HTK.out] at c_; (with_reducible refine c_.mono ?_); rintro e w4 ⟨hF, v4, u4, r4, hl_, hP, hN, rfl⟩; injection hl_ with e1 e2; subst e1 e2; obtain ⟨g4, k4, l4, rfl, q1, q2⟩ := hN; have HN4 := mkA (And.intro q1 q2); have HB4 := mkA (HB.out.trans hF); have HP4 := mkA hP; clear hF hP q1 q2))
   go_ret2
   have hk : Keeps (from_ w3.heap.size) (from_ w.heap.size) w4 w4 := keeps_weak HB.out.size
   exact ⟨HB4.out, _, u, r, rfl, HP4.out, ⟨1, ValS.str (X := ValA (from_ w.heap.size) _ 0) (HN4.out.1.fr hk) (HN4.out.2.fr hk)⟩, rfl⟩
theorem val_enum {C : Cx} {w : World} {t : Tk} {r : List Tk} {c : Bool} (h : PS C w t r) (q0 : (t.k == 10) = false) (q1 : (t.k == 12) = false) (q2 : (t.k == 16) = false) (q3 : (t.k == 17) = false) (q4 : (t.k == 19) = false) (q5 : (t.k == 18) = false) (q6 : (t.k == 15) = true) (hn1 : t.v ≠ bTrue) (hn2 : t.v ≠ bFalse) (hn3 : t.v ≠ bNull) : Calls Tryz.prog 84 #[ptr C.gp, .bool c] w (Got C w (one (nd 16 t.v e0 e0 0 []) (t :: r)) ValE) := by
 have HP := mkA h
 have OK := mkA h.ok
 have LOW := mkA h.lo
 have HB := mkA (Fr.refl C.gp C.gc w)
 obtain ⟨c1, c5, c6, c7, c8⟩ := h.cells
 have HTK := mkA (show t.k ≠ 1 from by intro e; rw [e] at q6; exact absurd q6 (by decide))
 clear h
 obtain ⟨x1, y1⟩ := word_no (l := [116, 114, 117, 101]) hn1; obtain ⟨x2, y2⟩ := word_no (l := [102, 97, 108, 115, 101]) hn2; obtain ⟨x3, y3⟩ := word_no (l := [110, 117, 108, 108]) hn3; clear hn1 hn2 hn3
 cases r with
 | nil =>
   rw [show one (nd 16 t.v e0 e0 0 []) [t] = .bad by unfold one; rw [adv_nil HTK.out]; rfl]
   go_enter Tryz.func84, Tryz.ntmps84
   go_upto_region 2 with (first
    | ((with_reducible refine gate_dst (N := 6) rfl ?_); refine box_event ?hg (N := 6) ?hd (cs := #[.int .i64 0, .int .i64 0, .int .i64 0, .string ⟨#[]⟩]) (t := 63) ?hr ?_; (case hd => rfl); (case hg => rfl); (case hr => first | (go_simp; done) | (go_simp; rfl)); intro gt hg w2 hbox hb; obtain ⟨n0_, GT, GT2, n1_, BT, NP, tz0, tz1, tz2, tz3, tf0, tf1, tf2, tf3⟩ := tkb OK.out HB.out HP.out hg hbox hb; clear HB hb hbox hg c1 c5 c6 c7 c8; have HB := n0_; have HP2 := n1_; clear n0_ n1_))
   obtain ⟨w3, hw3, n0_, n1_, n2_, sx0, sx1, sx2, sx3⟩ := tk3 HB.out GT.out BT.out HP2.out GT2.out
   rw [← hw3]
   clear HB BT HP2 hw3 tz0 tz1 tz2 tz3 tf0 tf1 tf2 tf3
   have HB := n0_; have BT := n1_; have HP2 := n2_
   clear n0_ n1_ n2_
   have CA := mkA (advance_walk HP2.out HTK.out)
   go_wp2_with (first
    | (go_at_call 100; (with_reducible refine CA.out.mono ?_); rintro e w4 ⟨hF, hP, te, x, rfl⟩; have n0_ := mkA (HB.out.trans hF); clear HB; have HB := n0_; have HQ := mkA hP; clear n0_ hF hP))
   go_ret2
   exact ⟨HB.out, HQ.out, _, te, x, rfl⟩
 | cons u r =>
   rw [show one (nd 16 t.v e0 e0 0 []) (t :: u :: r) = .ok (nd 16 t.v e0 e0 0 [], u :: r) by unfold one; rw [adv_cons HTK.out]; rfl]
   go_enter Tryz.func84, Tryz.ntmps84
   go_upto_region 2 with (first
    | ((with_reducible refine gate_dst (N := 6) rfl ?_); refine box_event ?hg (N := 6) ?hd (cs := #[.int .i64 0, .int .i64 0, .int .i64 0, .string ⟨#[]⟩]) (t := 63) ?hr ?_; (case hd => rfl); (case hg => rfl); (case hr => first | (go_simp; done) | (go_simp; rfl)); intro gt hg w2 hbox hb; obtain ⟨n0_, GT, GT2, n1_, BT, NP, tz0, tz1, tz2, tz3, tf0, tf1, tf2, tf3⟩ := tkb OK.out HB.out HP.out hg hbox hb; clear HB hb hbox hg c1 c5 c6 c7 c8; have HB := n0_; have HP2 := n1_; clear n0_ n1_))
   obtain ⟨w3, hw3, n0_, n1_, n2_, sx0, sx1, sx2, sx3⟩ := tk3 HB.out GT.out BT.out HP2.out GT2.out
   rw [← hw3]
   clear HB BT HP2 hw3 tz0 tz1 tz2 tz3 tf0 tf1 tf2 tf3
   have HB := n0_; have BT := n1_; have HP2 := n2_
   clear n0_ n1_ n2_
   have CA := mkA (advance_walk HP2.out HTK.out)
   go_upto_region 33 with (first
    | (go_at_call 100; (with_reducible refine CA.out.mono ?_); rintro e w4 ⟨hF, hP, rfl⟩; have n0_ := mkA (HB.out.trans hF); clear HB; have HB := n0_; have HQ := mkA hP; have BT4 := mkA (hF.blk BT.out NP.out.1 NP.out.2); clear n0_ hF hP))
   clear sx0 sx1 sx3
   have sx0 : w4.cell? ⟨gt, 3, none⟩ = some (.string t.v) := (blk_cell BT4.out 3).trans rfl
   have sx1 : w4.cell? ⟨gt, 1, none⟩ = some (.int .i64 t.a) := (blk_cell BT4.out 1).trans rfl
   have K0 : ∀ u, Below w4.heap.size w4 u → (u.cell? ⟨gt, 3, none⟩ = some (.string t.v) ∧ u.cell? ⟨gt, 1, none⟩ = some (.int .i64 t.a)) ∧ Below w4.heap.size w4 u := fun u hu => ⟨⟨(hu.cell (World.block_lt_of_cell? _ _ sx0)).trans sx0, (hu.cell (World.block_lt_of_cell? _ _ sx1)).trans sx1⟩, hu⟩
   have cL := mkA (fun (u : World) (hu : Below w4.heap.size w4 u) (a : Int) => (show Calls Tryz.prog 59 #[ptr C.gp, .int .i64 a] u fun e w' => (∃ g' : Nat, e = .returned (ptr g') ∧ LocA (from_ w4.heap.size) w' (ptr g')) ∧ Below w4.heap.size w4 w' from (loc_ps (HQ.out.below hu) a).mono fun e w' q => by obtain ⟨⟨g', q1, q2⟩, q3⟩ := q; exact ⟨⟨g', q1, q2.fr (keeps_weak hu.size)⟩, below_step hu q3⟩))
   have LO := mkA (show w.heap.size ≤ w4.heap.size from HB.out.size)
   go_region_held3 (fun u => (u.cell? ⟨gt, 3, none⟩ = some (.string t.v) ∧ u.cell? ⟨gt, 1, none⟩ = some (.int .i64 t.a)) ∧ Below w4.heap.size w4 u) (first | exact K0 _ (Below.refl _ _) | exact K0 _ (below_drew1 (Below.refl _ _)) | exact K0 _ (below_drew1 (below_alloc (Below.refl _ _) _)) | exact hS9 | exact hS5 | exact hS6 | fail) (first
    | (go_at_call 59; refine (cL.out _ ?_ _).mono ?_; (first | exact below_drew1 (Below.refl _ _) | exact Below.refl _ _); rintro e w5 ⟨⟨gl, rfl, hgl⟩, hW5⟩; have hS5 := K0 _ hW5; have hS6 := K0 _ (below_alloc hW5 (.cells #[.string ⟨#[]⟩, ptr gl, .string t.v] 140)); have cN := (show Calls Tryz.prog 113 #[ptr w5.heap.size] (w5.alloc (.cells #[.string ⟨#[]⟩, ptr gl, .string t.v] 140)) fun e w' => ∃ (g9 : Nat) (k9 : ByteArray), e = .returned (ptr g9) ∧ w.heap.size ≤ g9 ∧ w'.heap[g9]? = some (.cells #[.string k9, ptr gl, .string t.v] 140 (0, 0)) ∧ Below w5.heap.size w5 w' from (newEnum (B := w5.heap.size) (heap_alloc_new w5 _) (Nat.le_refl _) (below_alloc (Below.refl w5.heap.size w5) _).size).mono fun e w' q => by obtain ⟨⟨g9, k9, q1, q2, q3⟩, q4⟩ := q; exact ⟨g9, k9, q1, Nat.le_trans (Nat.le_trans LO.out hW5.size) q2, q3, (below_alloc (Below.refl w5.heap.size w5) _).trans q4⟩))
    | (go_at_call 113; refine cN.mono ?_; rintro e w9 ⟨g9, k9, rfl, h90, h91, hX⟩; have hW9 := below_step hW5 hX; have hS9 := K0 _ hW9)
    | fail)
   go_wp2
   go_ret2
   have KX := keeps_below (ok := from_ w4.heap.size) (ok' := from_ w.heap.size) hX (fun g hg => Nat.le_trans HB.out.size hg)
   exact ⟨HB.out.step hW9, _, _, _, rfl, HQ.out.below hW9, ⟨1, ValS.enm (X := ValA (from_ w.heap.size) _ 0) ⟨h90, h91⟩ (hgl.fr KX)⟩, rfl⟩
theorem val_true {C : Cx} {w : World} {t : Tk} {r : List Tk} {c : Bool} (h : PS C w t r) (q0 : (t.k == 10) = false) (q1 : (t.k == 12) = false) (q2 : (t.k == 16) = false) (q3 : (t.k == 17) = false) (q4 : (t.k == 19) = false) (q5 : (t.k == 18) = false) (q6 : (t.k == 15) = true) (hn1 : t.v = bTrue) (hn2 : t.v ≠ bFalse) (hn3 : t.v ≠ bNull) : Calls Tryz.prog 84 #[ptr C.gp, .bool c] w (Got C w (one (nd 15 e0 e0 e0 1 []) (t :: r)) ValE) := by
 have HP := mkA h
 have OK := mkA h.ok
 have LOW := mkA h.lo
 have HB := mkA (Fr.refl C.gp C.gc w)
 obtain ⟨c1, c5, c6, c7, c8⟩ := h.cells
 have HTK := mkA (show t.k ≠ 1 from by intro e; rw [e] at q6; exact absurd q6 (by decide))
 clear h
 obtain ⟨x1, y1⟩ := word_yes (l := [116, 114, 117, 101]) hn1; obtain ⟨x2, y2⟩ := word_no (l := [102, 97, 108, 115, 101]) hn2; obtain ⟨x3, y3⟩ := word_no (l := [110, 117, 108, 108]) hn3; clear hn1 hn2 hn3
 cases r with
 | nil =>
   rw [show one (nd 15 e0 e0 e0 1 []) [t] = .bad by unfold one; rw [adv_nil HTK.out]; rfl]
   go_enter Tryz.func84, Tryz.ntmps84
   go_upto_region 2 with (first
    | ((with_reducible refine gate_dst (N := 6) rfl ?_); refine box_event ?hg (N := 6) ?hd (cs := #[.int .i64 0, .int .i64 0, .int .i64 0, .string ⟨#[]⟩]) (t := 63) ?hr ?_; (case hd => rfl); (case hg => rfl); (case hr => first | (go_simp; done) | (go_simp; rfl)); intro gt hg w2 hbox hb; obtain ⟨n0_, GT, GT2, n1_, BT, NP, tz0, tz1, tz2, tz3, tf0, tf1, tf2, tf3⟩ := tkb OK.out HB.out HP.out hg hbox hb; clear HB hb hbox hg c1 c5 c6 c7 c8; have HB := n0_; have HP2 := n1_; clear n0_ n1_))
   obtain ⟨w3, hw3, n0_, n1_, n2_, sx0, sx1, sx2, sx3⟩ := tk3 HB.out GT.out BT.out HP2.out GT2.out
   rw [← hw3]
   clear HB BT HP2 hw3 tz0 tz1 tz2 tz3 tf0 tf1 tf2 tf3
   have HB := n0_; have BT := n1_; have HP2 := n2_
   clear n0_ n1_ n2_
   have CA := mkA (advance_walk HP2.out HTK.out)
   go_wp2_with (first
    | (go_at_call 100; (with_reducible refine CA.out.mono ?_); rintro e w4 ⟨hF, hP, te, x, rfl⟩; have n0_ := mkA (HB.out.trans hF); clear HB; have HB := n0_; have HQ := mkA hP; clear n0_ hF hP))
   go_ret2
   exact ⟨HB.out, HQ.out, _, te, x, rfl⟩
 | cons u r =>
   rw [show one (nd 15 e0 e0 e0 1 []) (t :: u :: r) = .ok (nd 15 e0 e0 e0 1 [], u :: r) by unfold one; rw [adv_cons HTK.out]; rfl]
   go_enter Tryz.func84, Tryz.ntmps84
   go_upto_region 2 with (first
    | ((with_reducible refine gate_dst (N := 6) rfl ?_); refine box_event ?hg (N := 6) ?hd (cs := #[.int .i64 0, .int .i64 0, .int .i64 0, .string ⟨#[]⟩]) (t := 63) ?hr ?_; (case hd => rfl); (case hg => rfl); (case hr => first | (go_simp; done) | (go_simp; rfl)); intro gt hg w2 hbox hb; obtain ⟨n0_, GT, GT2, n1_, BT, NP, tz0, tz1, tz2, tz3, tf0, tf1, tf2, tf3⟩ := tkb OK.out HB.out HP.out hg hbox hb; clear HB hb hbox hg c1 c5 c6 c7 c8; have HB := n0_; have HP2 := n1_; clear n0_ n1_))
   obtain ⟨w3, hw3, n0_, n1_, n2_, sx0, sx1, sx2, sx3⟩ := tk3 HB.out GT.out BT.out HP2.out GT2.out
   rw [← hw3]
   clear HB BT HP2 hw3 tz0 tz1 tz2 tz3 tf0 tf1 tf2 tf3
   have HB := n0_; have BT := n1_; have HP2 := n2_
   clear n0_ n1_ n2_
   have CA := mkA (advance_walk HP2.out HTK.out)
   go_wp2_with (first
    | (go_at_call 100; (with_reducible refine CA.out.mono ?_); rintro e w4 ⟨hF, hP, rfl⟩; have n0_ := mkA (HB.out.trans hF); clear HB; have HB := n0_; have HQ := mkA hP; have BT4 := mkA (hF.blk BT.out NP.out.1 NP.out.2); clear n0_ hF hP; have sy1 : w4.cell? ⟨gt, 1, none⟩ = some (.int .i64 t.a) := (blk_cell BT4.out 1).trans rfl; have sy3 : w4.cell? ⟨gt, 3, none⟩ = some (.string t.v) := (blk_cell BT4.out 3).trans rfl)
    | (go_at_call 59; (with_reducible refine (loc_ps HQ.out _).mono ?_); rintro e wl ⟨⟨gl, rfl, hgl⟩, hBl⟩; have HL := mkA hgl; have HBl := mkA hBl; clear hgl hBl)
    | (go_at_call 112; (with_reducible refine (newBool (B := wl.heap.size) (heap_alloc_new wl _) (Nat.le_refl _) (below_alloc (Below.refl wl.heap.size wl) _).size).mono ?_); rintro e w9 ⟨⟨g9, k9, rfl, q1, h91⟩, q4⟩; have HX := mkA ((below_alloc (Below.refl wl.heap.size wl) _).trans q4); have HW := mkA (below_step HBl.out HX.out); have H90 := mkA (Nat.le_trans (Nat.le_trans HB.out.size HBl.out.size) q1); have H91 := mkA h91; clear q1 q4 h91))
   go_ret2
   have KX := keeps_below (ok := from_ w4.heap.size) (ok' := from_ w.heap.size) HX.out (fun g hg => Nat.le_trans HB.out.size hg)
   exact ⟨HB.out.step HW.out, _, u, r, rfl, HQ.out.below HW.out, ⟨1, ValS.boo (b := true) (X := ValA (from_ w.heap.size) _ 0) ⟨H90.out, H91.out⟩ (HL.out.fr KX)⟩, rfl⟩
theorem val_false {C : Cx} {w : World} {t : Tk} {r : List Tk} {c : Bool} (h : PS C w t r) (q0 : (t.k == 10) = false) (q1 : (t.k == 12) = false) (q2 : (t.k == 16) = false) (q3 : (t.k == 17) = false) (q4 : (t.k == 19) = false) (q5 : (t.k == 18) = false) (q6 : (t.k == 15) = true) (hn1 : t.v ≠ bTrue) (hn2 : t.v = bFalse) (hn3 : t.v ≠ bNull) : Calls Tryz.prog 84 #[ptr C.gp, .bool c] w (Got C w (one (nd 15 e0 e0 e0 0 []) (t :: r)) ValE) := by
 have HP := mkA h
 have OK := mkA h.ok
 have LOW := mkA h.lo
 have HB := mkA (Fr.refl C.gp C.gc w)
 obtain ⟨c1, c5, c6, c7, c8⟩ := h.cells
 have HTK := mkA (show t.k ≠ 1 from by intro e; rw [e] at q6; exact absurd q6 (by decide))
 clear h
 obtain ⟨x1, y1⟩ := word_no (l := [116, 114, 117, 101]) hn1; obtain ⟨x2, y2⟩ := word_yes (l := [102, 97, 108, 115, 101]) hn2; obtain ⟨x3, y3⟩ := word_no (l := [110, 117, 108, 108]) hn3; clear hn1 hn2 hn3
 cases r with
 | nil =>
   rw [show one (nd 15 e0 e0 e0 0 []) [t] = .bad by unfold one; rw [adv_nil HTK.out]; rfl]
   go_enter Tryz.func84, Tryz.ntmps84
   go_upto_region 2 with (first
    | ((with_reducible refine gate_dst (N := 6) rfl ?_); refine box_event ?hg (N := 6) ?hd (cs := #[.int .i64 0, .int .i64 0, .int .i64 0, .string ⟨#[]⟩]) (t := 63) ?hr ?_; (case hd => rfl); (case hg => rfl); (case hr => first | (go_simp; done) | (go_simp; rfl)); intro gt hg w2 hbox hb; obtain ⟨n0_, GT, GT2, n1_, BT, NP, tz0, tz1, tz2, tz3, tf0, tf1, tf2, tf3⟩ := tkb OK.out HB.out HP.out hg hbox hb; clear HB hb hbox hg c1 c5 c6 c7 c8; have HB := n0_; have HP2 := n1_; clear n0_ n1_))
   obtain ⟨w3, hw3, n0_, n1_, n2_, sx0, sx1, sx2, sx3⟩ := tk3 HB.out GT.out BT.out HP2.out GT2.out
   rw [← hw3]
   clear HB BT HP2 hw3 tz0 tz1 tz2 tz3 tf0 tf1 tf2 tf3
   have HB := n0_; have BT := n1_; have HP2 := n2_
   clear n0_ n1_ n2_
   have CA := mkA (advance_walk HP2.out HTK.out)
   go_wp2_with (first
    | (go_at_call 100; (with_reducible refine CA.out.mono ?_); rintro e w4 ⟨hF, hP, te, x, rfl⟩; have n0_ := mkA (HB.out.trans hF); clear HB; have HB := n0_; have HQ := mkA hP; clear n0_ hF hP))
   go_ret2
   exact ⟨HB.out, HQ.out, _, te, x, rfl⟩
 | cons u r =>
   rw [show one (nd 15 e0 e0 e0 0 []) (t :: u :: r) = .ok (nd 15 e0 e0 e0 0 [], u :: r) by unfold one; rw [adv_cons HTK.out]; rfl]
   go_enter Tryz.func84, Tryz.ntmps84
   go_upto_region 2 with (first
    | ((with_reducible refine gate_dst (N := 6) rfl ?_); refine box_event ?hg (N := 6) ?hd (cs := #[.int .i64 0, .int .i64 0, .int .i64 0, .string ⟨#[]⟩]) (t := 63) ?hr ?_; (case hd => rfl); (case hg => rfl); (case hr => first | (go_simp; done) | (go_simp; rfl)); intro gt hg w2 hbox hb; obtain ⟨n0_, GT, GT2, n1_, BT, NP, tz0, tz1, tz2, tz3, tf0, tf1, tf2, tf3⟩ := tkb OK.out HB.out HP.out hg hbox hb; clear HB hb hbox hg c1 c5 c6 c7 c8; have HB := n0_; have HP2 := n1_; clear n0_ n1_))
   obtain ⟨w3, hw3, n0_, n1_, n2_, sx0, sx1, sx2, sx3⟩ := tk3 HB.out GT.out BT.out HP2.out GT2.out
   rw [← hw3]
   clear HB BT HP2 hw3 tz0 tz1 tz2 tz3 tf0 tf1 tf2 tf3
   have HB := n0_; have BT := n1_; have HP2 := n2_
   clear n0_ n1_ n2_
   have CA := mkA (advance_walk HP2.out HTK.out)
   go_wp2_with (first
    | (go_at_call 100; (with_reducible refine CA.out.mono ?_); rintro e w4 ⟨hF, hP, rfl⟩; have n0_ := mkA (HB.out.trans hF); clear HB; have HB := n0_; have HQ := mkA hP; have BT4 := mkA (hF.blk BT.out NP.out.1 NP.out.2); clear n0_ hF hP; have sy1 : w4.cell? ⟨gt, 1, none⟩ = some (.int .i64 t.a) := (blk_cell BT4.out 1).trans rfl; have sy3 : w4.cell? ⟨gt, 3, none⟩ = some (.string t.v) := (blk_cell BT4.out 3).trans rfl)
    | (go_at_call 59; (with_reducible refine (loc_ps HQ.out _).mono ?_); rintro e wl ⟨⟨gl, rfl, hgl⟩, hBl⟩; have HL := mkA hgl; have HBl := mkA hBl; clear hgl hBl)
    | (go_at_call 112; (with_reducible refine (newBool (B := wl.heap.size) (heap_alloc_new wl _) (Nat.le_refl _) (below_alloc (Below.refl wl.heap.size wl) _).size).mono ?_); rintro e w9 ⟨⟨g9, k9, rfl, q1, h91⟩, q4⟩; have HX := mkA ((below_alloc (Below.refl wl.heap.size wl) _).trans q4); have HW := mkA (below_step HBl.out HX.out); have H90 := mkA (Nat.le_trans (Nat.le_trans HB.out.size HBl.out.size) q1); have H91 := mkA h91; clear q1 q4 h91))
   go_ret2
   have KX := keeps_below (ok := from_ w4.heap.size) (ok' := from_ w.heap.size) HX.out (fun g hg => Nat.le_trans HB.out.size hg)
   exact ⟨HB.out.step HW.out, _, u, r, rfl, HQ.out.below HW.out, ⟨1, ValS.boo (b := false) (X := ValA (from_ w.heap.size) _ 0) ⟨H90.out, H91.out⟩ (HL.out.fr KX)⟩, rfl⟩
theorem val_null {C : Cx} {w : World} {t : Tk} {r : List Tk} {c : Bool} (h : PS C w t r) (q0 : (t.k == 10) = false) (q1 : (t.k == 12) = false) (q2 : (t.k == 16) = false) (q3 : (t.k == 17) = false) (q4 : (t.k == 19) = false) (q5 : (t.k == 18) = false) (q6 : (t.k == 15) = true) (hn1 : t.v ≠ bTrue) (hn2 : t.v ≠ bFalse) (hn3 : t.v = bNull) : Calls Tryz.prog 84 #[ptr C.gp, .bool c] w (Got C w ((.bad : O (List Row × List Tk))) ValE) := by
 have HP := mkA h
 have OK := mkA h.ok
 have LOW := mkA h.lo
 have HB := mkA (Fr.refl C.gp C.gc w)
 obtain ⟨c1, c5, c6, c7, c8⟩ := h.cells
 clear h
 obtain ⟨x1, y1⟩ := word_no (l := [116, 114, 117, 101]) hn1; obtain ⟨x2, y2⟩ := word_no (l := [102, 97, 108, 115, 101]) hn2; obtain ⟨x3, y3⟩ := word_yes (l := [110, 117, 108, 108]) hn3; clear hn1 hn2 hn3
 go_enter Tryz.func84, Tryz.ntmps84
 go_upto_region 2 with (first
  | ((with_reducible refine gate_dst (N := 6) rfl ?_); refine box_event ?hg (N := 6) ?hd (cs := #[.int .i64 0, .int .i64 0, .int .i64 0, .string ⟨#[]⟩]) (t := 63) ?hr ?_; (case hd => rfl); (case hg => rfl); (case hr => first | (go_simp; done) | (go_simp; rfl)); intro gt hg w2 hbox hb; obtain ⟨n0_, GT, GT2, n1_, BT, NP, tz0, tz1, tz2, tz3, tf0, tf1, tf2, tf3⟩ := tkb OK.out HB.out HP.out hg hbox hb; clear HB hb hbox hg c1 c5 c6 c7 c8; have HB := n0_; have HP2 := n1_; clear n0_ n1_))
 obtain ⟨w3, hw3, n0_, n1_, n2_, sx0, sx1, sx2, sx3⟩ := tk3 HB.out GT.out BT.out HP2.out GT2.out
 rw [← hw3]
 clear HB BT HP2 hw3 tz0 tz1 tz2 tz3 tf0 tf1 tf2 tf3
 have HB := n0_; have BT := n1_; have HP2 := n2_
 clear n0_ n1_ n2_
 go_wp2_with (first
  | (go_at_call 114; (with_reducible refine (unexp_walk HP2.out).mono ?_); rintro e w4 ⟨⟨te, x, rfl⟩, hB⟩; have HB4 := mkA hB; clear hB))
 go_ret2
 exact ⟨HB.out.step HB4.out, (HP2.out.below HB4.out).pb, _, te, x, rfl⟩
theorem val_none {C : Cx} {w : World} {t : Tk} {r : List Tk} {c : Bool} (h : PS C w t r) (q0 : (t.k == 10) = false) (q1 : (t.k == 12) = false) (q2 : (t.k == 16) = false) (q3 : (t.k == 17) = false) (q4 : (t.k == 19) = false) (q5 : (t.k == 18) = false) (q6 : (t.k == 15) = false) (q7 : (t.k == 3) = false) : Calls Tryz.prog 84 #[ptr C.gp, .bool c] w (Got C w ((.bad : O (List Row × List Tk))) ValE) := by
 have HP := mkA h
 have OK := mkA h.ok
 have LOW := mkA h.lo
 have HB := mkA (Fr.refl C.gp C.gc w)
 obtain ⟨c1, c5, c6, c7, c8⟩ := h.cells
 clear h
 go_enter Tryz.func84, Tryz.ntmps84
 go_upto_region 2 with (first
  | ((with_reducible refine gate_dst (N := 6) rfl ?_); refine box_event ?hg (N := 6) ?hd (cs := #[.int .i64 0, .int .i64 0, .int .i64 0, .string ⟨#[]⟩]) (t := 63) ?hr ?_; (case hd => rfl); (case hg => rfl); (case hr => first | (go_simp; done) | (go_simp; rfl)); intro gt hg w2 hbox hb; obtain ⟨n0_, GT, GT2, n1_, BT, NP, tz0, tz1, tz2, tz3, tf0, tf1, tf2, tf3⟩ := tkb OK.out HB.out HP.out hg hbox hb; clear HB hb hbox hg c1 c5 c6 c7 c8; have HB := n0_; have HP2 := n1_; clear n0_ n1_))
 obtain ⟨w3, hw3, n0_, n1_, n2_, sx0, sx1, sx2, sx3⟩ := tk3 HB.out GT.out BT.out HP2.out GT2.out
 rw [← hw3]
 clear HB BT HP2 hw3 tz0 tz1 tz2 tz3 tf0 tf1 tf2 tf3
 have HB := n0_; have BT := n1_; have HP2 := n2_
 clear n0_ n1_ n2_
 go_wp2_with (first
  | (go_at_call 114; (with_reducible refine (unexp_walk HP2.out).mono ?_); rintro e w4 ⟨⟨te, x, rfl⟩, hB⟩; have HB4 := mkA hB; clear hB))
 go_ret2
 exact ⟨HB.out.step HB4.out, (HP2.out.below HB4.out).pb, _, te, x, rfl⟩
theorem val_const {C : Cx} {w : World} {t : Tk} {r : List Tk} {c : Bool} (h : PS C w t r) (q0 : (t.k == 10) = false) (q1 : (t.k == 12) = false) (q2 : (t.k == 16) = false) (q3 : (t.k == 17) = false) (q4 : (t.k == 19) = false) (q5 : (t.k == 18) = false) (q6 : (t.k == 15) = false) (q7 : (t.k == 3) = true) (hc : c = true) : Calls Tryz.prog 84 #[ptr C.gp, .bool c] w (Got C w ((.bad : O (List Row × List Tk))) ValE) := by
 have HP := mkA h
 have OK := mkA h.ok
 have LOW := mkA h.lo
 have HB := mkA (Fr.refl C.gp C.gc w)
 obtain ⟨c1, c5, c6, c7, c8⟩ := h.cells
 clear h
 subst hc
 go_enter Tryz.func84, Tryz.ntmps84
 go_upto_region 2 with (first
  | ((with_reducible refine gate_dst (N := 6) rfl ?_); refine box_event ?hg (N := 6) ?hd (cs := #[.int .i64 0, .int .i64 0, .int .i64 0, .string ⟨#[]⟩]) (t := 63) ?hr ?_; (case hd => rfl); (case hg => rfl); (case hr => first | (go_simp; done) | (go_simp; rfl)); intro gt hg w2 hbox hb; obtain ⟨n0_, GT, GT2, n1_, BT, NP, tz0, tz1, tz2, tz3, tf0, tf1, tf2, tf3⟩ := tkb OK.out HB.out HP.out hg hbox hb; clear HB hb hbox hg c1 c5 c6 c7 c8; have HB := n0_; have HP2 := n1_; clear n0_ n1_))
 obtain ⟨w3, hw3, n0_, n1_, n2_, sx0, sx1, sx2, sx3⟩ := tk3 HB.out GT.out BT.out HP2.out GT2.out
 rw [← hw3]
 clear HB BT HP2 hw3 tz0 tz1 tz2 tz3 tf0 tf1 tf2 tf3
 have HB := n0_; have BT := n1_; have HP2 := n2_
 clear n0_ n1_ n2_
 go_wp2_with (first
  | (go_at_call 114; (with_reducible refine (unexp_walk HP2.out).mono ?_); rintro e w4 ⟨⟨te, x, rfl⟩, hB⟩; have HB4 := mkA hB; clear hB))
 go_ret2
 exact ⟨HB.out.step HB4.out, (HP2.out.below HB4.out).pb, _, te, x, rfl⟩
theorem val_var {C : Cx} {w : World} {t : Tk} {r : List Tk} {c : Bool} (h : PS C w t r) (q0 : (t.k == 10) = false) (q1 : (t.k == 12) = false) (q2 : (t.k == 16) = false) (q3 : (t.k == 17) = false) (q4 : (t.k == 19) = false) (q5 : (t.k == 18) = false) (q6 : (t.k == 15) = false) (q7 : (t.k == 3) = true) (hc : c = false) : Calls Tryz.prog 84 #[ptr C.gp, .bool c] w (Got C w ((pVar (t :: r)).bind fun n => .ok (nd 11 n.1 e0 e0 0 [], n.2)) ValE) := by
 have HP := mkA h
 have OK := mkA h.ok
 have LOW := mkA h.lo
 have HB := mkA (Fr.refl C.gp C.gc w)
 obtain ⟨c1, c5, c6, c7, c8⟩ := h.cells
 clear h
 subst hc
 have hpv : ((must 3 (t :: r)).bind fun r => (pName r).bind fun n => O.ok (n.1, n.2)) = pVar (t :: r) := by
  unfold pVar
  cases must 3 (t :: r) with
  | out => rfl
  | bad => rfl
  | ok l => show (pName l).bind _ = pName l; cases pName l <;> rfl
 have HPV := mkA hpv
 clear hpv
 cases e_ : pVar (t :: r) with
 | out => exact absurd e_ (pVar_ne _)
 | bad =>
   simp only [O.bind_bad]
   have E0 := mkA e_
   clear e_
   go_enter Tryz.func84, Tryz.ntmps84
   go_upto_region 2 with (first
    | ((with_reducible refine gate_dst (N := 6) rfl ?_); refine box_event ?hg (N := 6) ?hd (cs := #[.int .i64 0, .int .i64 0, .int .i64 0, .string ⟨#[]⟩]) (t := 63) ?hr ?_; (case hd => rfl); (case hg => rfl); (case hr => first | (go_simp; done) | (go_simp; rfl)); intro gt hg w2 hbox hb; obtain ⟨n0_, GT, GT2, n1_, BT, NP, tz0, tz1, tz2, tz3, tf0, tf1, tf2, tf3⟩ := tkb OK.out HB.out HP.out hg hbox hb; clear HB hb hbox hg c1 c5 c6 c7 c8; have HB := n0_; have HP2 := n1_; clear n0_ n1_))
   obtain ⟨w3, hw3, n0_, n1_, n2_, sx0, sx1, sx2, sx3⟩ := tk3 HB.out GT.out BT.out HP2.out GT2.out
   rw [← hw3]
   clear HB BT HP2 hw3 tz0 tz1 tz2 tz3 tf0 tf1 tf2 tf3
   have HB := n0_; have BT := n1_; have HP2 := n2_
   clear n0_ n1_ n2_
   go_wp2_with (first
    | (go_at_call 82; have c_ := parseVariable_walk HP2.out (by rw [HPV.out, E0.out]; exact fun e => by cases e); rw [HPV.out, E0.out] at c_; (with_reducible refine c_.mono ?_); rintro e w4 ⟨hF, hP, v_, te, x, rfl⟩; have HB4 := mkA (HB.out.trans hF); have HP4 := mkA hP; clear hF hP))
   go_ret2
   exact ⟨HB4.out, HP4.out, _, te, x, rfl⟩
 | ok a_ =>
   obtain ⟨n_, l_⟩ := a_
   simp only [O.bind_ok]
   have E0 := mkA e_
   clear e_
   go_enter Tryz.func84, Tryz.ntmps84
   go_upto_region 2 with (first
    | ((with_reducible refine gate_dst (N := 6) rfl ?_); refine box_event ?hg (N := 6) ?hd (cs := #[.int .i64 0, .int .i64 0, .int .i64 0, .string ⟨#[]⟩]) (t := 63) ?hr ?_; (case hd => rfl); (case hg => rfl); (case hr => first | (go_simp; done) | (go_simp; rfl)); intro gt hg w2 hbox hb; obtain ⟨n0_, GT, GT2, n1_, BT, NP, tz0, tz1, tz2, tz3, tf0, tf1, tf2, tf3⟩ := tkb OK.out HB.out HP.out hg hbox hb; clear HB hb hbox hg c1 c5 c6 c7 c8; have HB := n0_; have HP2 := n1_; clear n0_ n1_))
   obtain ⟨w3, hw3, n0_, n1_, n2_, sx0, sx1, sx2, sx3⟩ := tk3 HB.out GT.out BT.out HP2.out GT2.out
   rw [← hw3]
   clear HB BT HP2 hw3 tz0 tz1 tz2 tz3 tf0 tf1 tf2 tf3
   have HB := n0_; have BT := n1_; have HP2 := n2_
   clear n0_ n1_ n2_
   go_wp2_with (first
    | (go_at_call 82; have c_ := parseVariable_walk HP2.out (by rw [HPV.out, E0.out]; exact fun e => by cases e); rw [HPV.out, E0.out] at c_; (with_reducible refine c_.mono ?_); rintro e w4 ⟨hF, v4, u4, r4, hl_, hP, hN, rfl⟩; subst hl_; obtain ⟨g4, k4, l4, n4, rfl, q1, q2, q3⟩ := hN; have HN4 := mkA (And.intro q1 (And.intro q2 q3)); have HB4 := mkA (HB.out.trans hF); have HP4 := mkA hP; clear hF hP q1 q2 q3))
   go_ret2
   have hk : Keeps (from_ w3.heap.size) (from_ w.heap.size) w4 w4 := keeps_weak HB.out.size
   exact ⟨HB4.out, _, u4, r4, rfl, HP4.out, ⟨1, ValS.var (X := ValA (from_ w.heap.size) _ 0) (HN4.out.1.fr hk) (HN4.out.2.1.fr hk) (HN4.out.2.2.fr hk)⟩, rfl⟩
end Go.Proofs.YthgcghpcikbnkaaGreatDoor.R
