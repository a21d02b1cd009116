/- A part of the proof of the theorem of this claim: Pv1. No condition of its own. -/
import Derived.Test.YthgcghpcikbnkaaGreatDoorA25
set_option maxHeartbeats 16000000
set_option maxRecDepth 100000
namespace Go.Proofs.YthgcghpcikbnkaaGreatDoor.R
open Go.RowKit Go.Proofs.YthgcghpcikbnkaaGreatDoorW.PrintWords Go.Proofs.YthgcghpcikbnkaaGreatDoorW.PrintLast Go.Proofs.YthgcghpcikbnkaaGreatDoorW.PrintMore
set_option linter.unusedVariables false
set_option linter.unusedSimpArgs false
theorem val_10 {C : Cx} {w : World} {t : Tk} {r : List Tk} {c : Bool} (h : PS C w t r) (q0 : (t.k == 10) = true) {f : Nat} (hV : ValSpec C f c) (hf : f ≤ 1000000) (hne : rev false (pVal f c) 10 11 f (t :: r) ≠ .out) : Calls Tryz.prog 84 #[ptr C.gp, .bool c] w (Got C w ((rev false (pVal f c) 10 11 f (t :: r)).bind fun x => .ok (nd 17 e0 e0 e0 0 x.1, x.2)) ValE) := by
 have HP := mkA h
 have OK := mkA h.ok
 have LOW := mkA h.lo
 have HB := mkA (Fr.refl C.gp C.gc w)
 obtain ⟨c1, c5, c6, c7, c8⟩ := h.cells
 clear h
 have HV := mkA hV
 have HF := mkA hf
 have HNE := mkA hne
 clear hV hf hne
 obtain ⟨RES, hR⟩ : ∃ RES, RES = ((rev false (pVal f c) 10 11 f (t :: r)).bind fun x => .ok (nd 17 e0 e0 e0 0 x.1, x.2)) := ⟨_, rfl⟩
 rw [← hR]
 have HR := mkA hR
 clear hR
 cases RES with
 | out =>
   exfalso
   have h1 := HR.out
   have h2 := HNE.out
   revert h1 h2
   cases rev false (pVal f c) 10 11 f (t :: r) with
   | out => exact fun _ h => h rfl
   | bad => exact fun h _ => by cases h
   | ok a => exact fun h _ => by cases h
 | bad =>
   go_enter Tryz.func84, Tryz.ntmps84
   go_upto_region 2 with (first
    | ((with_reducible refine gate_dst (N := 6) rfl ?_); refine box_event ?hg (N := 6) ?hd (cs := #[.int .i64 0, .int .i64 0, .int .i64 0, .string ⟨#[]⟩]) (t := 63) ?hr ?_; (case hd => rfl); (case hg => rfl); (case hr => first | (go_simp; done) | (go_simp; rfl)); intro gt hg w2 hbox hb; obtain ⟨n0_, GT, GT2, n1_, BT, NP, tz0, tz1, tz2, tz3, tf0, tf1, tf2, tf3⟩ := tkb OK.out HB.out HP.out hg hbox hb; clear HB hb hbox hg c1 c5 c6 c7 c8; have HB := n0_; have HP2 := n1_; clear n0_ n1_))
   obtain ⟨w3, hw3, n0_, n1_, n2_, sx0, sx1, sx2, sx3⟩ := tk3 HB.out GT.out BT.out HP2.out GT2.out
   rw [← hw3]
   clear HB BT HP2 hw3 tz0 tz1 tz2 tz3 tf0 tf1 tf2 tf3
   have HB := n0_; have BT := n1_; have HP2 := n2_
   clear n0_ n1_ n2_
   go_wp2_with (first
    | (go_at_call 107; have c_ := list_walk HV.out HF.out HP2.out HNE.out; rw [← HR.out] at c_; (with_reducible refine c_.mono ?_); rintro e w4 ⟨hF, hP, v_, te, x, rfl⟩; have HB4 := mkA (HB.out.trans hF); have HP4 := mkA hP; clear hF hP))
   go_ret2
   exact ⟨HB4.out, HP4.out, _, te, x, rfl⟩
 | ok a_ =>
   obtain ⟨rows, l_⟩ := a_
   go_enter Tryz.func84, Tryz.ntmps84
   go_upto_region 2 with (first
    | ((with_reducible refine gate_dst (N := 6) rfl ?_); refine box_event ?hg (N := 6) ?hd (cs := #[.int .i64 0, .int .i64 0, .int .i64 0, .string ⟨#[]⟩]) (t := 63) ?hr ?_; (case hd => rfl); (case hg => rfl); (case hr => first | (go_simp; done) | (go_simp; rfl)); intro gt hg w2 hbox hb; obtain ⟨n0_, GT, GT2, n1_, BT, NP, tz0, tz1, tz2, tz3, tf0, tf1, tf2, tf3⟩ := tkb OK.out HB.out HP.out hg hbox hb; clear HB hb hbox hg c1 c5 c6 c7 c8; have HB := n0_; have HP2 := n1_; clear n0_ n1_))
   obtain ⟨w3, hw3, n0_, n1_, n2_, sx0, sx1, sx2, sx3⟩ := tk3 HB.out GT.out BT.out HP2.out GT2.out
   rw [← hw3]
   clear HB BT HP2 hw3 tz0 tz1 tz2 tz3 tf0 tf1 tf2 tf3
   have HB := n0_; have BT := n1_; have HP2 := n2_
   clear n0_ n1_ n2_
   go_wp2_with (first
    | (go_at_call 107; have c_ := list_walk HV.out HF.out HP2.out HNE.out; rw [← HR.out] at c_; (with_reducible refine c_.mono ?_); rintro e w4 ⟨hF, v4, u4, r4, hl_, hP, hN, rfl⟩; subst hl_; obtain ⟨g4, k4, l4, sl4, rw4, rfl, q1, q2, q3, q4⟩ := hN; have HN4 := mkA (And.intro q1 (And.intro q2 (And.intro q3 q4))); have HB4 := mkA (HB.out.trans hF); have HP4 := mkA hP; clear hF hP q1 q2 q3 q4))
   go_ret2
   obtain ⟨q1, q2, ⟨n4, xs4, q30, q31, q32⟩, q4⟩ := HN4.out
   obtain ⟨dep, q33⟩ := many_depth q32
   have hk : Keeps (from_ w3.heap.size) (from_ w.heap.size) w4 w4 := keeps_weak HB.out.size
   have hv : ValS (from_ w3.heap.size) w4 (ValA (from_ w3.heap.size) w4 dep) (.iface 141 (ptr g4)) rows := by rw [q4]; exact .lst q1 q2 ⟨n4, xs4, q30, q31, q33⟩
   exact ⟨HB4.out, _, u4, r4, rfl, HP4.out, ⟨dep + 1, ValA.fr hk (dep + 1) _ _ hv⟩, rfl⟩
theorem val_12 {C : Cx} {w : World} {t : Tk} {r : List Tk} {c : Bool} (h : PS C w t r) (q0 : (t.k == 10) = false) (q1 : (t.k == 12) = true) {f : Nat} (hV : ValSpec C f c) (hf : f ≤ 1000000) (hne : rev false (pNV 19 (pVal f c)) 12 14 f (t :: r) ≠ .out) : Calls Tryz.prog 84 #[ptr C.gp, .bool c] w (Got C w ((rev false (pNV 19 (pVal f c)) 12 14 f (t :: r)).bind fun x => .ok (nd 18 e0 e0 e0 0 x.1, x.2)) ValE) := by
 have HP := mkA h
 have OK := mkA h.ok
 have LOW := mkA h.lo
 have HB := mkA (Fr.refl C.gp C.gc w)
 obtain ⟨c1, c5, c6, c7, c8⟩ := h.cells
 clear h
 have HV := mkA hV
 have HF := mkA hf
 have HNE := mkA hne
 clear hV hf hne
 obtain ⟨RES, hR⟩ : ∃ RES, RES = ((rev false (pNV 19 (pVal f c)) 12 14 f (t :: r)).bind fun x => .ok (nd 18 e0 e0 e0 0 x.1, x.2)) := ⟨_, rfl⟩
 rw [← hR]
 have HR := mkA hR
 clear hR
 cases RES with
 | out =>
   exfalso
   have h1 := HR.out
   have h2 := HNE.out
   revert h1 h2
   cases rev false (pNV 19 (pVal f c)) 12 14 f (t :: r) with
   | out => exact fun _ h => h rfl
   | bad => exact fun h _ => by cases h
   | ok a => exact fun h _ => by cases h
 | bad =>
   go_enter Tryz.func84, Tryz.ntmps84
   go_upto_region 2 with (first
    | ((with_reducible refine gate_dst (N := 6) rfl ?_); refine box_event ?hg (N := 6) ?hd (cs := #[.int .i64 0, .int .i64 0, .int .i64 0, .string ⟨#[]⟩]) (t := 63) ?hr ?_; (case hd => rfl); (case hg => rfl); (case hr => first | (go_simp; done) | (go_simp; rfl)); intro gt hg w2 hbox hb; obtain ⟨n0_, GT, GT2, n1_, BT, NP, tz0, tz1, tz2, tz3, tf0, tf1, tf2, tf3⟩ := tkb OK.out HB.out HP.out hg hbox hb; clear HB hb hbox hg c1 c5 c6 c7 c8; have HB := n0_; have HP2 := n1_; clear n0_ n1_))
   obtain ⟨w3, hw3, n0_, n1_, n2_, sx0, sx1, sx2, sx3⟩ := tk3 HB.out GT.out BT.out HP2.out GT2.out
   rw [← hw3]
   clear HB BT HP2 hw3 tz0 tz1 tz2 tz3 tf0 tf1 tf2 tf3
   have HB := n0_; have BT := n1_; have HP2 := n2_
   clear n0_ n1_ n2_
   go_wp2_with (first
    | (go_at_call 108; have c_ := obj_walk HV.out HF.out HP2.out HNE.out; rw [← HR.out] at c_; (with_reducible refine c_.mono ?_); rintro e w4 ⟨hF, hP, v_, te, x, rfl⟩; have HB4 := mkA (HB.out.trans hF); have HP4 := mkA hP; clear hF hP))
   go_ret2
   exact ⟨HB4.out, HP4.out, _, te, x, rfl⟩
 | ok a_ =>
   obtain ⟨rows, l_⟩ := a_
   go_enter Tryz.func84, Tryz.ntmps84
   go_upto_region 2 with (first
    | ((with_reducible refine gate_dst (N := 6) rfl ?_); refine box_event ?hg (N := 6) ?hd (cs := #[.int .i64 0, .int .i64 0, .int .i64 0, .string ⟨#[]⟩]) (t := 63) ?hr ?_; (case hd => rfl); (case hg => rfl); (case hr => first | (go_simp; done) | (go_simp; rfl)); intro gt hg w2 hbox hb; obtain ⟨n0_, GT, GT2, n1_, BT, NP, tz0, tz1, tz2, tz3, tf0, tf1, tf2, tf3⟩ := tkb OK.out HB.out HP.out hg hbox hb; clear HB hb hbox hg c1 c5 c6 c7 c8; have HB := n0_; have HP2 := n1_; clear n0_ n1_))
   obtain ⟨w3, hw3, n0_, n1_, n2_, sx0, sx1, sx2, sx3⟩ := tk3 HB.out GT.out BT.out HP2.out GT2.out
   rw [← hw3]
   clear HB BT HP2 hw3 tz0 tz1 tz2 tz3 tf0 tf1 tf2 tf3
   have HB := n0_; have BT := n1_; have HP2 := n2_
   clear n0_ n1_ n2_
   go_wp2_with (first
    | (go_at_call 108; have c_ := obj_walk HV.out HF.out HP2.out HNE.out; rw [← HR.out] at c_; (with_reducible refine c_.mono ?_); rintro e w4 ⟨hF, v4, u4, r4, hl_, hP, hN, rfl⟩; subst hl_; obtain ⟨g4, k4, l4, sl4, rw4, rfl, q1, q2, q3, q4⟩ := hN; have HN4 := mkA (And.intro q1 (And.intro q2 (And.intro q3 q4))); have HB4 := mkA (HB.out.trans hF); have HP4 := mkA hP; clear hF hP q1 q2 q3 q4))
   go_ret2
   obtain ⟨q1, q2, ⟨n4, xs4, q30, q31, q32⟩, q4⟩ := HN4.out
   obtain ⟨dep, q33⟩ := FldA.depth q32
   have hk : Keeps (from_ w3.heap.size) (from_ w.heap.size) w4 w4 := keeps_weak HB.out.size
   have hv : ValS (from_ w3.heap.size) w4 (ValA (from_ w3.heap.size) w4 dep) (.iface 145 (ptr g4)) rows := by rw [q4]; exact .obj q1 q2 ⟨n4, xs4, q30, q31, q33⟩
   exact ⟨HB4.out, _, u4, r4, rfl, HP4.out, ⟨dep + 1, ValA.fr hk (dep + 1) _ _ hv⟩, rfl⟩
theorem val_16 {C : Cx} {w : World} {t : Tk} {r : List Tk} {c : Bool} (h : PS C w t r) (q0 : (t.k == 10) = false) (q1 : (t.k == 12) = false) (q2 : (t.k == 16) = true) : Calls Tryz.prog 84 #[ptr C.gp, .bool c] w (Got C w (one (nd 12 e0 e0 t.v 0 []) (t :: r)) ValE) := by
 have HP := mkA h
 have OK := mkA h.ok
 have LOW := mkA h.lo
 have HB := mkA (Fr.refl C.gp C.gc w)
 obtain ⟨c1, c5, c6, c7, c8⟩ := h.cells
 have HTK := mkA (show t.k ≠ 1 from by intro e; rw [e] at q2; exact absurd q2 (by decide))
 clear h
 cases r with
 | nil =>
   rw [show one (nd 12 e0 e0 t.v 0 []) [t] = .bad by unfold one; rw [adv_nil HTK.out]; rfl]
   go_enter Tryz.func84, Tryz.ntmps84
   go_upto_region 2 with (first
    | ((with_reducible refine gate_dst (N := 6) rfl ?_); refine box_event ?hg (N := 6) ?hd (cs := #[.int .i64 0, .int .i64 0, .int .i64 0, .string ⟨#[]⟩]) (t := 63) ?hr ?_; (case hd => rfl); (case hg => rfl); (case hr => first | (go_simp; done) | (go_simp; rfl)); intro gt hg w2 hbox hb; obtain ⟨n0_, GT, GT2, n1_, BT, NP, tz0, tz1, tz2, tz3, tf0, tf1, tf2, tf3⟩ := tkb OK.out HB.out HP.out hg hbox hb; clear HB hb hbox hg c1 c5 c6 c7 c8; have HB := n0_; have HP2 := n1_; clear n0_ n1_))
   obtain ⟨w3, hw3, n0_, n1_, n2_, sx0, sx1, sx2, sx3⟩ := tk3 HB.out GT.out BT.out HP2.out GT2.out
   rw [← hw3]
   clear HB BT HP2 hw3 tz0 tz1 tz2 tz3 tf0 tf1 tf2 tf3
   have HB := n0_; have BT := n1_; have HP2 := n2_
   clear n0_ n1_ n2_
   have CA := mkA (advance_walk HP2.out HTK.out)
   go_wp2_with (first
    | (go_at_call 100; (with_reducible refine CA.out.mono ?_); rintro e w4 ⟨hF, hP, te, x, rfl⟩; have n0_ := mkA (HB.out.trans hF); clear HB; have HB := n0_; have HQ := mkA hP; clear n0_ hF hP))
   go_ret2
   exact ⟨HB.out, HQ.out, _, te, x, rfl⟩
 | cons u r =>
   rw [show one (nd 12 e0 e0 t.v 0 []) (t :: u :: r) = .ok (nd 12 e0 e0 t.v 0 [], u :: r) by unfold one; rw [adv_cons HTK.out]; rfl]
   go_enter Tryz.func84, Tryz.ntmps84
   go_upto_region 2 with (first
    | ((with_reducible refine gate_dst (N := 6) rfl ?_); refine box_event ?hg (N := 6) ?hd (cs := #[.int .i64 0, .int .i64 0, .int .i64 0, .string ⟨#[]⟩]) (t := 63) ?hr ?_; (case hd => rfl); (case hg => rfl); (case hr => first | (go_simp; done) | (go_simp; rfl)); intro gt hg w2 hbox hb; obtain ⟨n0_, GT, GT2, n1_, BT, NP, tz0, tz1, tz2, tz3, tf0, tf1, tf2, tf3⟩ := tkb OK.out HB.out HP.out hg hbox hb; clear HB hb hbox hg c1 c5 c6 c7 c8; have HB := n0_; have HP2 := n1_; clear n0_ n1_))
   obtain ⟨w3, hw3, n0_, n1_, n2_, sx0, sx1, sx2, sx3⟩ := tk3 HB.out GT.out BT.out HP2.out GT2.out
   rw [← hw3]
   clear HB BT HP2 hw3 tz0 tz1 tz2 tz3 tf0 tf1 tf2 tf3
   have HB := n0_; have BT := n1_; have HP2 := n2_
   clear n0_ n1_ n2_
   have CA := mkA (advance_walk HP2.out HTK.out)
   go_upto_region 11 with (first
    | (go_at_call 100; (with_reducible refine CA.out.mono ?_); rintro e w4 ⟨hF, hP, rfl⟩; have n0_ := mkA (HB.out.trans hF); clear HB; have HB := n0_; have HQ := mkA hP; have BT4 := mkA (hF.blk BT.out NP.out.1 NP.out.2); clear n0_ hF hP))
   clear sx0 sx1 sx3
   have sx0 : w4.cell? ⟨gt, 3, none⟩ = some (.string t.v) := (blk_cell BT4.out 3).trans rfl
   have sx1 : w4.cell? ⟨gt, 1, none⟩ = some (.int .i64 t.a) := (blk_cell BT4.out 1).trans rfl
   have K0 : ∀ u, Below w4.heap.size w4 u → (u.cell? ⟨gt, 3, none⟩ = some (.string t.v) ∧ u.cell? ⟨gt, 1, none⟩ = some (.int .i64 t.a)) ∧ Below w4.heap.size w4 u := fun u hu => ⟨⟨(hu.cell (World.block_lt_of_cell? _ _ sx0)).trans sx0, (hu.cell (World.block_lt_of_cell? _ _ sx1)).trans sx1⟩, hu⟩
   have cL := mkA (fun (u : World) (hu : Below w4.heap.size w4 u) (a : Int) => (show Calls Tryz.prog 59 #[ptr C.gp, .int .i64 a] u fun e w' => (∃ g' : Nat, e = .returned (ptr g') ∧ LocA (from_ w4.heap.size) w' (ptr g')) ∧ Below w4.heap.size w4 w' from (loc_ps (HQ.out.below hu) a).mono fun e w' q => by obtain ⟨⟨g', q1, q2⟩, q3⟩ := q; exact ⟨⟨g', q1, q2.fr (keeps_weak hu.size)⟩, below_step hu q3⟩))
   have LO := mkA (show w.heap.size ≤ w4.heap.size from HB.out.size)
   go_region_held3 (fun u => (u.cell? ⟨gt, 3, none⟩ = some (.string t.v) ∧ u.cell? ⟨gt, 1, none⟩ = some (.int .i64 t.a)) ∧ Below w4.heap.size w4 u) (first | exact K0 _ (Below.refl _ _) | exact K0 _ (below_drew1 (Below.refl _ _)) | exact K0 _ (below_drew1 (below_alloc (Below.refl _ _) _)) | exact hS9 | exact hS5 | exact hS6 | fail) (first
    | (go_at_call 59; refine (cL.out _ ?_ _).mono ?_; (first | exact below_drew1 (Below.refl _ _) | exact Below.refl _ _); rintro e w5 ⟨⟨gl, rfl, hgl⟩, hW5⟩; have hS5 := K0 _ hW5; have hS6 := K0 _ (below_alloc hW5 (.cells #[.string ⟨#[]⟩, ptr gl, .string t.v] 131)); have cN := (show Calls Tryz.prog 109 #[ptr w5.heap.size] (w5.alloc (.cells #[.string ⟨#[]⟩, ptr gl, .string t.v] 131)) fun e w' => ∃ (g9 : Nat) (k9 : ByteArray), e = .returned (ptr g9) ∧ w.heap.size ≤ g9 ∧ w'.heap[g9]? = some (.cells #[.string k9, ptr gl, .string t.v] 131 (0, 0)) ∧ Below w5.heap.size w5 w' from (newInt (B := w5.heap.size) (heap_alloc_new w5 _) (Nat.le_refl _) (below_alloc (Below.refl w5.heap.size w5) _).size).mono fun e w' q => by obtain ⟨⟨g9, k9, q1, q2, q3⟩, q4⟩ := q; exact ⟨g9, k9, q1, Nat.le_trans (Nat.le_trans LO.out hW5.size) q2, q3, (below_alloc (Below.refl w5.heap.size w5) _).trans q4⟩))
    | (go_at_call 109; refine cN.mono ?_; rintro e w9 ⟨g9, k9, rfl, h90, h91, hX⟩; have hW9 := below_step hW5 hX; have hS9 := K0 _ hW9)
    | fail)
   go_wp2
   go_ret2
   have KX := keeps_below (ok := from_ w4.heap.size) (ok' := from_ w.heap.size) hX (fun g hg => Nat.le_trans HB.out.size hg)
   exact ⟨HB.out.step hW9, _, _, _, rfl, HQ.out.below hW9, ⟨1, ValS.int (X := ValA (from_ w.heap.size) _ 0) ⟨h90, h91⟩ (hgl.fr KX)⟩, rfl⟩
theorem val_17 {C : Cx} {w : World} {t : Tk} {r : List Tk} {c : Bool} (h : PS C w t r) (q0 : (t.k == 10) = false) (q1 : (t.k == 12) = false) (q2 : (t.k == 16) = false) (q3 : (t.k == 17) = true) : Calls Tryz.prog 84 #[ptr C.gp, .bool c] w (Got C w (one (nd 13 e0 e0 t.v 0 []) (t :: r)) ValE) := by
 have HP := mkA h
 have OK := mkA h.ok
 have LOW := mkA h.lo
 have HB := mkA (Fr.refl C.gp C.gc w)
 obtain ⟨c1, c5, c6, c7, c8⟩ := h.cells
 have HTK := mkA (show t.k ≠ 1 from by intro e; rw [e] at q3; exact absurd q3 (by decide))
 clear h
 cases r with
 | nil =>
   rw [show one (nd 13 e0 e0 t.v 0 []) [t] = .bad by unfold one; rw [adv_nil HTK.out]; rfl]
   go_enter Tryz.func84, Tryz.ntmps84
   go_upto_region 2 with (first
    | ((with_reducible refine gate_dst (N := 6) rfl ?_); refine box_event ?hg (N := 6) ?hd (cs := #[.int .i64 0, .int .i64 0, .int .i64 0, .string ⟨#[]⟩]) (t := 63) ?hr ?_; (case hd => rfl); (case hg => rfl); (case hr => first | (go_simp; done) | (go_simp; rfl)); intro gt hg w2 hbox hb; obtain ⟨n0_, GT, GT2, n1_, BT, NP, tz0, tz1, tz2, tz3, tf0, tf1, tf2, tf3⟩ := tkb OK.out HB.out HP.out hg hbox hb; clear HB hb hbox hg c1 c5 c6 c7 c8; have HB := n0_; have HP2 := n1_; clear n0_ n1_))
   obtain ⟨w3, hw3, n0_, n1_, n2_, sx0, sx1, sx2, sx3⟩ := tk3 HB.out GT.out BT.out HP2.out GT2.out
   rw [← hw3]
   clear HB BT HP2 hw3 tz0 tz1 tz2 tz3 tf0 tf1 tf2 tf3
   have HB := n0_; have BT := n1_; have HP2 := n2_
   clear n0_ n1_ n2_
   have CA := mkA (advance_walk HP2.out HTK.out)
   go_wp2_with (first
    | (go_at_call 100; (with_reducible refine CA.out.mono ?_); rintro e w4 ⟨hF, hP, te, x, rfl⟩; have n0_ := mkA (HB.out.trans hF); clear HB; have HB := n0_; have HQ := mkA hP; clear n0_ hF hP))
   go_ret2
   exact ⟨HB.out, HQ.out, _, te, x, rfl⟩
 | cons u r =>
   rw [show one (nd 13 e0 e0 t.v 0 []) (t :: u :: r) = .ok (nd 13 e0 e0 t.v 0 [], u :: r) by unfold one; rw [adv_cons HTK.out]; rfl]
   go_enter Tryz.func84, Tryz.ntmps84
   go_upto_region 2 with (first
    | ((with_reducible refine gate_dst (N := 6) rfl ?_); refine box_event ?hg (N := 6) ?hd (cs := #[.int .i64 0, .int .i64 0, .int .i64 0, .string ⟨#[]⟩]) (t := 63) ?hr ?_; (case hd => rfl); (case hg => rfl); (case hr => first | (go_simp; done) | (go_simp; rfl)); intro gt hg w2 hbox hb; obtain ⟨n0_, GT, GT2, n1_, BT, NP, tz0, tz1, tz2, tz3, tf0, tf1, tf2, tf3⟩ := tkb OK.out HB.out HP.out hg hbox hb; clear HB hb hbox hg c1 c5 c6 c7 c8; have HB := n0_; have HP2 := n1_; clear n0_ n1_))
   obtain ⟨w3, hw3, n0_, n1_, n2_, sx0, sx1, sx2, sx3⟩ := tk3 HB.out GT.out BT.out HP2.out GT2.out
   rw [← hw3]
   clear HB BT HP2 hw3 tz0 tz1 tz2 tz3 tf0 tf1 tf2 tf3
   have HB := n0_; have BT := n1_; have HP2 := n2_
   clear n0_ n1_ n2_
   have CA := mkA (advance_walk HP2.out HTK.out)
   go_upto_region 16 with (first
    | (go_at_call 100; (with_reducible refine CA.out.mono ?_); rintro e w4 ⟨hF, hP, rfl⟩; have n0_ := mkA (HB.out.trans hF); clear HB; have HB := n0_; have HQ := mkA hP; have BT4 := mkA (hF.blk BT.out NP.out.1 NP.out.2); clear n0_ hF hP))
   clear sx0 sx1 sx3
   have sx0 : w4.cell? ⟨gt, 3, none⟩ = some (.string t.v) := (blk_cell BT4.out 3).trans rfl
   have sx1 : w4.cell? ⟨gt, 1, none⟩ = some (.int .i64 t.a) := (blk_cell BT4.out 1).trans rfl
   have K0 : ∀ u, Below w4.heap.size w4 u → (u.cell? ⟨gt, 3, none⟩ = some (.string t.v) ∧ u.cell? ⟨gt, 1, none⟩ = some (.int .i64 t.a)) ∧ Below w4.heap.size w4 u := fun u hu => ⟨⟨(hu.cell (World.block_lt_of_cell? _ _ sx0)).trans sx0, (hu.cell (World.block_lt_of_cell? _ _ sx1)).trans sx1⟩, hu⟩
   have cL := mkA (fun (u : World) (hu : Below w4.heap.size w4 u) (a : Int) => (show Calls Tryz.prog 59 #[ptr C.gp, .int .i64 a] u fun e w' => (∃ g' : Nat, e = .returned (ptr g') ∧ LocA (from_ w4.heap.size) w' (ptr g')) ∧ Below w4.heap.size w4 w' from (loc_ps (HQ.out.below hu) a).mono fun e w' q => by obtain ⟨⟨g', q1, q2⟩, q3⟩ := q; exact ⟨⟨g', q1, q2.fr (keeps_weak hu.size)⟩, below_step hu q3⟩))
   have LO := mkA (show w.heap.size ≤ w4.heap.size from HB.out.size)
   go_region_held3 (fun u => (u.cell? ⟨gt, 3, none⟩ = some (.string t.v) ∧ u.cell? ⟨gt, 1, none⟩ = some (.int .i64 t.a)) ∧ Below w4.heap.size w4 u) (first | exact K0 _ (Below.refl _ _) | exact K0 _ (below_drew1 (Below.refl _ _)) | exact K0 _ (below_drew1 (below_alloc (Below.refl _ _) _)) | exact hS9 | exact hS5 | exact hS6 | fail) (first
    | (go_at_call 59; refine (cL.out _ ?_ _).mono ?_; (first | exact below_drew1 (Below.refl _ _) | exact Below.refl _ _); rintro e w5 ⟨⟨gl, rfl, hgl⟩, hW5⟩; have hS5 := K0 _ hW5; have hS6 := K0 _ (below_alloc hW5 (.cells #[.string ⟨#[]⟩, ptr gl, .string t.v] 133)); have cN := (show Calls Tryz.prog 110 #[ptr w5.heap.size] (w5.alloc (.cells #[.string ⟨#[]⟩, ptr gl, .string t.v] 133)) fun e w' => ∃ (g9 : Nat) (k9 : ByteArray), e = .returned (ptr g9) ∧ w.heap.size ≤ g9 ∧ w'.heap[g9]? = some (.cells #[.string k9, ptr gl, .string t.v] 133 (0, 0)) ∧ Below w5.heap.size w5 w' from (newFloat (B := w5.heap.size) (heap_alloc_new w5 _) (Nat.le_refl _) (below_alloc (Below.refl w5.heap.size w5) _).size).mono fun e w' q => by obtain ⟨⟨g9, k9, q1, q2, q3⟩, q4⟩ := q; exact ⟨g9, k9, q1, Nat.le_trans (Nat.le_trans LO.out hW5.size) q2, q3, (below_alloc (Below.refl w5.heap.size w5) _).trans q4⟩))
    | (go_at_call 110; refine cN.mono ?_; rintro e w9 ⟨g9, k9, rfl, h90, h91, hX⟩; have hW9 := below_step hW5 hX; have hS9 := K0 _ hW9)
    | fail)
   go_wp2
   go_ret2
   have KX := keeps_below (ok := from_ w4.heap.size) (ok' := from_ w.heap.size) hX (fun g hg => Nat.le_trans HB.out.size hg)
   exact ⟨HB.out.step hW9, _, _, _, rfl, HQ.out.below hW9, ⟨1, ValS.flt (X := ValA (from_ w.heap.size) _ 0) ⟨h90, h91⟩ (hgl.fr KX)⟩, rfl⟩
end Go.Proofs.YthgcghpcikbnkaaGreatDoor.R
