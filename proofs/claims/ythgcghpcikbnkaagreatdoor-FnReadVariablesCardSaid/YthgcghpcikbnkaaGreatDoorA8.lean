/- A part of the proof of the theorem of this claim: Psk, Exp, Unx. No condition of its own. -/
import Derived.Test.YthgcghpcikbnkaaGreatDoorA7
set_option maxHeartbeats 16000000
set_option maxRecDepth 100000
namespace Go.Proofs.YthgcghpcikbnkaaGreatDoor.R
open Go.RowKit Go.Proofs.YthgcghpcikbnkaaGreatDoorW.PrintWords Go.Proofs.YthgcghpcikbnkaaGreatDoorW.PrintLast Go.Proofs.YthgcghpcikbnkaaGreatDoorW.PrintMore
set_option linter.unusedVariables false
set_option linter.unusedSimpArgs false
theorem PS.cells {C : Cx} {w : World} {t : Tk} {r : List Tk} (h : PS C w t r) :
 w.cell? ⟨C.gp, 1, none⟩ = some (ptr C.g) ∧ w.cell? ⟨C.gp, 5, none⟩ = some (.int .i64 t.k) ∧ w.cell? ⟨C.gp, 6, none⟩ = some (.int .i64 t.a) ∧ w.cell? ⟨C.gp, 7, none⟩ = some (.int .i64 t.z) ∧ w.cell? ⟨C.gp, 8, none⟩ = some (.string t.v) := by
 obtain ⟨pe, hp⟩ := h.par
 exact ⟨(blk_cell hp 1).trans rfl, (blk_cell hp 5).trans rfl, (blk_cell hp 6).trans rfl, (blk_cell hp 7).trans rfl, (blk_cell hp 8).trans rfl⟩
theorem peek_walk {C : Cx} {w : World} {t : Tk} {r : List Tk} (h : PS C w t r) (k : Int) : Calls Tryz.prog 48 #[ptr C.gp, .int .i64 k] w fun e w' => e = .returned (.bool (t.k == k)) ∧ w = w' := by
 have c5 := h.cells.2.1
 clear h
 go_enter Tryz.func48, Tryz.ntmps48
 go_wp2
 go_ret
 exact ⟨rfl, rfl⟩
theorem skip_no {C : Cx} {w : World} {t : Tk} {r : List Tk} (h : PS C w t r) (k : Int) (hk : (t.k == k) = false) : Calls Tryz.prog 80 #[ptr C.gp, .int .i64 k] w fun e w' => e = .returned (.tuple #[.bool false, .nilIface]) ∧ w = w' := by
 have c5 := h.cells.2.1
 clear h
 go_enter Tryz.func80, Tryz.ntmps80
 go_wp2
 go_ret2
 exact ⟨rfl, rfl⟩
def AdvB (C : Cx) (w : World) (v : Value) (r : List Tk) (e : Ending) (w' : World) : Prop :=
 FrC C w w' ∧ match r with
 | [] => PB C w' ∧ ∃ (te : TypeId) (x : Value), e = .returned (.tuple #[v, .iface te x])
 | u :: r' => PS C w' u r' ∧ e = .returned (.tuple #[v, .nilIface])
theorem skip_yes {C : Cx} {w : World} {t : Tk} {r : List Tk} (h : PS C w t r) (k : Int) (hk : (t.k == k) = true) (h1 : t.k ≠ 1) : Calls Tryz.prog 80 #[ptr C.gp, .int .i64 k] w (AdvB C w (.bool true) r) := by
 have c5 := h.cells.2.1
 have CA := mkA (advance_walk h h1)
 clear h h1
 cases r with
 | nil =>
   go_enter Tryz.func80, Tryz.ntmps80
   go_wp2_with (first
    | (go_at_call 100; (with_reducible refine CA.out.mono ?_); rintro e w1 ⟨hF, hP, te, x, rfl⟩; have HF := mkA hF; have HP := mkA hP; clear hF hP))
   go_ret2
   exact ⟨HF.out, HP.out, te, x, rfl⟩
 | cons u r =>
   go_enter Tryz.func80, Tryz.ntmps80
   go_wp2_with (first
    | (go_at_call 100; (with_reducible refine CA.out.mono ?_); rintro e w1 ⟨hF, hP, rfl⟩; have HF := mkA hF; have HP := mkA hP; clear hF hP))
   go_ret2
   exact ⟨HF.out, HP.out, rfl⟩
set_option maxHeartbeats 1000000 in
theorem uempty_walk {C : Cx} {w : World} {t : Tk} {r : List Tk} (h : PS C w t r) (i : Nat) (hi : i ≤ C.s.size) (k1 k2 : Int) : Calls Tryz.prog 81 #[ptr C.gp, .int .i64 i, .int .i64 k1, .int .i64 k2] w fun e w' => (∃ (te : TypeId) (x : Value), e = .returned (.iface te x)) ∧ Below w.heap.size w w' := by
 have c1 := h.cells.1
 have CE := mkA (fun m => synErr_walk h.src i hi m)
 clear h hi
 go_enter Tryz.func81, Tryz.ntmps81
 go_wp2_with (first
  | (go_at_call 101; (with_reducible refine (CE.out _).mono ?_); rintro e w1 ⟨⟨gq, rfl⟩, hB⟩; have HB := mkA hB; clear hB))
 go_ret
 exact ⟨⟨_, _, rfl⟩, HB.out⟩
theorem PS.put {C : Cx} {w : World} {t : Tk} {r : List Tk} (h : PS C w t r) {p : Addr} (hp : C.lo ≤ p.block) (u : Value) : PS C (w.setCell p u) t r := by
 obtain ⟨pe, h1⟩ := h.par
 obtain ⟨pv, h2⟩ := h.cel
 have ok := h.ok
 obtain ⟨o1, o2, o3, o4, o5, o6, o7⟩ := ok
 refine ⟨h.ok, ⟨pe, blk_far h1 (by omega) u⟩, ⟨pv, blk_far h2 (by omega) u⟩, blk_far h.sou (by omega) u, ?_, by rw [gsz]; exact h.lo, h.pla, h.nxt⟩
 exact src_low h.src ((Below.refl C.lo w).setCell hp u) (by omega) (by omega) (by omega)
theorem PB.put {C : Cx} {w : World} (h : PB C w) {g : Nat} (hg : g ≠ C.gp) (j : Nat) (u : Value) : PB C (w.setCell ⟨g, j, none⟩ u) := by
 obtain ⟨pe, k, a, z, v, h⟩ := h; exact ⟨pe, k, a, z, v, blk_far h (Ne.symm hg) u⟩
theorem PS.p4 {C : Cx} {w : World} {t : Tk} {r : List Tk} {g : Nat} {a b c d : Value} (h : PS C w t r) (hp : C.lo ≤ g) : PS C ((((w.setCell ⟨g, 0, none⟩ a).setCell ⟨g, 1, none⟩ b).setCell ⟨g, 2, none⟩ c).setCell ⟨g, 3, none⟩ d) t r :=
 (((h.put (p := ⟨g, _, none⟩) hp _).put (p := ⟨g, _, none⟩) hp _).put (p := ⟨g, _, none⟩) hp _).put (p := ⟨g, _, none⟩) hp _
theorem PB.p4 {C : Cx} {w : World} {g : Nat} {a b c d : Value} (h : PB C w) (hg : g ≠ C.gp) : PB C ((((w.setCell ⟨g, 0, none⟩ a).setCell ⟨g, 1, none⟩ b).setCell ⟨g, 2, none⟩ c).setCell ⟨g, 3, none⟩ d) :=
 (((h.put hg _ _).put hg _ _).put hg _ _).put hg _ _
theorem tkb {C : Cx} {w w1 w2 : World} {gt : Nat} {t : Tk} {r : List Tk} (ok : C.Ok) (hB : FrC C w w1) (hP : PS C w1 t r) (hg : gt = w1.heap.size) (hbox : w2.heap[gt]? = some (.cells #[.int .i64 0, .int .i64 0, .int .i64 0, .string ⟨#[]⟩] 63 (0, 0))) (hb : Below w1.heap.size w1 w2) : Aside0 (FrC C w w2) ∧ Aside0 (w.heap.size ≤ gt) ∧ Aside0 (C.lo ≤ gt) ∧ Aside0 (PS C w2 t r) ∧ Aside0 (w2.heap[gt]? = some (.cells #[.int .i64 0, .int .i64 0, .int .i64 0, .string ⟨#[]⟩] 63 (0, 0))) ∧ Aside0 (gt ≠ C.gp ∧ gt ≠ C.gc) ∧ w2.cell? ⟨gt, 0, none⟩ = some (.int .i64 0) ∧ w2.cell? ⟨gt, 1, none⟩ = some (.int .i64 0) ∧ w2.cell? ⟨gt, 2, none⟩ = some (.int .i64 0) ∧ w2.cell? ⟨gt, 3, none⟩ = some (.string ⟨#[]⟩) ∧ w2.frozen? ⟨gt, 0, none⟩ = false ∧ w2.frozen? ⟨gt, 1, none⟩ = false ∧ w2.frozen? ⟨gt, 2, none⟩ = false ∧ w2.frozen? ⟨gt, 3, none⟩ = false :=
 ⟨mkA (hB.step hb), mkA (by rw [hg]; exact hB.size), mkA (by rw [hg]; exact hP.lo), mkA (hP.below hb), mkA hbox, mkA (by have := ok.pl; have := ok.cp; have := hP.lo; omega), tkz hbox⟩
theorem tk3 {C : Cx} {w w2 : World} {gt : Nat} {t : Tk} {r : List Tk} (h1 : FrC C w w2) (h2 : w.heap.size ≤ gt) (h3 : w2.heap[gt]? = some (.cells #[.int .i64 0, .int .i64 0, .int .i64 0, .string ⟨#[]⟩] 63 (0, 0))) (h4 : PS C w2 t r) (h5 : C.lo ≤ gt) : ∃ w3, w3 = (((w2.setCell ⟨gt, 0, none⟩ (.int .i64 t.k)).setCell ⟨gt, 1, none⟩ (.int .i64 t.a)).setCell ⟨gt, 2, none⟩ (.int .i64 t.z)).setCell ⟨gt, 3, none⟩ (.string t.v) ∧ Aside0 (FrC C w w3) ∧ Aside0 (w3.heap[gt]? = some (.cells #[.int .i64 t.k, .int .i64 t.a, .int .i64 t.z, .string t.v] 63 (0, 0))) ∧ Aside0 (PS C w3 t r) ∧ w3.cell? ⟨gt, 0, none⟩ = some (.int .i64 t.k) ∧ w3.cell? ⟨gt, 1, none⟩ = some (.int .i64 t.a) ∧ w3.cell? ⟨gt, 2, none⟩ = some (.int .i64 t.z) ∧ w3.cell? ⟨gt, 3, none⟩ = some (.string t.v) :=
 ⟨_, rfl, mkA (h1.p4 (.inr (.inr h2))), mkA (tkp h3), mkA (h4.p4 h5), tks (tkp h3)⟩
theorem PS.put4 {C : Cx} {w w4 : World} {t : Tk} {r : List Tk} (h : PS C w t r) {g : Nat} (hp : C.lo ≤ g) {a b c d : Value} (hw : w4 = (((w.setCell ⟨g, 0, none⟩ a).setCell ⟨g, 1, none⟩ b).setCell ⟨g, 2, none⟩ c).setCell ⟨g, 3, none⟩ d) : PS C w4 t r := by
 rw [hw]
 exact (((h.put (p := ⟨g, 0, none⟩) hp a).put (p := ⟨g, 1, none⟩) hp b).put (p := ⟨g, 2, none⟩) hp c).put (p := ⟨g, 3, none⟩) hp d
abbrev tokV (t : Tk) : Value := .agg #[.int .i64 t.k, .int .i64 t.a, .int .i64 t.z, .string t.v]
set_option maxHeartbeats 4000000 in
set_option maxRecDepth 100000 in
theorem expect_yes {C : Cx} {w : World} {t : Tk} {r : List Tk} (h : PS C w t r) (k : Int) (hk : (t.k == k) = true) (h1 : t.k ≠ 1) : Calls Tryz.prog 79 #[ptr C.gp, .int .i64 k] w (AdvB C w (tokV t) r) := by
 have HP := mkA h
 have H1 := mkA h1
 clear h h1
 go_enter Tryz.func79, Tryz.ntmps79
 go_upto_region 3 with (first
  | ((with_reducible refine gate_dst (N := 4) rfl ?_); refine box_event ?hg (N := 4) ?hd (cs := #[.int .i64 0, .int .i64 0, .int .i64 0, .string ⟨#[]⟩]) (t := 63) ?hr ?_; (case hd => rfl); (case hg => rfl); (case hr => first | (go_simp; done) | (go_simp; rfl)); intro gb hg w2 hbox hb; have HB := mkA (Fr.of (x := C.gp) (y := C.gc) hb); have GE := mkA (Nat.le_of_eq hg.symm); have BK := mkA hbox; have GB2 := mkA (show C.lo ≤ gb by rw [hg]; exact HP.out.lo); have n0_ := mkA (HP.out.below hb); clear HP; have HP := n0_; clear n0_ hb hbox hg; obtain ⟨-, d5, d6, d7, d8⟩ := HP.out.cells)
  | ((with_reducible refine gate_dst (N := 6) rfl ?_); refine box_event ?hg (N := 6) ?hd (cs := #[.int .i64 0, .int .i64 0, .int .i64 0, .string ⟨#[]⟩]) (t := 63) ?hr ?_; (case hd => rfl); (case hg => rfl); (case hr => first | (go_simp; done) | (go_simp; rfl)); intro gt hg w3 hbox hb; have n0_ := mkA (HB.out.step hb); have GT := mkA ((by rw [hg]; exact HB.out.size : w.heap.size ≤ gt)); have GT2 := mkA (show C.lo ≤ gt by rw [hg]; exact HP.out.lo); have NE := mkA ((by rw [hg]; exact Nat.ne_of_lt (blk_lt BK.out)) : gb ≠ gt); have n1_ := mkA (blk_below BK.out hb); have n2_ := mkA (HP.out.below hb); clear HB BK HP; have HB := n0_; have BK := n1_; have HP := n2_; have BT := mkA hbox; clear n0_ n1_ n2_ hb hbox hg d5 d6 d7 d8; have hne1 := NE.out; have hne2 : gt ≠ gb := fun e => NE.out e.symm; obtain ⟨tz0, tz1, tz2, tz3, tf0, tf1, tf2, tf3⟩ := tkz BT.out; obtain ⟨bz0, bz1, bz2, bz3, bf0, bf1, bf2, bf3⟩ := tkz BK.out))
 obtain ⟨w4, hw4⟩ : ∃ w4, w4 = (((w3.setCell ⟨gt, 0, none⟩ (.int .i64 t.k)).setCell ⟨gt, 1, none⟩ (.int .i64 t.a)).setCell ⟨gt, 2, none⟩ (.int .i64 t.z)).setCell ⟨gt, 3, none⟩ (.string t.v) := ⟨_, rfl⟩
 have n0_ := mkA ((((HB.out.put (p := ⟨gt, 0, none⟩) (.inr (.inr GT.out)) (.int .i64 t.k)).put (p := ⟨gt, 1, none⟩) (.inr (.inr GT.out)) (.int .i64 t.a)).put (p := ⟨gt, 2, none⟩) (.inr (.inr GT.out)) (.int .i64 t.z)).put (p := ⟨gt, 3, none⟩) (.inr (.inr GT.out)) (.string t.v))
 have n1_ := mkA (show (((( w3.setCell ⟨gt, 0, none⟩ (.int .i64 t.k)).setCell ⟨gt, 1, none⟩ (.int .i64 t.a)).setCell ⟨gt, 2, none⟩ (.int .i64 t.z)).setCell ⟨gt, 3, none⟩ (.string t.v)).heap[gt]? = some (.cells #[.int .i64 t.k, .int .i64 t.a, .int .i64 t.z, .string t.v] 63 (0, 0)) by exact tkp BT.out)
 have n2_ := mkA (show (((( w3.setCell ⟨gt, 0, none⟩ (.int .i64 t.k)).setCell ⟨gt, 1, none⟩ (.int .i64 t.a)).setCell ⟨gt, 2, none⟩ (.int .i64 t.z)).setCell ⟨gt, 3, none⟩ (.string t.v)).heap[gb]? = some (.cells #[.int .i64 0, .int .i64 0, .int .i64 0, .string ⟨#[]⟩] 63 (0, 0)) by refine blk_far ?_ NE.out _; refine blk_far ?_ NE.out _; refine blk_far ?_ NE.out _; refine blk_far ?_ NE.out _; exact BK.out)
 rw [← hw4] at n0_ n1_ n2_ ⊢
 have n3_ := mkA (PS.put4 HP.out GT2.out hw4)
 clear HB BT BK HP hw4 tz0 tz1 tz2 tz3 tf0 tf1 tf2 tf3 bz0 bz1 bz2 bz3 bf0 bf1 bf2 bf3
 have HB := n0_; have BT := n1_; have BK := n2_; have HP := n3_
 clear n0_ n1_ n2_ n3_
 have NP := mkA (show gt ≠ C.gp ∧ gt ≠ C.gc ∧ gb ≠ C.gp ∧ gb ≠ C.gc from by have := HP.out.ok.cp; have := HP.out.ok.pl; have := GT2.out; have := GB2.out; omega)
 have BT' := BT.out
 obtain ⟨x0, x1, x2, x3⟩ := tks BT.out
 clear BT'
 have CA := mkA (fun (W : World) (hW : Below w4.heap.size w4 W) => (show Calls Tryz.prog 100 #[ptr C.gp] W (AdvP C w4 r) from (advance_walk (HP.out.below hW) H1.out).mono fun e w' q => ⟨(Fr.of hW).trans q.1, q.2⟩))
 cases r with
 | nil =>
   go_region_with (first | (go_at_call 100; refine (CA.out _ ?_).mono ?_; (first | exact below_drew1 (Below.refl _ _) | exact Below.refl _ _); rintro e w5 ⟨hF, hQ, te, x, rfl⟩; have HF := mkA hF; have HQ := mkA hQ; have BK5 := mkA (hF.blk BK.out NP.out.2.2.1 NP.out.2.2.2); have BT5 := mkA (hF.blk BT.out NP.out.1 NP.out.2.1); clear hF hQ; obtain ⟨bz0, bz1, bz2, bz3, bf0, bf1, bf2, bf3⟩ := tkz BK5.out; obtain ⟨y0, y1, y2, y3⟩ := tks BT5.out))
   all_goals (try go_wp2)
   all_goals
    refine bodyPost_ret (results_ct rfl _ _ gb 63 #[.int .i64 t.k, .int .i64 t.a, .int .i64 t.z, .string t.v] (0, 0) _ rfl (by exact tkp BK5.out) Tryz.underlying63 rfl (by kernel_rfl)) rfl ?_
    exact ⟨((((HB.out.trans HF.out).put (p := ⟨gb, _, none⟩) (.inr (.inr GE.out)) _).put (p := ⟨gb, _, none⟩) (.inr (.inr GE.out)) _).put (p := ⟨gb, _, none⟩) (.inr (.inr GE.out)) _).put (p := ⟨gb, _, none⟩) (.inr (.inr GE.out)) _, (((HQ.out.put NP.out.2.2.1 _ _).put NP.out.2.2.1 _ _).put NP.out.2.2.1 _ _).put NP.out.2.2.1 _ _, te, x, rfl⟩
 | cons u r =>
   go_region_with (first | (go_at_call 100; refine (CA.out _ ?_).mono ?_; (first | exact below_drew1 (Below.refl _ _) | exact Below.refl _ _); rintro e w5 ⟨hF, hQ, rfl⟩; have HF := mkA hF; have HQ := mkA hQ; have BK5 := mkA (hF.blk BK.out NP.out.2.2.1 NP.out.2.2.2); have BT5 := mkA (hF.blk BT.out NP.out.1 NP.out.2.1); clear hF hQ; obtain ⟨bz0, bz1, bz2, bz3, bf0, bf1, bf2, bf3⟩ := tkz BK5.out; obtain ⟨y0, y1, y2, y3⟩ := tks BT5.out))
   all_goals (try go_wp2)
   all_goals
    refine bodyPost_ret (results_ct rfl _ _ gb 63 #[.int .i64 t.k, .int .i64 t.a, .int .i64 t.z, .string t.v] (0, 0) _ rfl (by exact tkp BK5.out) Tryz.underlying63 rfl (by kernel_rfl)) rfl ?_
    exact ⟨((((HB.out.trans HF.out).put (p := ⟨gb, _, none⟩) (.inr (.inr GE.out)) _).put (p := ⟨gb, _, none⟩) (.inr (.inr GE.out)) _).put (p := ⟨gb, _, none⟩) (.inr (.inr GE.out)) _).put (p := ⟨gb, _, none⟩) (.inr (.inr GE.out)) _, (((HQ.out.put (p := ⟨gb, _, none⟩) GB2.out _).put (p := ⟨gb, _, none⟩) GB2.out _).put (p := ⟨gb, _, none⟩) GB2.out _).put (p := ⟨gb, _, none⟩) GB2.out _, rfl⟩
set_option maxHeartbeats 4000000 in
set_option maxRecDepth 100000 in
theorem expect_no {C : Cx} {w : World} {t : Tk} {r : List Tk} (h : PS C w t r) (k : Int) (hk : (t.k == k) = false) : Calls Tryz.prog 79 #[ptr C.gp, .int .i64 k] w fun e w' => FrC C w w' ∧ PB C w' ∧ ∃ (te : TypeId) (x : Value), e = .returned (.tuple #[tokV t, .iface te x]) := by
 have HP := mkA h
 clear h
 go_enter Tryz.func79, Tryz.ntmps79
 go_upto_region 5 with (first
  | ((with_reducible refine gate_dst (N := 4) rfl ?_); refine box_event ?hg (N := 4) ?hd (cs := #[.int .i64 0, .int .i64 0, .int .i64 0, .string ⟨#[]⟩]) (t := 63) ?hr ?_; (case hd => rfl); (case hg => rfl); (case hr => first | (go_simp; done) | (go_simp; rfl)); intro gb hg w2 hbox hb; have HB := mkA (Fr.of (x := C.gp) (y := C.gc) hb); have GE := mkA (Nat.le_of_eq hg.symm); have BK := mkA hbox; have GB2 := mkA (show C.lo ≤ gb by rw [hg]; exact HP.out.lo); have n0_ := mkA (HP.out.below hb); clear HP; have HP := n0_; clear n0_ hb hbox hg; obtain ⟨-, d5, d6, d7, d8⟩ := HP.out.cells)
  | ((with_reducible refine gate_dst (N := 6) rfl ?_); refine box_event ?hg (N := 6) ?hd (cs := #[.int .i64 0, .int .i64 0, .int .i64 0, .string ⟨#[]⟩]) (t := 63) ?hr ?_; (case hd => rfl); (case hg => rfl); (case hr => first | (go_simp; done) | (go_simp; rfl)); intro gt hg w3 hbox hb; have n0_ := mkA (HB.out.step hb); have GT := mkA ((by rw [hg]; exact HB.out.size : w.heap.size ≤ gt)); have GT2 := mkA (show C.lo ≤ gt by rw [hg]; exact HP.out.lo); have NE := mkA ((by rw [hg]; exact Nat.ne_of_lt (blk_lt BK.out)) : gb ≠ gt); have n1_ := mkA (blk_below BK.out hb); have n2_ := mkA (HP.out.below hb); clear HB BK HP; have HB := n0_; have BK := n1_; have HP := n2_; have BT := mkA hbox; clear n0_ n1_ n2_ hb hbox hg d5 d6 d7 d8; have hne1 := NE.out; have hne2 : gt ≠ gb := fun e => NE.out e.symm; obtain ⟨tz0, tz1, tz2, tz3, tf0, tf1, tf2, tf3⟩ := tkz BT.out; obtain ⟨bz0, bz1, bz2, bz3, bf0, bf1, bf2, bf3⟩ := tkz BK.out))
 obtain ⟨w4, hw4⟩ : ∃ w4, w4 = (((w3.setCell ⟨gt, 0, none⟩ (.int .i64 t.k)).setCell ⟨gt, 1, none⟩ (.int .i64 t.a)).setCell ⟨gt, 2, none⟩ (.int .i64 t.z)).setCell ⟨gt, 3, none⟩ (.string t.v) := ⟨_, rfl⟩
 have n0_ := mkA ((((HB.out.put (p := ⟨gt, 0, none⟩) (.inr (.inr GT.out)) (.int .i64 t.k)).put (p := ⟨gt, 1, none⟩) (.inr (.inr GT.out)) (.int .i64 t.a)).put (p := ⟨gt, 2, none⟩) (.inr (.inr GT.out)) (.int .i64 t.z)).put (p := ⟨gt, 3, none⟩) (.inr (.inr GT.out)) (.string t.v))
 have n1_ := mkA (show (((( w3.setCell ⟨gt, 0, none⟩ (.int .i64 t.k)).setCell ⟨gt, 1, none⟩ (.int .i64 t.a)).setCell ⟨gt, 2, none⟩ (.int .i64 t.z)).setCell ⟨gt, 3, none⟩ (.string t.v)).heap[gt]? = some (.cells #[.int .i64 t.k, .int .i64 t.a, .int .i64 t.z, .string t.v] 63 (0, 0)) by exact tkp BT.out)
 have n2_ := mkA (show (((( w3.setCell ⟨gt, 0, none⟩ (.int .i64 t.k)).setCell ⟨gt, 1, none⟩ (.int .i64 t.a)).setCell ⟨gt, 2, none⟩ (.int .i64 t.z)).setCell ⟨gt, 3, none⟩ (.string t.v)).heap[gb]? = some (.cells #[.int .i64 0, .int .i64 0, .int .i64 0, .string ⟨#[]⟩] 63 (0, 0)) by refine blk_far ?_ NE.out _; refine blk_far ?_ NE.out _; refine blk_far ?_ NE.out _; refine blk_far ?_ NE.out _; exact BK.out)
 rw [← hw4] at n0_ n1_ n2_ ⊢
 have n3_ := mkA (PS.put4 HP.out GT2.out hw4)
 clear HB BT BK HP hw4 tz0 tz1 tz2 tz3 tf0 tf1 tf2 tf3 bz0 bz1 bz2 bz3 bf0 bf1 bf2 bf3
 have HB := n0_; have BT := n1_; have BK := n2_; have HP := n3_
 clear n0_ n1_ n2_ n3_
 have NP := mkA (show gt ≠ C.gp ∧ gt ≠ C.gc ∧ gb ≠ C.gp ∧ gb ≠ C.gc from by have := HP.out.ok.cp; have := HP.out.ok.pl; have := GT2.out; have := GB2.out; omega)
 have BT' := BT.out
 obtain ⟨x0, x1, x2, x3⟩ := tks BT.out
 clear BT'
 obtain ⟨i, hi, hi2⟩ := HP.out.pla
 have c1 := HP.out.cells.1
 have CE := mkA (fun (W : World) (hW : Below w4.heap.size w4 W) (m : ByteArray) => (show Calls Tryz.prog 101 #[ptr C.g, .int .i64 t.a, .string m] W fun e w' => (∃ gq : Nat, e = .returned (ptr gq)) ∧ Below w4.heap.size w4 w' from by rw [hi]; exact (synErr_walk (HP.out.below hW).src i hi2 m).mono fun e w' q => ⟨q.1, below_step hW q.2⟩))
 clear hi hi2
 go_region_with (first | (go_at_call 101; refine (CE.out _ ?_ _).mono ?_; (first | exact below_drew1 (Below.refl _ _) | exact Below.refl _ _); rintro e w5 ⟨⟨gq, rfl⟩, hB⟩; have HF := mkA hB; have BK5 := mkA (blk_below BK.out hB); have BT5 := mkA (blk_below BT.out hB); clear hB; obtain ⟨bz0, bz1, bz2, bz3, bf0, bf1, bf2, bf3⟩ := tkz BK5.out; obtain ⟨y0, y1, y2, y3⟩ := tks BT5.out))
 all_goals (try go_wp2)
 all_goals
  refine bodyPost_ret (results_ct rfl _ _ gb 63 #[.int .i64 t.k, .int .i64 t.a, .int .i64 t.z, .string t.v] (0, 0) _ rfl (by exact tkp BK5.out) Tryz.underlying63 rfl (by kernel_rfl)) rfl ?_
  exact ⟨((((HB.out.step HF.out).put (p := ⟨gb, _, none⟩) (.inr (.inr GE.out)) _).put (p := ⟨gb, _, none⟩) (.inr (.inr GE.out)) _).put (p := ⟨gb, _, none⟩) (.inr (.inr GE.out)) _).put (p := ⟨gb, _, none⟩) (.inr (.inr GE.out)) _, ((((HP.out.below HF.out).pb.put NP.out.2.2.1 _ _).put NP.out.2.2.1 _ _).put NP.out.2.2.1 _ _).put NP.out.2.2.1 _ _, _, _, rfl⟩
set_option maxHeartbeats 4000000 in
set_option maxRecDepth 100000 in
theorem unexp_walk {C : Cx} {w : World} {t : Tk} {r : List Tk} (h : PS C w t r) : Calls Tryz.prog 114 #[ptr C.gp, .agg #[.int .i64 0, .int .i64 0, .int .i64 0, .string ⟨#[]⟩]] w fun e w' => (∃ (te : TypeId) (x : Value), e = .returned (.iface te x)) ∧ Below w.heap.size w w' := by
 have HP0 := mkA h
 have HP := mkA h
 clear h
 go_enter Tryz.func114, Tryz.ntmps114
 go_upto_region 5 with (first
  | ((with_reducible refine gate_dst (N := 3) rfl ?_); refine box_event ?hg (N := 3) ?hd (cs := #[.int .i64 0, .int .i64 0, .int .i64 0, .string ⟨#[]⟩]) (t := 63) ?hr ?_; (case hd => rfl); (case hg => rfl); (case hr => first | (go_simp; done) | (go_simp; rfl)); intro ga hg w2 hbox hb; have HB := mkA hb; have n0_ := mkA (HP.out.below hb); clear HP; have HP := n0_; have BA := mkA hbox; have GA := mkA (show C.lo ≤ ga by rw [hg]; exact HP0.out.lo); clear n0_ hb hbox hg; obtain ⟨az0, az1, az2, az3, af0, af1, af2, af3⟩ := tkz BA.out)
  | ((with_reducible refine gate_dst (N := 5) rfl ?_); refine box_event ?hg (N := 5) ?hd (cs := #[.int .i64 0, .int .i64 0, .int .i64 0, .string ⟨#[]⟩]) (t := 63) ?hr ?_; (case hd => rfl); (case hg => rfl); (case hr => first | (go_simp; done) | (go_simp; rfl)); intro gt hg w3 hbox hb; have n0_ := mkA (below_step HB.out hb); have GT := mkA ((by rw [hg]; exact below_size HB.out : w.heap.size ≤ gt)); have GT2 := mkA (show C.lo ≤ gt by rw [hg]; exact HP.out.lo); have NE := mkA ((by rw [hg]; exact Nat.ne_of_lt (blk_lt BA.out)) : ga ≠ gt); have n1_ := mkA (blk_below BA.out hb); have n2_ := mkA (HP.out.below hb); clear HB BA HP az0 az1 az2 az3; have HB := n0_; have BA := n1_; have HP := n2_; have BT := mkA hbox; clear n0_ n1_ n2_ hb hbox hg; have hne1 := NE.out; have hne2 : gt ≠ ga := fun e => NE.out e.symm; have hne3 := (show gt ≠ C.gp from by have := HP.out.ok.pl; have := GT2.out; omega); have hne4 : C.gp ≠ gt := fun e => hne3 e.symm; obtain ⟨d1, d5, d6, d7, d8⟩ := HP.out.cells; obtain ⟨tz0, tz1, tz2, tz3, tf0, tf1, tf2, tf3⟩ := tkz BT.out; obtain ⟨az0, az1, az2, az3, af0, af1, af2, af3⟩ := tkz BA.out))
 obtain ⟨w4, hw4⟩ : ∃ w4, w4 = ((((((((w3).setCell ⟨gt, 0, none⟩ (.int .i64 0)).setCell ⟨gt, 1, none⟩ (.int .i64 0)).setCell ⟨gt, 2, none⟩ (.int .i64 0)).setCell ⟨gt, 3, none⟩ (.string ⟨#[]⟩)).setCell ⟨gt, 0, none⟩ (.int .i64 t.k)).setCell ⟨gt, 1, none⟩ (.int .i64 t.a)).setCell ⟨gt, 2, none⟩ (.int .i64 t.z)).setCell ⟨gt, 3, none⟩ (.string t.v) := ⟨_, rfl⟩
 have n3_ := mkA (show PS C w4 t r by rw [hw4]; exact ((((((((HP.out).put (p := ⟨gt, 0, none⟩) GT2.out _).put (p := ⟨gt, 1, none⟩) GT2.out _).put (p := ⟨gt, 2, none⟩) GT2.out _).put (p := ⟨gt, 3, none⟩) GT2.out _).put (p := ⟨gt, 0, none⟩) GT2.out _).put (p := ⟨gt, 1, none⟩) GT2.out _).put (p := ⟨gt, 2, none⟩) GT2.out _).put (p := ⟨gt, 3, none⟩) GT2.out _)
 have n0_ := mkA (show Below w.heap.size w w4 by rw [hw4]; exact below_set (below_set (below_set (below_set (below_set (below_set (below_set (below_set (HB.out) GT.out) GT.out) GT.out) GT.out) GT.out) GT.out) GT.out) GT.out)
 have x1 : w4.cell? ⟨gt, 1, none⟩ = some (.int .i64 t.a) := (blk_cell (show w4.heap[gt]? = some (.cells #[.int .i64 t.k, .int .i64 t.a, .int .i64 t.z, .string t.v] 63 (0, 0)) by rw [hw4]; refine blk_put (cs := #[.int .i64 t.k, .int .i64 t.a, .int .i64 t.z, .string ⟨#[]⟩]) ?_ 3 _ rfl; refine blk_put (cs := #[.int .i64 t.k, .int .i64 t.a, .int .i64 0, .string ⟨#[]⟩]) ?_ 2 _ rfl; refine blk_put (cs := #[.int .i64 t.k, .int .i64 0, .int .i64 0, .string ⟨#[]⟩]) ?_ 1 _ rfl; refine blk_put (cs := #[.int .i64 0, .int .i64 0, .int .i64 0, .string ⟨#[]⟩]) ?_ 0 _ rfl; exact tkp BT.out) 1).trans rfl
 rw [← hw4]
 clear HB HP hw4 tz0 tz1 tz2 tz3 tf0 tf1 tf2 tf3 az0 az1 az2 az3 d1 d5 d6 d7 d8
 have HB := n0_; have HP := n3_
 clear n0_ n3_
 obtain ⟨i, hi, hi2⟩ := HP.out.pla
 have c1 := HP.out.cells.1
 have CE := mkA (fun (W : World) (hW : Below w4.heap.size w4 W) (m : ByteArray) => (show Calls Tryz.prog 101 #[ptr C.g, .int .i64 t.a, .string m] W fun e w' => (∃ gq : Nat, e = .returned (ptr gq)) ∧ Below w4.heap.size w4 w' from by rw [hi]; exact (synErr_walk (HP.out.below hW).src i hi2 m).mono fun e w' q => ⟨q.1, below_step hW q.2⟩))
 clear hi hi2
 go_region_with (first | (go_at_call 101; refine (CE.out _ ?_ _).mono ?_; (first | exact below_drew1 (Below.refl _ _) | exact Below.refl _ _); rintro e w5 ⟨⟨gq, rfl⟩, hB⟩; have HF := mkA hB; clear hB))
 all_goals (try go_wp2)
 all_goals go_ret
 all_goals exact ⟨⟨_, _, rfl⟩, below_step HB.out HF.out⟩
end Go.Proofs.YthgcghpcikbnkaaGreatDoor.R
