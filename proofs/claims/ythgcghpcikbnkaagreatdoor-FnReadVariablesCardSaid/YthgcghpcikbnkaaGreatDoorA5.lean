/- A part of the proof of the theorem of this claim: Smm, Smn, Wid, Dec, Run. No condition of its own. -/
import Derived.StillTailTactics
import Derived.Laws.RangeAny
import Derived.Lib.DecodeN
import Derived.Shelf.Unicode.DecodeSlow
import Derived.Shelf.Spec.DecodeRune
import Derived.Shelf.Spec.NilArms
import Derived.Test.YthgcghpcikbnkaaGreatDoorA3
import Derived.Test.YthgcghpcikbnkaaGreatDoorA4
set_option maxHeartbeats 16000000
set_option maxRecDepth 100000
namespace Go.Proofs.YthgcghpcikbnkaaGreatDoor.R
open Go.RowKit Go.Proofs.YthgcghpcikbnkaaGreatDoorW.PrintWords Go.Proofs.YthgcghpcikbnkaaGreatDoorW.PrintLast Go.Proofs.YthgcghpcikbnkaaGreatDoorW.PrintMore
set_option linter.unusedVariables false
set_option linter.unusedSimpArgs false
structure SC where
 gp : Nat
 A : Option Addr
 cp : Nat
 L : List Tk
def tv (t : Tk) : List Value := [.int .i64 t.k, .string t.v, .int .i64 t.a, .int .i64 t.z]
def tflat (l : List Tk) : List Value := l.flatMap tv
theorem tflat_at (l : List Tk) (i : Nat) (h : i < l.length) (j : Nat) (hj : j < 4) : (tflat l)[i * 4 + j]? = (tv l[i])[j]? := by
 induction l generalizing i with
 | nil => cases h
 | cons x r ih =>
   cases i with
   | zero =>
     show (tv x ++ tflat r)[0 * 4 + j]? = _
     rw [List.getElem?_append_left (by simp [tv]; omega)]
     rw [Nat.zero_mul, Nat.zero_add]; rfl
   | succ i =>
     show (tv x ++ tflat r)[(i + 1) * 4 + j]? = _
     rw [List.getElem?_append_right (by simp [tv]; omega), show (i + 1) * 4 + j - (tv x).length = i * 4 + j from by simp [tv]; omega]
     exact ih i (by simpa using h)
structure SP (C : SC) (w : World) (s : St) : Prop where
 cell : ∃ wr : Int, w.heap[C.gp]? = some (.cells #[.slice C.A C.L.length C.cp, .int .i64 s.a, .int .i64 s.d, .int .i64 wr, .bool s.bad, .bool s.un] 49 (0, 0))
 own : w.ownsRow 0 53 4 (.slice C.A C.L.length C.cp) C.L.length (tflat C.L)
 le : s.a ≤ C.L.length
 big : C.L.length ≤ 1000000
theorem SP.below {C : SC} {w w' : World} {s : St} (h : SP C w s) (hb : Below w.heap.size w w') : SP C w' s :=
 ⟨h.cell.imp fun _ x => blk_below x hb, own_typ h.own (fun g cs x => blk_below x hb), h.le, h.big⟩
theorem SP.drewN {C : SC} {w : World} {s : St} (h : SP C w s) (n : Nat) : SP C (w.drewN n) s := ⟨h.cell, h.own, h.le, h.big⟩
theorem SP.tok {C : SC} {w : World} {s : St} (h : SP C w s) (hl : s.a < C.L.length) : ∃ g : Nat, C.A = some ⟨g, 0, none⟩ ∧ w.cell? ⟨g, s.a * 4, none⟩ = some (.int .i64 (kd C.L s)) ∧ w.cell? ⟨g, s.a * 4 + 1, none⟩ = some (.string (vl C.L s)) ∧ w.cell? ⟨g, s.a * 4 + 2, none⟩ = some (.int .i64 (C.L[s.a]).a) ∧ w.cell? ⟨g, s.a * 4 + 3, none⟩ = some (.int .i64 (C.L[s.a]).z) := by
 have ho := h.own
 rcases ho.2 with ⟨_, e⟩ | ⟨g, cap, cur, e, _, hg, _⟩
 ·omega
 ·injection e with e1 e2 e3
  refine ⟨g, e1, ?_⟩
  have key : ∀ j, j < 4 → ∀ u, (tv C.L[s.a])[j]? = some u → w.cell? ⟨g, s.a * 4 + j, none⟩ = some u := fun j hj u hu => by
   have h5 := World.ownsRow.cells ho (g := g) (by rw [e1]; rfl) (s.a * 4 + j) u (by rw [tflat_at _ _ hl _ hj]; exact hu)
   rw [show (⟨g, 0, none⟩ : Addr).add (s.a * 4 + j) = ⟨g, s.a * 4 + j, none⟩ from by unfold Addr.add; split <;> simp_all] at h5
   exact h5
  rw [(kd_in hl).1, (kd_in hl).2]
  exact ⟨key 0 (by decide) _ rfl, key 1 (by decide) _ rfl, key 2 (by decide) _ rfl, key 3 (by decide) _ rfl⟩
def Rv (C : SC) (w : World) (v : Value) (s' : St) (e : Ending) (w' : World) : Prop := e = .returned v ∧ SP C w' s' ∧ Fr C.gp C.gp w w'
theorem SP.upd {C : SC} {w w' : World} {s s' : St} (h : SP C w s) (hw : ∃ wr : Int, w'.heap[C.gp]? = some (.cells #[.slice C.A C.L.length C.cp, .int .i64 s'.a, .int .i64 s'.d, .int .i64 wr, .bool s'.bad, .bool s'.un] 49 (0, 0))) (hf : Fr C.gp C.gp w w') (hle : s'.a ≤ C.L.length) : SP C w' s' :=
 ⟨hw, own_typ h.own (fun g cs x => by
  obtain ⟨wr, hc⟩ := h.cell
  have hne := blk_ne x hc (by decide)
  exact hf.blk x hne hne), hle, h.big⟩
theorem bneq {a b : Int} (h : a = b) : (a != b) = false ∧ (a == b) = true := ⟨by rw [h]; exact bne_self_eq_false _, beq_iff_eq.2 h⟩
theorem bnne {a b : Int} (h : a ≠ b) : (a != b) = true ∧ (a == b) = false := ⟨bne_iff_ne.2 h, beq_eq_false_iff_ne.2 h⟩
theorem kind_q {C : SC} {w : World} {s : St} (h : SP C w s) : Calls Tryz.prog 36 #[ptr C.gp, .int .i64 0] w (fun e w' => e = .returned (.int .i64 (kd C.L s)) ∧ ∃ m, w' = w.drewN m) := by
 obtain ⟨wr, hc⟩ := h.cell
 have HP := mkA h
 have c0 : w.cell? ⟨C.gp, 0, none⟩ = some (.slice C.A C.L.length C.cp) := (blk_cell hc 0).trans rfl
 have c1 : w.cell? ⟨C.gp, 1, none⟩ = some (.int .i64 s.a) := (blk_cell hc 1).trans rfl
 have hle := h.le
 have hbig := h.big
 have hw : wrap64 ((s.a : Int) + 0) = (s.a : Int) := (w64 (by omega) (by omega)).trans (by omega)
 have hw2 : IntKind.i64.wrap ((s.a : Int) + 0) = (s.a : Int) := (IntWalk.i64_in _ (by omega)).trans (by omega)
 have hw3 : IntKind.i64.wrap (s.a : Int) = (s.a : Int) := IntWalk.i64_in _ (by omega)
 by_cases hl : s.a < C.L.length
 ·obtain ⟨g, hA, t0, t1, t2, t3⟩ := h.tok hl
  have HA := mkA hA
  rw [hA] at c0
  have q1 : ((C.L.length : Int) ≤ (s.a : Int)) = False := eq_false (by omega)
  have q2 : (C.L.length ≤ s.a) = False := eq_false (by omega)
  have q3 : ((s.a : Int) < (C.L.length : Int)) = True := eq_true (by omega)
  have q4 : decide ((C.L.length : Int) ≤ (s.a : Int)) = false := decide_eq_false (by omega)
  clear h hc hle hbig hA hl t1 t2 t3
  go_enter Tryz.func36, Tryz.ntmps36
  go_upto_region 1 with (fail)
  go_quiet (fail)
  go_upto_region 3 with (fail)
  go_quiet (fail)
  go_wp2
  go_ret
  exact ⟨rfl, by first | exact ⟨_, rfl⟩ | exact ⟨_, World.drewN_drewN _ _ _⟩⟩
 ·have q1 : ((C.L.length : Int) ≤ (s.a : Int)) = True := eq_true (by omega)
  have q2 : (C.L.length ≤ s.a) = True := eq_true (by omega)
  have q4 : decide ((C.L.length : Int) ≤ (s.a : Int)) = true := decide_eq_true (by omega)
  rw [(kd_end (by omega)).1]
  clear h hc hle hbig hl
  go_enter Tryz.func36, Tryz.ntmps36
  go_upto_region 1 with (fail)
  go_quiet (fail)
  go_wp2
  go_ret
  exact ⟨rfl, by first | exact ⟨_, rfl⟩ | exact ⟨_, World.drewN_drewN _ _ _⟩⟩
theorem kind_walk {C : SC} {w : World} {s : St} (h : SP C w s) : Calls Tryz.prog 36 #[ptr C.gp, .int .i64 0] w (Rv C w (.int .i64 (kd C.L s)) s) := (kind_q h).mono fun e w' ⟨q1, m, q2⟩ => ⟨q1, by rw [q2]; exact h.drewN m, by rw [q2]; exact (Fr.refl _ _ _).drewN m⟩
theorem fail_walk {C : SC} {w : World} {s : St} (h : SP C w s) : Calls Tryz.prog 76 #[ptr C.gp] w (Rv C w (.slice none 0 0) s.fail) := by
 obtain ⟨a, d, b, u⟩ := s
 obtain ⟨wr, hc⟩ := h.cell
 have HP := mkA h
 have HC := mkA hc
 have c1 : w.cell? ⟨C.gp, 1, none⟩ = some (.int .i64 a) := (blk_cell hc 1).trans rfl
 have c3 : w.cell? ⟨C.gp, 3, none⟩ = some (.int .i64 wr) := (blk_cell hc 3).trans rfl
 have f3 := blk_frozen hc 3
 have f4 := blk_frozen hc 4
 have c4 : w.cell? ⟨C.gp, 4, none⟩ = some (.bool b) := (blk_cell hc 4).trans rfl
 clear h hc
 cases b
 ·go_enter Tryz.func76, Tryz.ntmps76
  go_wp2
  go_ret
  have hf := ((Fr.refl C.gp C.gp w).put (p := ⟨C.gp, 4, none⟩) (.inl rfl) (.bool true)).put (p := ⟨C.gp, 3, none⟩) (.inl rfl) (.int .i64 a)
  exact ⟨rfl, HP.out.upd ⟨a, blk_put (cs := #[.slice C.A C.L.length C.cp, .int .i64 a, .int .i64 d, .int .i64 wr, .bool true, .bool u]) (blk_put (cs := #[.slice C.A C.L.length C.cp, .int .i64 a, .int .i64 d, .int .i64 wr, .bool false, .bool u]) HC.out 4 _ rfl) 3 _ rfl⟩ hf HP.out.le, hf⟩
 ·go_enter Tryz.func76, Tryz.ntmps76
  go_wp2
  go_ret
  exact ⟨rfl, HP.out, Fr.refl _ _ _⟩
theorem taken_walk {C : SC} {w : World} {s : St} (h : SP C w s) (k : Int) (hk1 : k ≠ 1) : Calls Tryz.prog 37 #[ptr C.gp, .int .i64 k] w (Rv C w (.bool (takenF C.L k s).1) (takenF C.L k s).2) := by
 obtain ⟨a, d, b, u⟩ := s
 obtain ⟨wr, hc⟩ := h.cell
 have HP := mkA h
 have c4 : w.cell? ⟨C.gp, 4, none⟩ = some (.bool b) := (blk_cell hc 4).trans rfl
 cases b
 ·by_cases hk : kd C.L ⟨a, d, false, u⟩ = k
  ·have hlt : a < C.L.length := kd_lt (s := ⟨a, d, false, u⟩) (by rw [hk]; exact hk1)
   have hbig := h.big
   have hr : takenF C.L k ⟨a, d, false, u⟩ = (true, ⟨a + 1, d, false, u⟩) := by unfold takenF; rw [if_pos ⟨rfl, hk⟩]; rfl
   rw [hr]
   have HW := mkA (show wrap64 ((a : Int) + 1) = ((a + 1 : Nat) : Int) from (w64 (by omega) (by omega)).trans (by omega))
   have HLT := mkA hlt
   have qk := (bneq hk).1
   have qk2 := (bneq hk).2
   clear h hc hk hr hlt hbig
   go_enter Tryz.func37, Tryz.ntmps37
   go_wp2_with (first
    | (go_at_call 36; (with_reducible refine (kind_walk HP.out).mono ?_); rintro e w2 ⟨rfl, hP, hF⟩; obtain ⟨wr2, hc2⟩ := hP.cell; have HP2 := mkA hP; have HF2 := mkA hF; have HC2 := mkA hc2; have c1 : w2.cell? ⟨C.gp, 1, none⟩ = some (.int .i64 a) := (blk_cell hc2 1).trans rfl; have f1 := blk_frozen hc2 1; clear hP hF hc2))
   go_ret
   have hf := (HF2.out).put (p := ⟨C.gp, 1, none⟩) (.inl rfl) (.int .i64 (wrap64 ((a : Int) + 1)))
   exact ⟨rfl, HP.out.upd ⟨wr2, by rw [← HW.out]; exact blk_put (cs := #[.slice C.A C.L.length C.cp, .int .i64 a, .int .i64 d, .int .i64 wr2, .bool false, .bool u]) HC2.out 1 _ rfl⟩ hf HLT.out, hf⟩
  ·have hr : takenF C.L k ⟨a, d, false, u⟩ = (false, ⟨a, d, false, u⟩) := by unfold takenF; rw [if_neg (fun h => hk h.2)]
   rw [hr]
   have qk := (bnne hk).1
   have qk2 := (bnne hk).2
   clear h hc hk hr
   go_enter Tryz.func37, Tryz.ntmps37
   go_wp2_with (first
    | (go_at_call 36; (with_reducible refine (kind_walk HP.out).mono ?_); rintro e w2 ⟨rfl, hP, hF⟩; have HP2 := mkA hP; have HF2 := mkA hF; clear hP hF))
   go_ret
   exact ⟨rfl, HP2.out, HF2.out⟩
 ·have hr : takenF C.L k ⟨a, d, true, u⟩ = (false, ⟨a, d, true, u⟩) := by unfold takenF; rw [if_neg (fun h => by cases h.1)]
  rw [hr]
  clear h hc hr
  go_enter Tryz.func37, Tryz.ntmps37
  go_wp2
  go_ret
  exact ⟨rfl, HP.out, Fr.refl _ _ _⟩
theorem must_walk {C : SC} {w : World} {s : St} (h : SP C w s) (k : Int) (hk1 : k ≠ 1) : Calls Tryz.prog 39 #[ptr C.gp, .int .i64 k] w (Rv C w (.tuple #[]) (mustF C.L k s)) := by
 have CT := mkA (taken_walk h k hk1)
 by_cases hc : s.bad = false ∧ kd C.L s = k
 ·have e1 : takenF C.L k s = (true, s.nx) := if_pos hc
  have e2 : mustF C.L k s = s.nx := if_pos hc
  rw [e1] at CT
  rw [e2]
  clear h hc e1 e2
  go_enter Tryz.func39, Tryz.ntmps39
  go_wp2_with (first
   | (go_at_call 37; (with_reducible refine CT.out.mono ?_); rintro e w2 ⟨rfl, hP, hF⟩; have HP2 := mkA hP; have HF2 := mkA hF; clear hP hF))
  go_end0
  exact ⟨rfl, HP2.out, HF2.out⟩
 ·have e1 : takenF C.L k s = (false, s) := if_neg hc
  have e2 : mustF C.L k s = s.fail := if_neg hc
  rw [e1] at CT
  rw [e2]
  clear h hc e1 e2
  go_enter Tryz.func39, Tryz.ntmps39
  go_wp2_with (first
   | (go_at_call 37; (with_reducible refine CT.out.mono ?_); rintro e w2 ⟨rfl, hP, hF⟩; have HP2 := mkA hP; have HF2 := mkA hF; clear hP hF)
   | (go_at_call 76; (with_reducible refine (fail_walk HP2.out).mono ?_); rintro e w3 ⟨rfl, hP, hF⟩; have HP3 := mkA hP; have HF3 := mkA (HF2.out.trans hF); clear hP hF))
  go_end0
  exact ⟨rfl, HP3.out, HF3.out⟩
theorem name_walk {C : SC} {w : World} {s : St} (h : SP C w s) : Calls Tryz.prog 40 #[ptr C.gp] w (Rv C w (.string (nameF C.L s).1) (nameF C.L s).2) := by
 obtain ⟨a, d, b, u⟩ := s
 obtain ⟨wr, hc⟩ := h.cell
 have HP := mkA h
 have c4 : w.cell? ⟨C.gp, 4, none⟩ = some (.bool b) := (blk_cell hc 4).trans rfl
 cases b
 ·by_cases hk : kd C.L ⟨a, d, false, u⟩ = 15
  ·have hlt : a < C.L.length := kd_lt (s := ⟨a, d, false, u⟩) (by rw [hk]; decide)
   have hbig := h.big
   have hr : nameF C.L ⟨a, d, false, u⟩ = (vl C.L ⟨a, d, false, u⟩, ⟨a + 1, d, false, u⟩) := by unfold nameF; rw [if_pos ⟨rfl, hk⟩]; rfl
   rw [hr]
   have HW := mkA (show wrap64 ((a : Int) + 1) = ((a + 1 : Nat) : Int) from (w64 (by omega) (by omega)).trans (by omega))
   have HLT := mkA hlt
   have HBI := mkA hbig
   have qk := (bneq hk).1
   have qk2 := (bneq hk).2
   clear h hc hk hr hlt hbig
   go_enter Tryz.func40, Tryz.ntmps40
   go_upto_region 5 with (first
    | (go_at_call 36; (with_reducible refine (kind_walk HP.out).mono ?_); rintro e w2 ⟨rfl, hP, hF⟩; obtain ⟨wr2, hc2⟩ := hP.cell; obtain ⟨g, hA, t0, t1, t2, t3⟩ := hP.tok HLT.out; have HA := mkA hA; have HP2 := mkA hP; have HF2 := mkA hF; have HC2 := mkA hc2; have T1 := mkA t1; have c1 : w2.cell? ⟨C.gp, 1, none⟩ = some (.int .i64 a) := (blk_cell hc2 1).trans rfl; have f1 := blk_frozen hc2 1; clear hP hF hc2 hA t0 t1 t2 t3))
   have hf := (HF2.out).put (p := ⟨C.gp, 1, none⟩) (.inl rfl) (.int .i64 (wrap64 ((a : Int) + 1)))
   have hb3 : (w2.setCell ⟨C.gp, 1, none⟩ (.int .i64 (wrap64 ((a : Int) + 1)))).heap[C.gp]? = some (.cells #[.slice C.A C.L.length C.cp, .int .i64 ((a + 1 : Nat) : Int), .int .i64 d, .int .i64 wr2, .bool false, .bool u] 49 (0, 0)) := by rw [← HW.out]; exact blk_put (cs := #[.slice C.A C.L.length C.cp, .int .i64 a, .int .i64 d, .int .i64 wr2, .bool false, .bool u]) HC2.out 1 _ rfl
   have hP3 := HP.out.upd (s' := ⟨a + 1, d, false, u⟩) ⟨wr2, hb3⟩ hf HLT.out
   have ht3 := (World.cell?_of_block (a := ⟨g, a * 4 + 1, none⟩) (Below.heap_setCell w2 ⟨C.gp, 1, none⟩ (.int .i64 (wrap64 ((a : Int) + 1))) g (fun e => by
    have h1 := T1.out
    rw [show g = C.gp from e, blk_cell HC2.out] at h1
    have h2 := HP2.out.own
    rw [HA.out] at h2
    rcases h2.2 with ⟨h3, _⟩ | ⟨g3, cap3, cur3, h3, _, h4, _⟩
    ·cases h3
    ·injection h3 with h3 _ _; injection h3 with h3; injection h3 with h3 _ _
     exact blk_ne h4 HC2.out (by decide) (h3.symm.trans e)))).trans T1.out
   generalize w2.setCell ⟨C.gp, 1, none⟩ (.int .i64 (wrap64 ((a : Int) + 1))) = w3 at hf hb3 hP3 ht3 ⊢
   have d0 : w3.cell? ⟨C.gp, 0, none⟩ = some (.slice (some ⟨g, 0, none⟩) C.L.length C.cp) := by rw [← HA.out]; exact (blk_cell hb3 0).trans rfl
   obtain ⟨m, hm⟩ : ∃ m : Nat, m = a + 1 := ⟨_, rfl⟩
   have d1 : w3.cell? ⟨C.gp, 1, none⟩ = some (.int .i64 (m : Int)) := by rw [hm]; exact (blk_cell hb3 1).trans rfl
   have HP3 := mkA hP3
   have HF3 := mkA hf
   have v1 : IntKind.i64.wrap ((m : Int) - 1) = (a : Int) := (IntWalk.i64_in _ (by have := HLT.out; have := HBI.out; omega)).trans (by omega)
   have v2 : wrap64 ((m : Int) - 1) = (a : Int) := (w64 (by omega) (by have := HLT.out; have := HBI.out; omega)).trans (by omega)
   have q3 : ((a : Int) < (C.L.length : Int)) = True := eq_true (by have := HLT.out; omega)
   have q5 : (a < C.L.length) = True := eq_true HLT.out
   clear hf hb3 hP3 c1 f1 hm
   go_quiet (fail)
   go_wp2
   go_ret
   exact ⟨rfl, by first | exact HP3.out | exact HP3.out.drewN _, by first | exact HF3.out | exact HF3.out.drewN _⟩
  ·have hr : nameF C.L ⟨a, d, false, u⟩ = (e0, St.fail ⟨a, d, false, u⟩) := by unfold nameF; rw [if_neg (fun h => hk h.2)]
   rw [hr]
   have qk := (bnne hk).1
   have qk2 := (bnne hk).2
   clear h hc hk hr
   go_enter Tryz.func40, Tryz.ntmps40
   go_wp2_with (first
    | (go_at_call 36; (with_reducible refine (kind_walk HP.out).mono ?_); rintro e w2 ⟨rfl, hP, hF⟩; have HP2 := mkA hP; have HF2 := mkA hF; clear hP hF)
    | (go_at_call 76; (with_reducible refine (fail_walk HP2.out).mono ?_); rintro e w3 ⟨rfl, hP, hF⟩; have HP3 := mkA hP; have HF3 := mkA (HF2.out.trans hF); clear hP hF))
   go_ret
   exact ⟨rfl, HP3.out, HF3.out⟩
 ·have hr : nameF C.L ⟨a, d, true, u⟩ = (e0, St.fail ⟨a, d, true, u⟩) := by unfold nameF; rw [if_neg (fun h => by cases h.1)]
  rw [hr]
  clear h hc hr
  go_enter Tryz.func40, Tryz.ntmps40
  go_wp2_with (first
   | (go_at_call 76; (with_reducible refine (fail_walk HP.out).mono ?_); rintro e w3 ⟨rfl, hP, hF⟩; have HP3 := mkA hP; have HF3 := mkA hF; clear hP hF))
  go_ret
  exact ⟨rfl, HP3.out, HF3.out⟩
theorem leave_walk {C : SC} {w : World} {s : St} (h : SP C w s) : Calls Tryz.prog 41 #[ptr C.gp] w (Rv C w (.tuple #[]) (leaveF s)) := by
 obtain ⟨a, d, b, u⟩ := s
 obtain ⟨wr, hc⟩ := h.cell
 have HP := mkA h
 have HC := mkA hc
 have c2 : w.cell? ⟨C.gp, 2, none⟩ = some (.int .i64 d) := (blk_cell hc 2).trans rfl
 have f2 := blk_frozen hc 2
 clear h hc
 go_enter Tryz.func41, Tryz.ntmps41
 go_wp2
 go_end0
 have hf := (Fr.refl C.gp C.gp w).put (p := ⟨C.gp, 2, none⟩) (.inl rfl) (.int .i64 (wrap64 (d - 1)))
 exact ⟨rfl, HP.out.upd ⟨wr, blk_put (cs := #[.slice C.A C.L.length C.cp, .int .i64 a, .int .i64 d, .int .i64 wr, .bool b, .bool u]) HC.out 2 _ rfl⟩ hf HP.out.le, hf⟩
theorem enter_walk {C : SC} {w : World} {s : St} (h : SP C w s) : Calls Tryz.prog 35 #[ptr C.gp] w (Rv C w (.bool (!(enterF s).bad)) (enterF s)) := by
 obtain ⟨a, d, b, u⟩ := s
 obtain ⟨wr, hc⟩ := h.cell
 have HP := mkA h
 have HC := mkA hc
 have c2 : w.cell? ⟨C.gp, 2, none⟩ = some (.int .i64 d) := (blk_cell hc 2).trans rfl
 have c4 : w.cell? ⟨C.gp, 4, none⟩ = some (.bool b) := (blk_cell hc 4).trans rfl
 have c5 : w.cell? ⟨C.gp, 5, none⟩ = some (.bool u) := (blk_cell hc 5).trans rfl
 have f2 := blk_frozen hc 2
 have f5 := blk_frozen hc 5
 obtain ⟨d2, hd⟩ : ∃ d2, d2 = wrap64 (d + 1) := ⟨_, rfl⟩
 have HD := mkA hd
 clear h hc
 have hf := (Fr.refl C.gp C.gp w).put (p := ⟨C.gp, 2, none⟩) (.inl rfl) (.int .i64 d2)
 have HF := mkA hf
 by_cases hq : d2 > 60
 ·have hr : enterF ⟨a, d, b, u⟩ = ⟨a, d2, true, true⟩ := by unfold enterF; simp only [← hd]; rw [if_pos hq]
  rw [hr]
  have HP1 := mkA (HP.out.upd (s' := ⟨a, d2, b, u⟩) ⟨wr, blk_put (cs := #[.slice C.A C.L.length C.cp, .int .i64 a, .int .i64 d, .int .i64 wr, .bool b, .bool u]) HC.out 2 (.int .i64 d2) rfl⟩ hf HP.out.le)
  have hf5 := hf.put (p := ⟨C.gp, 5, none⟩) (.inl rfl) (.bool true)
  have HF5 := mkA hf5
  have HP5 := mkA (HP.out.upd (s' := ⟨a, d2, b, true⟩) ⟨wr, blk_put (cs := #[.slice C.A C.L.length C.cp, .int .i64 a, .int .i64 d2, .int .i64 wr, .bool b, .bool u]) (blk_put (cs := #[.slice C.A C.L.length C.cp, .int .i64 a, .int .i64 d, .int .i64 wr, .bool b, .bool u]) HC.out 2 (.int .i64 d2) rfl) 5 (.bool true) rfl⟩ hf5 HP.out.le)
  clear hf hf5 hr hd
  have hd := HD.out.symm
  go_enter Tryz.func35, Tryz.ntmps35
  go_wp2_with (first
   | (go_at_call 76; (with_reducible refine (fail_walk HP5.out).mono ?_); rintro e w2 ⟨rfl, hP, hF⟩; obtain ⟨wr2, hc2⟩ := hP.cell; have HP2 := mkA hP; have HF2 := mkA (HF5.out.trans hF); have e4 : w2.cell? ⟨C.gp, 4, none⟩ = some (.bool true) := (blk_cell hc2 4).trans rfl; clear hP hF hc2))
  go_ret
  exact ⟨rfl, HP2.out, HF2.out⟩
 ·have hr : enterF ⟨a, d, b, u⟩ = ⟨a, d2, b, u⟩ := by unfold enterF; simp only [← hd]; rw [if_neg hq]
  rw [hr]
  have HP1 := mkA (HP.out.upd (s' := ⟨a, d2, b, u⟩) ⟨wr, blk_put (cs := #[.slice C.A C.L.length C.cp, .int .i64 a, .int .i64 d, .int .i64 wr, .bool b, .bool u]) HC.out 2 (.int .i64 d2) rfl⟩ hf HP.out.le)
  clear hf hr hd
  have hd := HD.out.symm
  cases b
  ·go_enter Tryz.func35, Tryz.ntmps35
   go_wp2
   go_ret
   exact ⟨rfl, HP1.out, HF.out⟩
  ·go_enter Tryz.func35, Tryz.ntmps35
   go_wp2
   go_ret
   exact ⟨rfl, HP1.out, HF.out⟩
theorem some_walk {C : SC} {w : World} {s : St} (h : SP C w s) (k : Int) (hp : s.bad = false → 1 ≤ s.a) : Calls Tryz.prog 43 #[ptr C.gp, .int .i64 k] w (Rv C w (.tuple #[]) (someF C.L k s)) := by
 obtain ⟨a, d, b, u⟩ := s
 obtain ⟨wr, hc⟩ := h.cell
 have HP := mkA h
 have c4 : w.cell? ⟨C.gp, 4, none⟩ = some (.bool b) := (blk_cell hc 4).trans rfl
 cases b
 ·have hp1 : 1 ≤ a := hp rfl
  have hle : a ≤ C.L.length := h.le
  have hbig := h.big
  by_cases hk : kd C.L ⟨a, d, false, u⟩ = k
  ·have hr : someF C.L k ⟨a, d, false, u⟩ = ⟨a - 1, d, true, u⟩ := by unfold someF; rw [if_pos ⟨rfl, hk⟩]
   rw [hr]
   have HW := mkA (show wrap64 ((a : Int) - 1) = ((a - 1 : Nat) : Int) from (w64 (by omega) (by omega)).trans (by omega))
   have HLE := mkA (show a - 1 ≤ C.L.length by omega)
   have qk := (bneq hk).1
   have qk2 := (bneq hk).2
   clear h hc hk hr hp hp1 hle hbig
   go_enter Tryz.func43, Tryz.ntmps43
   go_wp2_with (first
    | (go_at_call 36; (with_reducible refine (kind_walk HP.out).mono ?_); rintro e w2 ⟨rfl, hP, hF⟩; obtain ⟨wr2, hc2⟩ := hP.cell; have hf := hF.put (p := ⟨C.gp, 1, none⟩) (.inl rfl) (.int .i64 (wrap64 ((a : Int) - 1))); have HP3 := mkA (HP.out.upd (s' := ⟨a - 1, d, false, u⟩) ⟨wr2, by rw [← HW.out]; exact blk_put (cs := #[.slice C.A C.L.length C.cp, .int .i64 a, .int .i64 d, .int .i64 wr2, .bool false, .bool u]) hc2 1 _ rfl⟩ hf HLE.out); have HF3 := mkA hf; have c1 : w2.cell? ⟨C.gp, 1, none⟩ = some (.int .i64 a) := (blk_cell hc2 1).trans rfl; have f1 := blk_frozen hc2 1; clear hP hF hc2 hf)
    | (go_at_call 76; (with_reducible refine (fail_walk HP3.out).mono ?_); rintro e w4 ⟨rfl, hP, hF⟩; have HP4 := mkA hP; have HF4 := mkA (HF3.out.trans hF); clear hP hF))
   go_end0
   exact ⟨rfl, HP4.out, HF4.out⟩
  ·have hr : someF C.L k ⟨a, d, false, u⟩ = ⟨a, d, false, u⟩ := by unfold someF; rw [if_neg (fun h => hk h.2)]
   rw [hr]
   have qk := (bnne hk).1
   have qk2 := (bnne hk).2
   clear h hc hk hr hp hp1 hle hbig
   go_enter Tryz.func43, Tryz.ntmps43
   go_wp2_with (first
    | (go_at_call 36; (with_reducible refine (kind_walk HP.out).mono ?_); rintro e w2 ⟨rfl, hP, hF⟩; have HP2 := mkA hP; have HF2 := mkA (hF); clear hP hF))
   go_end0
   exact ⟨rfl, HP2.out, HF2.out⟩
 ·have hr : someF C.L k ⟨a, d, true, u⟩ = ⟨a, d, true, u⟩ := by unfold someF; rw [if_neg (fun h => by cases h.1)]
  rw [hr]
  clear h hc hr hp
  go_enter Tryz.func43, Tryz.ntmps43
  go_wp2
  go_end0
  exact ⟨rfl, HP.out, Fr.refl _ _ _⟩
theorem w_yes {v : ByteArray} {l : List UInt8} (h : v = ⟨l.toArray⟩) : (v.toList = l) = True ∧ (v.toList == l) = true := by
 have e : v.toList = l := by rw [h]; exact ByteArray.toList_mk l
 exact ⟨eq_true e, beq_iff_eq.2 e⟩
theorem w_no {v : ByteArray} {l : List UInt8} (h : v ≠ ⟨l.toArray⟩) : (v.toList = l) = False ∧ (v.toList == l) = false := by
 have e : ¬ v.toList = l := fun e => h (by rw [← e, ByteArray.toList_eq])
 exact ⟨eq_false e, beq_eq_false_iff_ne.2 e⟩
theorem get_b (t : ByteArray) (j : Nat) (h : j < t.size) : t.get! j = t[j]'h := by
 show t.get! j = _
 simp [ByteArray.get!, getElem!_pos, h]
 rfl
theorem wide_n (n b0 b1 b2 b3 : Nat) (h0 : 128 ≤ b0) (hn : 0 < n) : ∃ k, (Go.Lib.decodeN n b0 b1 b2 b3).2 = k ∧ 1 ≤ k ∧ k ≤ n ∧ k ≤ 4 ∧ (1 < k → 128 ≤ b1) ∧ (2 < k → 128 ≤ b2) ∧ (3 < k → 128 ≤ b3) := by
 refine ⟨_, rfl, ?_⟩
 unfold Go.Lib.decodeN
 repeat' split
 all_goals (simp only; omega)
theorem wide_at (t : ByteArray) (p : Nat) (hp : p < t.size) (hb : 128 ≤ bt t p) : ∃ k : Nat, (Go.Lib.decodeGo (t.extract p t.size)).2 = k ∧ 1 ≤ k ∧ p + k ≤ t.size ∧ ∀ j : Nat, j < k → 128 ≤ bt t ((p + j : Nat) : Int) := by
 have hsz : (t.extract p t.size).size = t.size - p := by rw [ByteArray.size_extract]; omega
 have hx : ∀ j, (hj : p + j < t.size) → (((t.extract p t.size).get! j).toNat : Int) = bt t ((p + j : Nat) : Int) := fun j hj => by
  rw [get_b _ j (by omega), ByteArray.getElem_extract]
  unfold bt
  rw [dif_pos (show ((p + j : Nat) : Int).toNat < t.size by omega)]
  simp only [Int.toNat_natCast]
 unfold Go.Lib.decodeGo
 rw [if_neg (by omega), Go.Lib.decode_at, hsz]
 have h0 := hx 0 (by omega)
 obtain ⟨k, hk, k1, k2, k3, k4, k5, k6⟩ := wide_n (t.size - p - 0) ((t.extract p t.size).get! 0).toNat ((t.extract p t.size).get! (0 + 1)).toNat ((t.extract p t.size).get! (0 + 2)).toNat ((t.extract p t.size).get! (0 + 3)).toNat (by rw [Nat.add_zero] at h0; omega) (by omega)
 refine ⟨k, hk, k1, by omega, fun j hj => ?_⟩
 rw [← hx j (by omega)]
 have hj4 : j = 0 ∨ j = 1 ∨ j = 2 ∨ j = 3 := by omega
 rcases hj4 with rfl | rfl | rfl | rfl
 ·rw [Nat.add_zero] at h0; omega
 ·have := k4 hj; rw [Nat.zero_add] at this; omega
 ·have := k5 hj; rw [Nat.zero_add] at this; omega
 ·have := k6 hj; rw [Nat.zero_add] at this; omega
end Go.Proofs.YthgcghpcikbnkaaGreatDoor.R
namespace Go.Proofs.YthgcghpcikbnkaaGreatDoor
open Go.RowKit
def decRen : Go.Shelf.Ren := ⟨fun | 32 => 145 | 49 => 156 | n => n, fun | 0 => 0 | 3 => 3 | 4 => 4 | 5 => 5 | 21 => 21 | 25 => 167 | 30 => 109 | 33 => 240 | 66 => 289 | 68 => 291 | 69 => 292 | n => n, fun | 2 => 0 | 3 => 1 | n => n⟩
theorem decLays : Go.Proofs.Lays7.n32 Tryz.prog decRen := {
 mixed := by kernel_rfl
 f32 := Tryz.func145.trans (congrArg some (by kernel_rfl))
 f49 := Tryz.func156.trans (congrArg some (by kernel_rfl))
 t0 := by kernel_rfl
 a0 := fun w => by kernel_rfl
 z0 := fun w => by kernel_rfl
 v0 := fun w => by kernel_rfl
 i0 := by kernel_rfl
 t3 := by kernel_rfl
 a3 := fun w => by kernel_rfl
 z3 := fun w => by kernel_rfl
 v3 := fun w => by kernel_rfl
 i3 := by kernel_rfl
 t4 := by kernel_rfl
 a4 := fun w => by kernel_rfl
 z4 := fun w => by kernel_rfl
 v4 := fun w => by kernel_rfl
 i4 := by kernel_rfl
 t5 := by kernel_rfl
 a5 := fun w => by kernel_rfl
 z5 := fun w => by kernel_rfl
 v5 := fun w => by kernel_rfl
 i5 := by kernel_rfl
 t21 := by kernel_rfl
 a21 := fun w => by kernel_rfl
 z21 := fun w => by kernel_rfl
 v21 := fun w => by kernel_rfl
 i21 := by kernel_rfl
 t25 := by kernel_rfl
 a25 := fun w => by kernel_rfl
 z25 := fun w => by kernel_rfl
 v25 := fun w => by kernel_rfl
 i25 := by kernel_rfl
 t30 := by kernel_rfl
 a30 := fun w => by kernel_rfl
 z30 := fun w => by kernel_rfl
 v30 := fun w => by kernel_rfl
 i30 := by kernel_rfl
 t33 := by kernel_rfl
 a33 := fun w => by kernel_rfl
 z33 := fun w => by kernel_rfl
 v33 := fun w => by kernel_rfl
 i33 := by kernel_rfl
 t66 := by kernel_rfl
 a66 := fun w => by kernel_rfl
 z66 := fun w => by kernel_rfl
 t68 := by kernel_rfl
 a68 := fun w => by kernel_rfl
 z68 := fun w => by kernel_rfl
 v68 := fun w => by kernel_rfl
 i68 := by kernel_rfl
 t69 := by kernel_rfl
 a69 := fun w => by kernel_rfl
 z69 := fun w => by kernel_rfl
 v69 := fun w => by kernel_rfl
 i69 := by kernel_rfl
 g2 := by kernel_rfl
 g3 := by kernel_rfl }
def Glob (w : World) : Prop := Go.Lib.Utf8Tabs 0 1 w
theorem decodeRune (s : ByteArray) (b off cap : Nat) (w : World) (hT : Glob w) (hp : ∀ j, j < s.size → w.cell? ⟨b, off + j, none⟩ = some (.int .u8 (s.get! j).toNat)) :
 Calls Tryz.prog 145 #[.slice (some ⟨b, off, none⟩) s.size cap] w fun e w' => e = .returned (.tuple #[.int .i32 (Go.Lib.decodeGo s).1, .int .i64 (Go.Lib.decodeGo s).2]) ∧ Below w.heap.size w w' :=
 Go.Proofs.Any7.utf8_DecodeRune decLays s b off cap w hT hp
end Go.Proofs.YthgcghpcikbnkaaGreatDoor
namespace Go.Proofs.YthgcghpcikbnkaaGreatDoor.R
open Go.RowKit Go.Proofs.YthgcghpcikbnkaaGreatDoorW.PrintWords Go.Proofs.YthgcghpcikbnkaaGreatDoorW.PrintLast Go.Proofs.YthgcghpcikbnkaaGreatDoorW.PrintMore
set_option linter.unusedVariables false
set_option linter.unusedSimpArgs false
def rn (s : ByteArray) (i : Nat) : Int × Int := if s.size ≤ i then (-1, 65533) else if bt s i < 128 then (bt s i, 1) else (Int.ofNat (Go.Lib.decodeGo (s.extract i s.size)).1, Int.ofNat (Go.Lib.decodeGo (s.extract i s.size)).2)
set_option maxHeartbeats 4000000 in
set_option maxRecDepth 100000 in
theorem runeAt_walk (s : ByteArray) (b cap : Nat) (w : World) (hT : Glob w) (i : Nat) (hi : i ≤ s.size) (hs : s.size ≤ 2147483647) (hc : s.size ≤ cap) (hp : ∀ j : Nat, j < s.size → w.cell? ⟨b, j, none⟩ = some (.int .u8 (bt s j))) :
 Calls Tryz.prog 129 #[.slice (some ⟨b, 0, none⟩) s.size cap, .int .i64 i] w fun e w' => e = .returned (.tuple #[.int .i32 (rn s i).1, .int .i64 (rn s i).2]) ∧ Below w.heap.size w w' ∧ ((i < s.size → bt s i < 128) → w' = w) := by
 have HT := mkA hT
 have HP := mkA hp
 clear hT hp
 by_cases h1 : s.size ≤ i
 ·have e1 : decide ((s.size : Int) ≤ (i : Int)) = true := decide_eq_true (by omega)
  have er : rn s i = (-1, 65533) := by unfold rn; rw [if_pos h1]
  rw [er]
  clear hc hs hi er
  go_enter Tryz.func129, Tryz.ntmps129
  go_wp2
  repeat (go_quiet (fail); try go_wp2)
  go_ret2
  exact ⟨rfl, by repeat (first | exact Below.refl _ _ | apply below_alloc | apply pw_below_drewN | apply below_drew1), fun _ => rfl⟩
 ·have e1 : decide ((s.size : Int) ≤ (i : Int)) = false := decide_eq_false (by omega)
  have hcell := HP.out i (by omega)
  have p1 : (0 ≤ (i : Int)) = True := eq_true (by omega)
  have q1 : ((i : Int) < (s.size : Int)) = True := eq_true (by omega)
  have hb := bt_lo s i
  have hw : wrap32 (bt s (i : Int)) = bt s (i : Int) := by unfold wrap32; omega
  by_cases h2 : bt s i < 128
  ·have e2 : decide (bt s (i : Int) < 128) = true := decide_eq_true h2
   have er : rn s i = (bt s i, 1) := by unfold rn; rw [if_neg h1, if_pos h2]
   rw [er]
   clear hc hs hi er hb
   go_enter Tryz.func129, Tryz.ntmps129
   go_wp2
   repeat (go_quiet (fail); try go_wp2)
   go_ret2
   exact ⟨by simp [hw], by repeat (first | exact Below.refl _ _ | apply below_alloc | apply pw_below_drewN | apply below_drew1), fun _ => rfl⟩
  ·have e2 : decide (bt s (i : Int) < 128) = false := decide_eq_false h2
   have er : rn s i = (Int.ofNat (Go.Lib.decodeGo (s.extract i s.size)).1, Int.ofNat (Go.Lib.decodeGo (s.extract i s.size)).2) := by unfold rn; rw [if_neg h1, if_neg h2]
   rw [er]
   have hsz : (s.extract i s.size).size = s.size - i := by rw [ByteArray.size_extract]; omega
   have cD : Calls Tryz.prog 145 #[.slice (some ⟨b, i, none⟩) (s.size - i) (cap - i)] w fun e w' => e = .returned (.tuple #[.int .i32 (Go.Lib.decodeGo (s.extract i s.size)).1, .int .i64 (Go.Lib.decodeGo (s.extract i s.size)).2]) ∧ Below w.heap.size w w' := by
    rw [← hsz]
    refine decodeRune (s.extract i s.size) b i (cap - i) w HT.out (fun j hj => ?_)
    rw [HP.out (i + j) (by omega)]
    congr 2
    unfold bt
    rw [dif_pos (show ((i + j : Nat) : Int).toNat < s.size by omega), get_b (s.extract i s.size) j hj]
    simp only [Int.toNat_natCast, ByteArray.getElem_extract]
   have HH := mkA (And.intro h1 h2)
   clear er hb hsz
   go_enter Tryz.func129, Tryz.ntmps129
   go_wp2_with (first | (go_at_call 145; refine cD.mono ?_; rintro e w' ⟨rfl, hB⟩))
   repeat (go_quiet (fail); try go_wp2)
   go_ret2
   exact ⟨rfl, hB, fun h => absurd (h (by have := HH.out.1; omega)) (by have := HH.out.2; omega)⟩
structure Src (w : World) (g b cap : Nat) (s : ByteArray) : Prop where
 body : w.cell? ⟨g, 0, none⟩ = some (.slice (some ⟨b, 0, none⟩) s.size cap)
 bytes : ∀ j : Nat, j < s.size → w.cell? ⟨b, j, none⟩ = some (.int .u8 (bt s j))
 cap : s.size ≤ cap
 small : s.size ≤ 2000
 glob : Glob w
theorem tabs_of {g3 g4 : Nat} {w w' : World} (h : Go.Lib.Utf8Tabs g3 g4 w) (hk : ∀ a : Addr, a.block < w.heap.size → w'.cell? a = w.cell? a) : Go.Lib.Utf8Tabs g3 g4 w' := by
 refine ⟨fun c hc => ?_, fun i hi => ⟨?_, ?_⟩⟩
 ·rw [hk _ (World.block_lt_of_cell? w _ (h.1 c hc))]; exact h.1 c hc
 ·rw [hk _ (World.block_lt_of_cell? w _ (h.2 i hi).1)]; exact (h.2 i hi).1
 ·rw [hk _ (World.block_lt_of_cell? w _ (h.2 i hi).2)]; exact (h.2 i hi).2
theorem Glob.below {w w' : World} (h : Glob w) (hb : Below w.heap.size w w') : Glob w' := tabs_of h (fun a ha => hb.cell ha)
theorem Src.below {w w' : World} {g b cap : Nat} {s : ByteArray} (h : Src w g b cap s) (hb : Below w.heap.size w w') : Src w' g b cap s := by
 refine ⟨?_, fun j hj => ?_, h.cap, h.small, Glob.below h.glob hb⟩
 ·rw [hb.cell (World.block_lt_of_cell? w _ h.body)]; exact h.body
 ·rw [hb.cell (World.block_lt_of_cell? w _ (h.bytes j hj))]; exact h.bytes j hj
theorem runeAt_src {w : World} {g b cap : Nat} {s : ByteArray} (h : Src w g b cap s) (i : Nat) (hi : i ≤ s.size) :
 Calls Tryz.prog 129 #[.slice (some ⟨b, 0, none⟩) s.size cap, .int .i64 i] w fun e w' => e = .returned (.tuple #[.int .i32 (rn s i).1, .int .i64 (rn s i).2]) ∧ Below w.heap.size w w' :=
 (runeAt_walk s b cap w h.glob i hi (by have := h.small; omega) h.cap h.bytes).mono fun e w' h => ⟨h.1, h.2.1⟩
end Go.Proofs.YthgcghpcikbnkaaGreatDoor.R
