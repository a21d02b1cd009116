/- A part of the proof of the theorem of this claim: Tkw, Tko. No condition of its own. -/
import Derived.Test.YthgcghpcikbnkaaGreatDoorA32
import Derived.Test.YthgcghpcikbnkaaGreatDoorA11
import Derived.Test.YthgcghpcikbnkaaGreatDoorA25
set_option maxHeartbeats 16000000
set_option maxRecDepth 100000
namespace Go.Proofs.YthgcghpcikbnkaaGreatDoor.R
open Go.RowKit Go.Proofs.YthgcghpcikbnkaaGreatDoorW.PrintWords Go.Proofs.YthgcghpcikbnkaaGreatDoorW.PrintLast Go.Proofs.YthgcghpcikbnkaaGreatDoorW.PrintMore
set_option linter.unusedVariables false
set_option linter.unusedSimpArgs false
def TVal (n : Nat) : Prop := ∀ {w : World} {B gt : Nat} {rows r : List Row} {v : Value}, TK B gt w rows → B ≤ w.heap.size → ValA (to_ B) w n v r → rows.length + r.length ≤ 1000000 → Calls Tryz.prog 29 #[ptr gt, v] w (TP B gt w (rows ++ r))
theorem clo_54 {n : Nat} (ih : TVal n) {w : World} {B gt gx gv g : Nat} {rows r : List Row} {k : ByteArray} {l sl : Value} (hT : TK B gt w rows) (hB : B ≤ w.heap.size) (hx : w.heap[gx]? = some (.cells #[ptr gt] 35 (0, 0))) (hv : w.heap[gv]? = some (.cells #[ptr g] 141 (0, 0))) (hA : At (to_ B) w g #[.string k, l, sl] 144) (hS : SlA (to_ B) w 77 (ValA (to_ B) w n) sl r) (hn : rows.length + r.length ≤ 1000000) : Calls Tryz.prog 54 #[ptr gv, ptr gx] w (TP B gt w (rows ++ r)) := by
 obtain ⟨m, xs, hm, hO, hM⟩ := hS
 obtain ⟨hxn, hsh⟩ := own_shape hO
 obtain ⟨A, cp, rfl⟩ : ∃ (A : Option Addr) (cp : Nat), sl = .slice A m cp := by
  rcases hsh with ⟨e1, e2⟩ | ⟨g1, cp, e1, _⟩
  ·exact ⟨none, 0, by rw [e1, e2]⟩
  ·exact ⟨_, cp, e1⟩
 have HMX := mkA hm
 have HO := mkA hO
 have HM := mkA hM
 have HXN := mkA hxn
 have HSH := mkA hsh
 have IH := mkA @ih
 have HTs := mkA hT
 have HBW := mkA hB
 have HN := mkA hn
 have HXs := mkA hx
 have HFs := mkA (TF.refl B w)
 have s_0 : w.cell? ⟨gv, 0, none⟩ = some (R.ptr g) := (blk_cell hv 0).trans rfl
 have s_1 : w.cell? ⟨g, 2, none⟩ = some (.slice A m cp) := (blk_cell hA.2 2).trans rfl
 clear hm hO hM hxn hsh ih hT hB hx hv hA hn
 go_enter Tryz.func54, Tryz.ntmps54
 go_wp2
 go_loopw [9] (fun v9 wr => ∃ (j : Nat) (ra rb : List Row), v9 = .int .i64 j ∧ Aside0 (j ≤ m) ∧ Aside0 (Many (ValA (to_ B) w n) (xs.drop j) rb) ∧ Aside0 (ra ++ rb = r) ∧ Aside0 (TK B gt wr (rows ++ ra)) ∧ Aside0 (TF B w wr) ∧ Aside0 (wr.heap[gx]? = some (.cells #[R.ptr gt] 35 (0, 0)))) (fun v9 _ => m - (intOf v9).toNat)
 case atStart => exact ⟨0, [], r, rfl, ⟨Nat.zero_le _⟩, ⟨by rw [List.drop_zero]; exact HM.out⟩, ⟨rfl⟩, ⟨by rw [List.append_nil]; exact HTs.out⟩, HFs, HXs⟩
 case round =>
  obtain ⟨j, ra, rb, rfl, HJ, HMb, HRR, HTr, HFr, HXr⟩ := hrel
  by_cases hlt : j < m
  ·have HLT := mkA hlt
   obtain ⟨x, hx⟩ : ∃ x, xs[j]? = some x := ⟨_, List.getElem?_eq_getElem (by rw [HXN.out]; exact hlt)⟩
   have hd : xs.drop j = x :: xs.drop (j + 1) := by
    obtain ⟨h1, h2⟩ := List.getElem?_eq_some_iff.1 hx
    rw [List.drop_eq_getElem_cons h1, h2]
   have hmb := HMb.out
   rw [hd] at hmb
   obtain ⟨a, b, rfl, hq, hmb2⟩ := many_cons hmb
   have HMb2 := mkA hmb2
   clear hd hmb hmb2 HMb
   have hA : ∃ g1 : Nat, A = some ⟨g1, 0, none⟩ := by
    rcases HSH.out with ⟨_, e⟩ | ⟨g1, cp1, e, _⟩
    ·omega
    ·injection e with e1 e2 e3; exact ⟨g1, e1⟩
   obtain ⟨g1, rfl⟩ := hA
   have hrd : wr.cell? ⟨g1, j, none⟩ = some x := own_read (HO.out.fr HFr.out.keeps) hx
   have HBr := mkA (HFr.out.big HBW.out)
   have HNr := mkA (show (rows ++ ra).length + a.length ≤ 1000000 by have h1 := HN.out; rw [← HRR.out] at h1; simp only [List.length_append] at h1 ⊢; omega)
   have q0 : (j < m) = True := eq_true hlt
   have hmm : m ≤ 1000000 := HMX.out
   have HNW := mkA (show wrap64 ((j : Int) + 1) = ((j + 1 : Nat) : Int) from (w64 (by omega) (by omega)).trans (by omega))
   clear hlt hmm hx
   have s_2 : wr.cell? ⟨gx, 0, none⟩ = some (R.ptr gt) := (blk_cell HXr.out 0).trans rfl
   have CV := mkA (IH.out HTr.out HBr.out (ValA.fr HFr.out.keeps _ _ _ hq) HNr.out)
   clear hq
   go_wp2_with (first
    | (go_at_call 29; (with_reducible refine CV.out.mono ?_); rintro e w5 ⟨rfl, q1, q2⟩; have Q1 := mkA q1; have Q2 := mkA q2; clear q1 q2))
   go_roundw
   case rel => exact ⟨j + 1, ra ++ a, b, congrArg (Value.int .i64) HNW.out, ⟨HLT.out⟩, HMb2, ⟨by rw [← HRR.out, List.append_assoc]⟩, ⟨by rw [← List.append_assoc]; exact Q1.out⟩, ⟨HFr.out.trans Q2.out⟩, ⟨Q2.out.typ _ _ _ HXr.out (by decide) (by decide) (by decide)⟩⟩
   case measure => exact msr_up2 m j HLT.out HMX.out
  ·have q0 : (j < m) = False := eq_false hlt
   have hjm : j = m := by have := HJ.out; omega
   have hra : ra = r := by
    have h1 := HMb.out
    rw [hjm, ← HXN.out, List.drop_length] at h1
    cases h1
    rw [← HRR.out, List.append_nil]
   have HRA := mkA hra
   clear hlt hjm hra
   go_wp2
   go_end0
   exact ⟨rfl, by rw [← HRA.out]; exact HTr.out, HFr.out⟩
theorem clo_55 {n : Nat} (ih : TVal n) {w : World} {B gt gx gv g : Nat} {rows r : List Row} {k : ByteArray} {l sl : Value} (hT : TK B gt w rows) (hB : B ≤ w.heap.size) (hx : w.heap[gx]? = some (.cells #[ptr gt] 35 (0, 0))) (hv : w.heap[gv]? = some (.cells #[ptr g] 145 (0, 0))) (hA : At (to_ B) w g #[.string k, l, sl] 148) (hS : SlA (to_ B) w 149 (FldA (to_ B) w (ValA (to_ B) w n)) sl r) (hn : rows.length + r.length ≤ 1000000) : Calls Tryz.prog 55 #[ptr gv, ptr gx] w (TP B gt w (rows ++ r)) := by
 obtain ⟨m, xs, hm, hO, hM⟩ := hS
 obtain ⟨hxn, hsh⟩ := own_shape hO
 obtain ⟨A, cp, rfl⟩ : ∃ (A : Option Addr) (cp : Nat), sl = .slice A m cp := by
  rcases hsh with ⟨e1, e2⟩ | ⟨g1, cp, e1, _⟩
  ·exact ⟨none, 0, by rw [e1, e2]⟩
  ·exact ⟨_, cp, e1⟩
 have HMX := mkA hm
 have HO := mkA hO
 have HM := mkA hM
 have HXN := mkA hxn
 have HSH := mkA hsh
 have IH := mkA @ih
 have HTs := mkA hT
 have HBW := mkA hB
 have HN := mkA hn
 have HXs := mkA hx
 have HFs := mkA (TF.refl B w)
 have s_0 : w.cell? ⟨gv, 0, none⟩ = some (R.ptr g) := (blk_cell hv 0).trans rfl
 have s_1 : w.cell? ⟨g, 2, none⟩ = some (.slice A m cp) := (blk_cell hA.2 2).trans rfl
 clear hm hO hM hxn hsh ih hT hB hx hv hA hn
 go_enter Tryz.func55, Tryz.ntmps55
 go_wp2
 go_loopw [9] (fun v9 wr => ∃ (j : Nat) (ra rb : List Row), v9 = .int .i64 j ∧ Aside0 (j ≤ m) ∧ Aside0 (Many (FldA (to_ B) w (ValA (to_ B) w n)) (xs.drop j) rb) ∧ Aside0 (ra ++ rb = r) ∧ Aside0 (TK B gt wr (rows ++ ra)) ∧ Aside0 (TF B w wr) ∧ Aside0 (wr.heap[gx]? = some (.cells #[R.ptr gt] 35 (0, 0)))) (fun v9 _ => m - (intOf v9).toNat)
 case atStart => exact ⟨0, [], r, rfl, ⟨Nat.zero_le _⟩, ⟨by rw [List.drop_zero]; exact HM.out⟩, ⟨rfl⟩, ⟨by rw [List.append_nil]; exact HTs.out⟩, HFs, HXs⟩
 case round =>
  obtain ⟨j, ra, rb, rfl, HJ, HMb, HRR, HTr, HFr, HXr⟩ := hrel
  by_cases hlt : j < m
  ·have HLT := mkA hlt
   obtain ⟨x, hx⟩ : ∃ x, xs[j]? = some x := ⟨_, List.getElem?_eq_getElem (by rw [HXN.out]; exact hlt)⟩
   have hd : xs.drop j = x :: xs.drop (j + 1) := by
    obtain ⟨h1, h2⟩ := List.getElem?_eq_some_iff.1 hx
    rw [List.drop_eq_getElem_cons h1, h2]
   have hmb := HMb.out
   rw [hd] at hmb
   obtain ⟨a, b, rfl, hq, hmb2⟩ := many_cons hmb
   have HMb2 := mkA hmb2
   clear hd hmb hmb2 HMb
   have hA : ∃ g1 : Nat, A = some ⟨g1, 0, none⟩ := by
    rcases HSH.out with ⟨_, e⟩ | ⟨g1, cp1, e, _⟩
    ·omega
    ·injection e with e1 e2 e3; exact ⟨g1, e1⟩
   obtain ⟨g1, rfl⟩ := hA
   have hrd : wr.cell? ⟨g1, j, none⟩ = some x := own_read (HO.out.fr HFr.out.keeps) hx
   have HBr := mkA (HFr.out.big HBW.out)
   have HNr := mkA (show (rows ++ ra).length + a.length ≤ 1000000 by have h1 := HN.out; rw [← HRR.out] at h1; simp only [List.length_append] at h1 ⊢; omega)
   have q0 : (j < m) = True := eq_true hlt
   have hmm : m ≤ 1000000 := HMX.out
   have HNW := mkA (show wrap64 ((j : Int) + 1) = ((j + 1 : Nat) : Int) from (w64 (by omega) (by omega)).trans (by omega))
   clear hlt hmm hx
   obtain ⟨gf, kf, vf, nf, lf, xf, bf, rfl, hAf, hLf, hNf, hXf0, rfl⟩ := hq
   have HAf := mkA hAf
   have HLf := mkA hLf
   have HNf := mkA hNf
   have HXf0 := mkA hXf0
   clear hAf hLf hNf hXf0
   obtain ⟨gl, la, lz, ls, rfl, HLC⟩ := HLf.out
   have B2 := mkA (Below.refl wr.heap.size wr)
   go_upto_region 3 with (first
    | ((with_reducible refine gate_dst (N := 3) rfl ?_); refine box_event ?hg (N := 3) ?hd (cs := #[.pointer none]) (t := 149) ?hr ?_; (case hd => rfl); (case hg => rfl); (case hr => first | (go_simp; done) | (go_simp; rfl)); intro gw hg w3 hbox hb; have B3 := mkA (below_step B2.out hb); have BV := mkA hbox; have BX3 := mkA (blk_below HXr.out hb); have GV := mkA (show wr.heap.size ≤ gw by rw [hg]; exact B2.out.size); have GXV := mkA (show gx ≠ gw from Nat.ne_of_lt (by rw [hg]; exact blk_lt HXr.out)); have z0 : w3.cell? ⟨gw, 0, none⟩ = some (.pointer none) := (blk_cell hbox 0).trans rfl; have zf0 := blk_frozen hbox 0; clear hbox hb hg))
   obtain ⟨w4, hw4⟩ : ∃ w4, w4 = w3.setCell ⟨gw, 0, none⟩ (R.ptr gf) := ⟨_, rfl⟩
   have B4 := mkA (show Below wr.heap.size wr w4 by rw [hw4]; exact B3.out.setCell (p := ⟨gw, 0, none⟩) GV.out _)
   have BV4 := mkA (show w4.heap[gw]? = some (.cells #[R.ptr gf] 149 (0, 0)) by rw [hw4]; exact blk_put (cs := #[.pointer none]) BV.out 0 _ rfl)
   have BX4 := mkA (show w4.heap[gx]? = some (.cells #[R.ptr gt] 35 (0, 0)) by rw [hw4]; exact blk_far (p := ⟨gw, 0, none⟩) BX3.out GXV.out _)
   rw [← hw4]
   clear hw4 z0 zf0 B3 BX3 BV
   have KP := mkA (keeps_up (n := B) B4.out)
   have AL := mkA (show At (to_ B) w4 gf #[.string kf, nf, R.ptr gl, xf] 151 from (HAf.out.fr HFr.out.keeps).fr KP.out)
   have LCL := mkA (show LocA (to_ B) w4 (R.ptr gl) from (HLf.out.fr HFr.out.keeps).fr KP.out)
   have NML := mkA (show NameA (to_ B) w4 nf vf from (HNf.out.fr HFr.out.keeps).fr KP.out)
   have XL := mkA (show ValA (to_ B) w4 n xf bf from ValA.fr KP.out _ _ _ (ValA.fr HFr.out.keeps _ _ _ HXf0.out))
   have s_0 : w4.cell? ⟨gx, 0, none⟩ = some (R.ptr gt) := (blk_cell BX4.out 0).trans rfl
   have s_1 : w4.cell? ⟨gw, 0, none⟩ = some (R.ptr gf) := (blk_cell BV4.out 0).trans rfl
   have c_0 : w4.cell? ⟨gf, 2, none⟩ = some (R.ptr gl) := (blk_cell AL.out.2 2).trans rfl
   have c_1 : w4.cell? ⟨gf, 1, none⟩ = some (nf) := (blk_cell AL.out.2 1).trans rfl
   have T4 := mkA (show TK B gt w4 (rows ++ ra) from HTr.out.step B4.out)
   have cT0 := mkA (fun (u : World) (hu : Below w4.heap.size w4 u) => (show Calls Tryz.prog 25 #[nf] u (fun e w' => e = .returned (.string vf) ∧ w' = u) from text_walk (NML.out.fr (keeps_up hu))))
   have cP := mkA (fun (u : World) (hu : Below w4.heap.size w4 u) => (show Calls Tryz.prog 26 #[R.ptr gt, R.ptr gl, .agg #[.int .i64 19, .string vf, .string ⟨#[]⟩, .string ⟨#[]⟩, .int .i64 0, .int .i64 0], .func (.func 56) #[] #[R.ptr gx, R.ptr gw]] u (TP B gt wr ((rows ++ ra) ++ nd 19 vf ⟨#[]⟩ ⟨#[]⟩ 0 bf)) from (put_walk (T4.out.step hu) (LCL.out.fr (keeps_up hu)) (Nat.le_trans HBr.out (below_step B4.out hu).size) (by have h_ := HNr.out; rw [nd_len] at h_; omega) (.inr ⟨56, _, rfl, (fun w => by kernel_rfl), fun w1 rows1 f1 t1 b1 => clo_56 (f1.typ _ _ _ (blk_below BX4.out hu) (by decide) (by decide) (by decide)) (f1.typ _ _ _ (blk_below BV4.out hu) (by decide) (by decide) (by decide)) ((blk_cell ((AL.out.fr (keeps_up hu)).fr f1.keeps).2 3).trans rfl) (fun u2 hu2 => (IH.out (t1.step hu2) (Nat.le_trans (f1.big (Nat.le_trans HBr.out (below_step B4.out hu).size)) hu2.size) (ValA.fr (keeps_up hu2) _ _ _ (ValA.fr f1.keeps _ _ _ (ValA.fr (keeps_up hu) _ _ _ XL.out))) b1).mono fun e w' q => ⟨q.1, q.2.1, (TF.of (f1.big (Nat.le_trans HBr.out (below_step B4.out hu).size)) hu2).trans q.2.2⟩) (fun _ _ q => q.1)⟩)).mono fun e w' q => ⟨q.1, q.2.1, (TF.of HBr.out (below_step B4.out hu)).trans q.2.2⟩))
   go_still_tail 12, (by kernel_rfl)
   still_call (cT0.out _ (by first | exact below_drew1 (Below.refl _ _) | exact Below.refl _ _))
   repeat still_step
   refine wpStill_nil ?_
   go_wp2_with (first
    | (go_at_call 26; refine (cP.out _ ?_).mono ?_; (first | exact below_drew1 (Below.refl _ _) | exact Below.refl _ _); rintro e w5 ⟨rfl, q1, q2⟩; have Q1 := mkA q1; have Q2 := mkA q2; clear q1 q2))
   go_roundw
   case rel => exact ⟨j + 1, ra ++ nd 19 vf e0 e0 0 bf, b, congrArg (Value.int .i64) HNW.out, ⟨HLT.out⟩, HMb2, ⟨by rw [← HRR.out, List.append_assoc]⟩, ⟨by rw [← List.append_assoc]; exact Q1.out⟩, ⟨HFr.out.trans Q2.out⟩, ⟨Q2.out.typ _ _ _ HXr.out (by decide) (by decide) (by decide)⟩⟩
   case measure => exact msr_up2 m j HLT.out HMX.out
  ·have q0 : (j < m) = False := eq_false hlt
   have hjm : j = m := by have := HJ.out; omega
   have hra : ra = r := by
    have h1 := HMb.out
    rw [hjm, ← HXN.out, List.drop_length] at h1
    cases h1
    rw [← HRR.out, List.append_nil]
   have HRA := mkA hra
   clear hlt hjm hra
   go_wp2
   go_end0
   exact ⟨rfl, by rw [← HRA.out]; exact HTr.out, HFr.out⟩
end Go.Proofs.YthgcghpcikbnkaaGreatDoor.R
