/- A part of the proof of the theorem of this claim: Tkz, Tkd, Tks, Tkr, Raf. No condition of its own. -/
import Derived.Test.YthgcghpcikbnkaaGreatDoorA32
import Derived.Test.YthgcghpcikbnkaaGreatDoorA34
import Derived.Test.YthgcghpcikbnkaaGreatDoorA30
import Derived.Test.YthgcghpcikbnkaaGreatDoorA17
set_option maxHeartbeats 16000000
set_option maxRecDepth 100000
namespace Go.Proofs.YthgcghpcikbnkaaGreatDoor.R
open Go.RowKit Go.Proofs.YthgcghpcikbnkaaGreatDoorW.PrintWords Go.Proofs.YthgcghpcikbnkaaGreatDoorW.PrintLast Go.Proofs.YthgcghpcikbnkaaGreatDoorW.PrintMore
set_option linter.unusedVariables false
set_option linter.unusedSimpArgs false
def TTyp (n : Nat) : Prop := ∀ {w : World} {B gt : Nat} {rows r : List Row} {v : Value}, TK B gt w rows → B ≤ w.heap.size → TypA (to_ B) w n v r → rows.length + r.length ≤ 1000000 → Calls Tryz.prog 28 #[ptr gt, v] w (TP B gt w (rows ++ r))
theorem typ_step {n : Nat} (ih : TTyp n) : TTyp (n + 1) := by
 intro w B gt rows r v hT hB hA hn
 have IH := mkA @ih
 clear ih
 have HTK := mkA hT
 have HBW := mkA hB
 have HN := mkA hn
 have LO := mkA hT.lo
 cases hA with
 | @named g k v l nn hAt hL hN =>
   have HA := mkA hAt
   have HL := mkA hL
   have HNN := mkA hN
   have a122 := fun w => ta_eq (P := Tryz.prog) 122 (.pointer 123) (by kernel_rfl) rfl (R.ptr g) 75 w
   clear hAt hL hN hT hB hn
   obtain ⟨gl, la, lz, ls, rfl, HLC⟩ := HL.out
   go_enter Tryz.func28, Tryz.ntmps28
   go_upto_region 6 with (first
    | ((with_reducible refine gate_dst (N := 2) rfl ?_); refine box_event ?hg (N := 2) ?hd (cs := #[R.ptr gt]) (t := 35) ?hr ?_; (case hd => rfl); (case hg => rfl); (case hr => first | (go_simp; done) | (go_simp; rfl)); intro gx hg w2 hbox hb; have B2 := mkA hb; have BX := mkA hbox; clear hbox hb hg))
   have KP := mkA (keeps_up (n := B) B2.out)
   have AL := mkA (show At (to_ B) w2 g #[.string k, R.ptr gl, nn] 123 from HA.out.fr KP.out)
   have LCL := mkA (show LocA (to_ B) w2 (R.ptr gl) from HL.out.fr KP.out)
   have NML := mkA (show NamedA (to_ B) w2 (R.ptr g) v from ⟨g, k, _, nn, rfl, HA.out.fr KP.out, HL.out.fr KP.out, HNN.out.fr KP.out⟩)
   have s_0 : w2.cell? ⟨gx, 0, none⟩ = some (R.ptr gt) := (blk_cell BX.out 0).trans rfl
   have c_0 : w2.cell? ⟨g, 1, none⟩ = some (R.ptr gl) := (blk_cell AL.out.2 1).trans rfl
   have T4 := mkA (show TK B gt w2 (rows) from HTK.out.step B2.out)
   have cT0 := mkA (fun (u : World) (hu : Below w2.heap.size w2 u) => (show Calls Tryz.prog 51 #[R.ptr g] u (fun e w' => e = .returned (.string v) ∧ w' = u) from on_walk (NML.out.fr (keeps_up hu))))
   have cP := mkA (fun (u : World) (hu : Below w2.heap.size w2 u) => (show Calls Tryz.prog 26 #[R.ptr gt, R.ptr gl, .agg #[.int .i64 20, .string v, .string ⟨#[]⟩, .string ⟨#[]⟩, .int .i64 0, .int .i64 0], .nilFunc] u (TP B gt w ((rows) ++ nd 20 v ⟨#[]⟩ ⟨#[]⟩ 0 [])) from (put_walk (T4.out.step hu) (LCL.out.fr (keeps_up hu)) (Nat.le_trans HBW.out (below_step B2.out hu).size) (by have h_ := HN.out; rw [nd_len] at h_; omega) (.inl ⟨rfl, rfl⟩)).mono fun e w' q => ⟨q.1, q.2.1, (TF.of HBW.out (below_step B2.out hu)).trans q.2.2⟩))
   go_still_tail 8, (by kernel_rfl)
   still_call (cT0.out _ (by first | exact below_drew1 (Below.refl _ _) | exact Below.refl _ _))
   repeat still_step
   refine wpStill_nil ?_
   go_wp2_with (first
    | (go_at_call 26; refine (cP.out _ ?_).mono ?_; (first | exact below_drew1 (Below.refl _ _) | exact Below.refl _ _); rintro e w5 ⟨rfl, q1, q2⟩; have Q1 := mkA q1; have Q2 := mkA q2; clear q1 q2))
   go_end0
   exact ⟨rfl, Q1.out, Q2.out⟩
 | @lst g k l tt r hAt hL hX =>
   have HA := mkA hAt
   have HL := mkA hL
   have HXX := mkA hX
   have a122 := fun w => ta_ne (P := Tryz.prog) 125 122 (.pointer 123) (.pointer none) (by kernel_rfl) rfl (by kernel_rfl) (by decide) (R.ptr g) 75 w
   have a125 := fun w => ta_eq (P := Tryz.prog) 125 (.pointer 127) (by kernel_rfl) rfl (R.ptr g) 75 w
   clear hAt hL hX hT hB hn
   obtain ⟨gl, la, lz, ls, rfl, HLC⟩ := HL.out
   go_enter Tryz.func28, Tryz.ntmps28
   go_upto_region 9 with (first
    | ((with_reducible refine gate_dst (N := 2) rfl ?_); refine box_event ?hg (N := 2) ?hd (cs := #[R.ptr gt]) (t := 35) ?hr ?_; (case hd => rfl); (case hg => rfl); (case hr => first | (go_simp; done) | (go_simp; rfl)); intro gx hg w2 hbox hb; have B2 := mkA hb; have BX := mkA hbox; clear hbox hb hg)
    | ((with_reducible refine gate_dst (N := 5) rfl ?_); refine box_event ?hg (N := 5) ?hd (cs := #[.pointer none]) (t := 125) ?hr ?_; (case hd => rfl); (case hg => rfl); (case hr => first | (go_simp; done) | (go_simp; rfl)); intro gv hg w3 hbox hb; have B3 := mkA (below_step B2.out hb); have BV := mkA hbox; have BX3 := mkA (blk_below BX.out hb); have GV := mkA (show w.heap.size ≤ gv by rw [hg]; exact B2.out.size); have GXV := mkA (show gx ≠ gv from Nat.ne_of_lt (by rw [hg]; exact blk_lt BX.out)); have z0 : w3.cell? ⟨gv, 0, none⟩ = some (.pointer none) := (blk_cell hbox 0).trans rfl; have zf0 := blk_frozen hbox 0; clear hbox hb hg))
   obtain ⟨w4, hw4⟩ : ∃ w4, w4 = w3.setCell ⟨gv, 0, none⟩ (R.ptr g) := ⟨_, rfl⟩
   have B4 := mkA (show Below w.heap.size w w4 by rw [hw4]; exact B3.out.setCell (p := ⟨gv, 0, none⟩) GV.out _)
   have BV4 := mkA (show w4.heap[gv]? = some (.cells #[R.ptr g] 125 (0, 0)) by rw [hw4]; exact blk_put (cs := #[.pointer none]) BV.out 0 _ rfl)
   have BX4 := mkA (show w4.heap[gx]? = some (.cells #[R.ptr gt] 35 (0, 0)) by rw [hw4]; exact blk_far (p := ⟨gv, 0, none⟩) BX3.out GXV.out _)
   rw [← hw4]
   clear hw4 z0 zf0 B3 BX3 BV
   have KP := mkA (keeps_up (n := B) B4.out)
   have AL := mkA (show At (to_ B) w4 g #[.string k, R.ptr gl, tt] 127 from HA.out.fr KP.out)
   have LCL := mkA (show LocA (to_ B) w4 (R.ptr gl) from HL.out.fr KP.out)
   have XL := mkA (show TypA (to_ B) w4 n tt r from TypA.fr KP.out _ _ _ HXX.out)
   have s_0 : w4.cell? ⟨gx, 0, none⟩ = some (R.ptr gt) := (blk_cell BX4.out 0).trans rfl
   have s_1 : w4.cell? ⟨gv, 0, none⟩ = some (R.ptr g) := (blk_cell BV4.out 0).trans rfl
   have c_0 : w4.cell? ⟨g, 1, none⟩ = some (R.ptr gl) := (blk_cell AL.out.2 1).trans rfl
   have T4 := mkA (show TK B gt w4 (rows) from HTK.out.step B4.out)
   have cP := mkA (fun (u : World) (hu : Below w4.heap.size w4 u) => (show Calls Tryz.prog 26 #[R.ptr gt, R.ptr gl, .agg #[.int .i64 21, .string ⟨#[]⟩, .string ⟨#[]⟩, .string ⟨#[]⟩, .int .i64 0, .int .i64 0], .func (.func 52) #[] #[R.ptr gx, R.ptr gv]] u (TP B gt w ((rows) ++ nd 21 ⟨#[]⟩ ⟨#[]⟩ ⟨#[]⟩ 0 r)) from (put_walk (T4.out.step hu) (LCL.out.fr (keeps_up hu)) (Nat.le_trans HBW.out (below_step B4.out hu).size) (by have h_ := HN.out; rw [nd_len] at h_; omega) (.inr ⟨52, _, rfl, (fun w => by kernel_rfl), fun w1 rows1 f1 t1 b1 => clo_52 (f1.typ _ _ _ (blk_below BX4.out hu) (by decide) (by decide) (by decide)) (f1.typ _ _ _ (blk_below BV4.out hu) (by decide) (by decide) (by decide)) ((blk_cell ((AL.out.fr (keeps_up hu)).fr f1.keeps).2 2).trans rfl) (fun u2 hu2 => (IH.out (t1.step hu2) (Nat.le_trans (f1.big (Nat.le_trans HBW.out (below_step B4.out hu).size)) hu2.size) (TypA.fr (keeps_up hu2) _ _ _ (TypA.fr f1.keeps _ _ _ (TypA.fr (keeps_up hu) _ _ _ XL.out))) b1).mono fun e w' q => ⟨q.1, q.2.1, (TF.of (f1.big (Nat.le_trans HBW.out (below_step B4.out hu).size)) hu2).trans q.2.2⟩) (fun _ _ q => q.1)⟩)).mono fun e w' q => ⟨q.1, q.2.1, (TF.of HBW.out (below_step B4.out hu)).trans q.2.2⟩))
   go_still_tail 7, (by kernel_rfl)
   go_wp2_with (first
    | (go_at_call 26; refine (cP.out _ ?_).mono ?_; (first | exact below_drew1 (Below.refl _ _) | exact Below.refl _ _); rintro e w5 ⟨rfl, q1, q2⟩; have Q1 := mkA q1; have Q2 := mkA q2; clear q1 q2))
   go_end0
   exact ⟨rfl, Q1.out, Q2.out⟩
 | @non g k l tt r hAt hL hX =>
   have HA := mkA hAt
   have HL := mkA hL
   have HXX := mkA hX
   have a122 := fun w => ta_ne (P := Tryz.prog) 128 122 (.pointer 123) (.pointer none) (by kernel_rfl) rfl (by kernel_rfl) (by decide) (R.ptr g) 75 w
   have a125 := fun w => ta_ne (P := Tryz.prog) 128 125 (.pointer 127) (.pointer none) (by kernel_rfl) rfl (by kernel_rfl) (by decide) (R.ptr g) 75 w
   have a128 := fun w => ta_eq (P := Tryz.prog) 128 (.pointer 129) (by kernel_rfl) rfl (R.ptr g) 75 w
   clear hAt hL hX hT hB hn
   obtain ⟨gl, la, lz, ls, rfl, HLC⟩ := HL.out
   go_enter Tryz.func28, Tryz.ntmps28
   go_upto_region 12 with (first
    | ((with_reducible refine gate_dst (N := 2) rfl ?_); refine box_event ?hg (N := 2) ?hd (cs := #[R.ptr gt]) (t := 35) ?hr ?_; (case hd => rfl); (case hg => rfl); (case hr => first | (go_simp; done) | (go_simp; rfl)); intro gx hg w2 hbox hb; have B2 := mkA hb; have BX := mkA hbox; clear hbox hb hg)
    | ((with_reducible refine gate_dst (N := 6) rfl ?_); refine box_event ?hg (N := 6) ?hd (cs := #[.pointer none]) (t := 128) ?hr ?_; (case hd => rfl); (case hg => rfl); (case hr => first | (go_simp; done) | (go_simp; rfl)); intro gv hg w3 hbox hb; have B3 := mkA (below_step B2.out hb); have BV := mkA hbox; have BX3 := mkA (blk_below BX.out hb); have GV := mkA (show w.heap.size ≤ gv by rw [hg]; exact B2.out.size); have GXV := mkA (show gx ≠ gv from Nat.ne_of_lt (by rw [hg]; exact blk_lt BX.out)); have z0 : w3.cell? ⟨gv, 0, none⟩ = some (.pointer none) := (blk_cell hbox 0).trans rfl; have zf0 := blk_frozen hbox 0; clear hbox hb hg))
   obtain ⟨w4, hw4⟩ : ∃ w4, w4 = w3.setCell ⟨gv, 0, none⟩ (R.ptr g) := ⟨_, rfl⟩
   have B4 := mkA (show Below w.heap.size w w4 by rw [hw4]; exact B3.out.setCell (p := ⟨gv, 0, none⟩) GV.out _)
   have BV4 := mkA (show w4.heap[gv]? = some (.cells #[R.ptr g] 128 (0, 0)) by rw [hw4]; exact blk_put (cs := #[.pointer none]) BV.out 0 _ rfl)
   have BX4 := mkA (show w4.heap[gx]? = some (.cells #[R.ptr gt] 35 (0, 0)) by rw [hw4]; exact blk_far (p := ⟨gv, 0, none⟩) BX3.out GXV.out _)
   rw [← hw4]
   clear hw4 z0 zf0 B3 BX3 BV
   have KP := mkA (keeps_up (n := B) B4.out)
   have AL := mkA (show At (to_ B) w4 g #[.string k, R.ptr gl, tt] 129 from HA.out.fr KP.out)
   have LCL := mkA (show LocA (to_ B) w4 (R.ptr gl) from HL.out.fr KP.out)
   have XL := mkA (show TypA (to_ B) w4 n tt r from TypA.fr KP.out _ _ _ HXX.out)
   have s_0 : w4.cell? ⟨gx, 0, none⟩ = some (R.ptr gt) := (blk_cell BX4.out 0).trans rfl
   have s_1 : w4.cell? ⟨gv, 0, none⟩ = some (R.ptr g) := (blk_cell BV4.out 0).trans rfl
   have c_0 : w4.cell? ⟨g, 1, none⟩ = some (R.ptr gl) := (blk_cell AL.out.2 1).trans rfl
   have T4 := mkA (show TK B gt w4 (rows) from HTK.out.step B4.out)
   have cP := mkA (fun (u : World) (hu : Below w4.heap.size w4 u) => (show Calls Tryz.prog 26 #[R.ptr gt, R.ptr gl, .agg #[.int .i64 22, .string ⟨#[]⟩, .string ⟨#[]⟩, .string ⟨#[]⟩, .int .i64 0, .int .i64 0], .func (.func 53) #[] #[R.ptr gx, R.ptr gv]] u (TP B gt w ((rows) ++ nd 22 ⟨#[]⟩ ⟨#[]⟩ ⟨#[]⟩ 0 r)) from (put_walk (T4.out.step hu) (LCL.out.fr (keeps_up hu)) (Nat.le_trans HBW.out (below_step B4.out hu).size) (by have h_ := HN.out; rw [nd_len] at h_; omega) (.inr ⟨53, _, rfl, (fun w => by kernel_rfl), fun w1 rows1 f1 t1 b1 => clo_53 (f1.typ _ _ _ (blk_below BX4.out hu) (by decide) (by decide) (by decide)) (f1.typ _ _ _ (blk_below BV4.out hu) (by decide) (by decide) (by decide)) ((blk_cell ((AL.out.fr (keeps_up hu)).fr f1.keeps).2 2).trans rfl) (fun u2 hu2 => (IH.out (t1.step hu2) (Nat.le_trans (f1.big (Nat.le_trans HBW.out (below_step B4.out hu).size)) hu2.size) (TypA.fr (keeps_up hu2) _ _ _ (TypA.fr f1.keeps _ _ _ (TypA.fr (keeps_up hu) _ _ _ XL.out))) b1).mono fun e w' q => ⟨q.1, q.2.1, (TF.of (f1.big (Nat.le_trans HBW.out (below_step B4.out hu).size)) hu2).trans q.2.2⟩) (fun _ _ q => q.1)⟩)).mono fun e w' q => ⟨q.1, q.2.1, (TF.of HBW.out (below_step B4.out hu)).trans q.2.2⟩))
   go_still_tail 7, (by kernel_rfl)
   go_wp2_with (first
    | (go_at_call 26; refine (cP.out _ ?_).mono ?_; (first | exact below_drew1 (Below.refl _ _) | exact Below.refl _ _); rintro e w5 ⟨rfl, q1, q2⟩; have Q1 := mkA q1; have Q2 := mkA q2; clear q1 q2))
   go_end0
   exact ⟨rfl, Q1.out, Q2.out⟩
theorem typ_take : ∀ n, TTyp n := by
 intro n
 induction n with
 | zero => intro w B gt rows r v hT hB hA hn; exact hA.elim
 | succ n ih => exact typ_step ih
theorem val_takeE {w : World} {B gt : Nat} {rows r : List Row} {v : Value} (hT : TK B gt w rows) (hB : B ≤ w.heap.size) (h : ValE (to_ B) w r v) (hn : rows.length + r.length ≤ 1000000) : Calls Tryz.prog 29 #[ptr gt, v] w (TP B gt w (rows ++ r)) := by
 obtain ⟨n, h⟩ := h
 exact val_take n hT hB h hn
theorem typ_takeE {w : World} {B gt : Nat} {rows r : List Row} {v : Value} (hT : TK B gt w rows) (hB : B ≤ w.heap.size) (h : TypE (to_ B) w r v) (hn : rows.length + r.length ≤ 1000000) : Calls Tryz.prog 28 #[ptr gt, v] w (TP B gt w (rows ++ r)) := by
 obtain ⟨n, h⟩ := h
 exact typ_take n hT hB h hn
theorem clo_27v {w : World} {B gt gx gv g : Nat} {rows r0 r1 : List Row} {te : TypeId} {x0 p1 : Value} {cs : Array Value} (hT : TK B gt w rows) (hB : B ≤ w.heap.size) (hx : w.heap[gx]? = some (.cells #[ptr gt] 35 (0, 0))) (hv : w.heap[gv]? = some (.cells #[ptr g] 71 (0, 0))) (hA : At (to_ B) w g cs 79) (hc0 : cs[3]? = some x0) (hc1 : cs[4]? = some (.iface te p1)) (h0 : ∀ u, TF B w u → TK B gt u (rows) → Calls Tryz.prog 28 #[ptr gt, x0] u (TP B gt u (rows ++ r0))) (h1 : ∀ u, TF B w u → TK B gt u (rows ++ r0) → Calls Tryz.prog 29 #[ptr gt, (.iface te p1)] u (TP B gt u (rows ++ r0 ++ r1))) : Calls Tryz.prog 27 #[ptr gx, ptr gv] w (TP B gt w (rows ++ r0 ++ r1)) := by
 have W0 := mkA (TF.refl B w)
 have HTK := mkA hT
 have HBW := mkA hB
 have HX := mkA hx
 have HV := mkA hv
 have HA := mkA hA
 have HC0 := mkA hc0
 have HC1 := mkA hc1
 have H0 := mkA h0
 have H1 := mkA h1
 clear hT hB hx hv hA hc0 h0 hc1 h1
 go_enter Tryz.func27, Tryz.ntmps27
 go_upto_region 0 with (fail)
 have s0_0 : w.cell? ⟨gx, 0, none⟩ = some (R.ptr gt) := (blk_cell (W0.out.typ _ _ _ HX.out (by decide) (by decide) (by decide)) 0).trans rfl
 have s0_1 : w.cell? ⟨gv, 0, none⟩ = some (R.ptr g) := (blk_cell (W0.out.typ _ _ _ HV.out (by decide) (by decide) (by decide)) 0).trans rfl
 have s0_2 : w.cell? ⟨g, 3, none⟩ = some x0 := (blk_cell (HA.out.fr W0.out.keeps).2 3).trans HC0.out
 have CP0 := mkA (fun (u : World) (hu : Below w.heap.size w u) => (H0.out u (W0.out.step (W0.out.big HBW.out) hu) (HTK.out.step hu)).mono fun e w' q => (show TP B gt w (rows ++ r0) e w' from ⟨q.1, q.2.1, (W0.out.step (W0.out.big HBW.out) hu).trans q.2.2⟩))
 go_still_tail 5, (by kernel_rfl)
 go_upto_region 1 with (first
  | (go_at_call 28; refine (CP0.out _ ?_).mono ?_; (first | exact below_drew1 (Below.refl _ _) | exact Below.refl _ _); rintro e w5 ⟨rfl, q1, q2⟩; have T0 := mkA q1; have F0 := mkA q2; clear q1 q2))
 clear s0_0 s0_1 s0_2
 have s1_0 : w5.cell? ⟨gx, 0, none⟩ = some (R.ptr gt) := (blk_cell (F0.out.typ _ _ _ HX.out (by decide) (by decide) (by decide)) 0).trans rfl
 have s1_1 : w5.cell? ⟨gv, 0, none⟩ = some (R.ptr g) := (blk_cell (F0.out.typ _ _ _ HV.out (by decide) (by decide) (by decide)) 0).trans rfl
 have s1_2 : w5.cell? ⟨g, 4, none⟩ = some (.iface te p1) := (blk_cell (HA.out.fr F0.out.keeps).2 4).trans HC1.out
 have CP1 := mkA (fun (u : World) (hu : Below w5.heap.size w5 u) => (H1.out u (F0.out.step (F0.out.big HBW.out) hu) (T0.out.step hu)).mono fun e w' q => (show TP B gt w (rows ++ r0 ++ r1) e w' from ⟨q.1, q.2.1, (F0.out.step (F0.out.big HBW.out) hu).trans q.2.2⟩))
 go_upto_region 2 with (fail)
 go_still_tail 5, (by kernel_rfl)
 go_wp2_with (first
  | (go_at_call 29; refine (CP1.out _ ?_).mono ?_; (first | exact below_drew1 (Below.refl _ _) | exact Below.refl _ _); rintro e w6 ⟨rfl, q1, q2⟩; have T1 := mkA q1; have F1 := mkA q2; clear q1 q2))
 clear s1_0 s1_1 s1_2
 go_end0
 exact ⟨rfl, T1.out, F1.out⟩
theorem clo_27n {w : World} {B gt gx gv g : Nat} {rows r0 : List Row} {x0 : Value} {cs : Array Value} (hT : TK B gt w rows) (hB : B ≤ w.heap.size) (hx : w.heap[gx]? = some (.cells #[ptr gt] 35 (0, 0))) (hv : w.heap[gv]? = some (.cells #[ptr g] 71 (0, 0))) (hA : At (to_ B) w g cs 79) (hc0 : cs[3]? = some x0) (hc1 : cs[4]? = some .nilIface) (h0 : ∀ u, TF B w u → TK B gt u (rows) → Calls Tryz.prog 28 #[ptr gt, x0] u (TP B gt u (rows ++ r0))) : Calls Tryz.prog 27 #[ptr gx, ptr gv] w (TP B gt w (rows ++ r0)) := by
 have W0 := mkA (TF.refl B w)
 have HTK := mkA hT
 have HBW := mkA hB
 have HX := mkA hx
 have HV := mkA hv
 have HA := mkA hA
 have HC1 := mkA hc1
 have HC0 := mkA hc0
 have H0 := mkA h0
 clear hT hB hx hv hA hc1 hc0 h0
 go_enter Tryz.func27, Tryz.ntmps27
 go_upto_region 0 with (fail)
 have s0_0 : w.cell? ⟨gx, 0, none⟩ = some (R.ptr gt) := (blk_cell (W0.out.typ _ _ _ HX.out (by decide) (by decide) (by decide)) 0).trans rfl
 have s0_1 : w.cell? ⟨gv, 0, none⟩ = some (R.ptr g) := (blk_cell (W0.out.typ _ _ _ HV.out (by decide) (by decide) (by decide)) 0).trans rfl
 have s0_2 : w.cell? ⟨g, 3, none⟩ = some x0 := (blk_cell (HA.out.fr W0.out.keeps).2 3).trans HC0.out
 have CP0 := mkA (fun (u : World) (hu : Below w.heap.size w u) => (H0.out u (W0.out.step (W0.out.big HBW.out) hu) (HTK.out.step hu)).mono fun e w' q => (show TP B gt w (rows ++ r0) e w' from ⟨q.1, q.2.1, (W0.out.step (W0.out.big HBW.out) hu).trans q.2.2⟩))
 go_still_tail 5, (by kernel_rfl)
 go_upto_region 1 with (first
  | (go_at_call 28; refine (CP0.out _ ?_).mono ?_; (first | exact below_drew1 (Below.refl _ _) | exact Below.refl _ _); rintro e w5 ⟨rfl, q1, q2⟩; have T0 := mkA q1; have F0 := mkA q2; clear q1 q2))
 clear s0_0 s0_1 s0_2
 have s1_1 : w5.cell? ⟨gv, 0, none⟩ = some (R.ptr g) := (blk_cell (F0.out.typ _ _ _ HV.out (by decide) (by decide) (by decide)) 0).trans rfl
 have s1_2 : w5.cell? ⟨g, 4, none⟩ = some .nilIface := (blk_cell (HA.out.fr F0.out.keeps).2 4).trans HC1.out
 go_wp2
 go_end0
 exact ⟨rfl, T0.out, F0.out⟩
theorem vars_take {w : World} {B gt : Nat} {rows r : List Row} {sl : Value} (hT : TK B gt w rows) (hB : B ≤ w.heap.size) (hS : SlA (to_ B) w 71 (fun v r => VdfA (to_ B) w r v) sl r) (hn : rows.length + r.length ≤ 1000000) : Calls Tryz.prog 12 #[ptr gt, sl] w (TP B gt w (rows ++ r)) := by
 obtain ⟨m, xs, hm, hO, hM⟩ := hS
 obtain ⟨hxn, hsh⟩ := own_shape hO
 obtain ⟨A, cp, rfl⟩ : ∃ (A : Option Addr) (cp : Nat), sl = .slice A m cp := by
  rcases hsh with ⟨e1, e2⟩ | ⟨g1, cp, e1, _⟩
  ·exact ⟨none, 0, by rw [e1, e2]⟩
  ·exact ⟨_, cp, e1⟩
 have HMX := mkA hm
 have HO := mkA hO
 have HM := mkA hM
 have HXN := mkA hxn
 have HSH := mkA hsh
 have HTK := mkA hT
 have HBW := mkA hB
 have HN := mkA hn
 clear hm hO hM hxn hsh hT hB hn
 go_enter Tryz.func12, Tryz.ntmps12
 go_wp2_with (first
  | ((with_reducible refine gate_dst (N := 2) rfl ?_); refine box_event ?hg (N := 2) ?hd (cs := #[R.ptr gt]) (t := 35) ?hr ?_; (case hd => rfl); (case hg => rfl); (case hr => first | (go_simp; done) | (go_simp; rfl)); intro gx hg w2 hbox hb; have HXs := mkA hbox; have HTs := mkA (HTK.out.step hb); have HFs := mkA (TF.of HBW.out hb); clear hbox hb hg))
 go_loopw [9] (fun v9 wr => ∃ (j : Nat) (ra rb : List Row), v9 = .int .i64 j ∧ Aside0 (j ≤ m) ∧ Aside0 (Many (fun v r => VdfA (to_ B) w r v) (xs.drop j) rb) ∧ Aside0 (ra ++ rb = r) ∧ Aside0 (TK B gt wr (rows ++ ra)) ∧ Aside0 (TF B w wr) ∧ Aside0 (wr.heap[gx]? = some (.cells #[R.ptr gt] 35 (0, 0)))) (fun v9 _ => m - (intOf v9).toNat)
 case atStart => exact ⟨0, [], r, rfl, ⟨Nat.zero_le _⟩, ⟨by rw [List.drop_zero]; exact HM.out⟩, ⟨rfl⟩, ⟨by rw [List.append_nil]; exact HTs.out⟩, HFs, HXs⟩
 case round =>
  obtain ⟨j, ra, rb, rfl, HJ, HMb, HRR, HTr, HFr, HXr⟩ := hrel
  by_cases hlt : j < m
  ·have HLT := mkA hlt
   obtain ⟨x, hx⟩ : ∃ x, xs[j]? = some x := ⟨_, List.getElem?_eq_getElem (by rw [HXN.out]; exact hlt)⟩
   have hd : xs.drop j = x :: xs.drop (j + 1) := by
    obtain ⟨h1, h2⟩ := List.getElem?_eq_some_iff.1 hx
    rw [List.drop_eq_getElem_cons h1, h2]
   have hmb := HMb.out
   rw [hd] at hmb
   obtain ⟨a, b, rfl, hq, hmb2⟩ := many_cons hmb
   have HMb2 := mkA hmb2
   clear hd hmb hmb2 HMb
   have hA : ∃ g1 : Nat, A = some ⟨g1, 0, none⟩ := by
    rcases HSH.out with ⟨_, e⟩ | ⟨g1, cp1, e, _⟩
    ·omega
    ·injection e with e1 e2 e3; exact ⟨g1, e1⟩
   obtain ⟨g1, rfl⟩ := hA
   have hrd : wr.cell? ⟨g1, j, none⟩ = some x := own_read (HO.out.fr HFr.out.keeps) hx
   have HBr := mkA (HFr.out.big HBW.out)
   have HNr := mkA (show (rows ++ ra).length + a.length ≤ 1000000 by have h1 := HN.out; rw [← HRR.out] at h1; simp only [List.length_append] at h1 ⊢; omega)
   have q0 : (j < m) = True := eq_true hlt
   have hmm : m ≤ 1000000 := HMX.out
   have HNW := mkA (show wrap64 ((j : Int) + 1) = ((j + 1 : Nat) : Int) from (w64 (by omega) (by omega)).trans (by omega))
   clear hlt hmm hx
   have hq : VdfA (to_ B) w a x := hq
   obtain ⟨gf, kf, vf, lf, xf, yf, df, af, bf, rfl, hAf, hLf, hVf, hTf, hDf, rfl⟩ := hq
   obtain ⟨gq, kq, lq, nq, rfl, hAq, hLq, hNf⟩ := hVf
   have HAf := mkA hAf
   have HLf := mkA hLf
   have HTf := mkA hTf
   have HDf := mkA hDf
   have HAq := mkA hAq
   have HNf := mkA hNf
   clear hAf hLf hTf hDf hAq hLq hNf
   obtain ⟨gl, la, lz, ls, rfl, HLC⟩ := HLf.out
   have B2 := mkA (Below.refl wr.heap.size wr)
   go_upto_region 5 with (first
    | ((with_reducible refine gate_dst (N := 5) rfl ?_); refine box_event ?hg (N := 5) ?hd (cs := #[.pointer none]) (t := 71) ?hr ?_; (case hd => rfl); (case hg => rfl); (case hr => first | (go_simp; done) | (go_simp; rfl)); intro gv hg w3 hbox hb; have B3 := mkA (below_step B2.out hb); have BV := mkA hbox; have BX3 := mkA (blk_below HXr.out hb); have GV := mkA (show wr.heap.size ≤ gv by rw [hg]; exact B2.out.size); have GXV := mkA (show gx ≠ gv from Nat.ne_of_lt (by rw [hg]; exact blk_lt HXr.out)); have z0 : w3.cell? ⟨gv, 0, none⟩ = some (.pointer none) := (blk_cell hbox 0).trans rfl; have zf0 := blk_frozen hbox 0; clear hbox hb hg))
   obtain ⟨w4, hw4⟩ : ∃ w4, w4 = w3.setCell ⟨gv, 0, none⟩ (R.ptr gf) := ⟨_, rfl⟩
   have B4 := mkA (show Below wr.heap.size wr w4 by rw [hw4]; exact B3.out.setCell (p := ⟨gv, 0, none⟩) GV.out _)
   have BV4 := mkA (show w4.heap[gv]? = some (.cells #[R.ptr gf] 71 (0, 0)) by rw [hw4]; exact blk_put (cs := #[.pointer none]) BV.out 0 _ rfl)
   have BX4 := mkA (show w4.heap[gx]? = some (.cells #[R.ptr gt] 35 (0, 0)) by rw [hw4]; exact blk_far (p := ⟨gv, 0, none⟩) BX3.out GXV.out _)
   rw [← hw4]
   clear hw4 z0 zf0 B3 BX3 BV
   have KP := mkA (keeps_up (n := B) B4.out)
   have AL := mkA (show At (to_ B) w4 gf #[.string kf, R.ptr gl, R.ptr gq, yf, df] 79 from (HAf.out.fr HFr.out.keeps).fr KP.out)
   have AQL := mkA (show At (to_ B) w4 gq #[.string kq, lq, nq] 83 from (HAq.out.fr HFr.out.keeps).fr KP.out)
   have LCL := mkA (show LocA (to_ B) w4 (R.ptr gl) from (HLf.out.fr HFr.out.keeps).fr KP.out)
   have NML := mkA (show NameA (to_ B) w4 nq vf from (HNf.out.fr HFr.out.keeps).fr KP.out)
   have TYL := mkA (show TypE (to_ B) w4 af yf from (TypE.fr (TypE.fr HTf.out HFr.out.keeps) KP.out))
   have DVL := mkA (show (df = .nilIface ∧ bf = []) ∨ ValE (to_ B) w4 bf df from HDf.out.imp id (fun h => ValE.fr (ValE.fr h HFr.out.keeps) KP.out))
   have s_0 : w4.cell? ⟨gx, 0, none⟩ = some (R.ptr gt) := (blk_cell BX4.out 0).trans rfl
   have s_1 : w4.cell? ⟨gv, 0, none⟩ = some (R.ptr gf) := (blk_cell BV4.out 0).trans rfl
   have c_0 : w4.cell? ⟨gf, 2, none⟩ = some (R.ptr gq) := (blk_cell AL.out.2 2).trans rfl
   have c_1 : w4.cell? ⟨gf, 1, none⟩ = some (R.ptr gl) := (blk_cell AL.out.2 1).trans rfl
   have c_q : w4.cell? ⟨gq, 2, none⟩ = some nq := (blk_cell AQL.out.2 2).trans rfl
   have CT := mkA (text_walk NML.out)
   go_upto_region 7 with (first
    | (go_at_call 25; (with_reducible refine CT.out.mono ?_); rintro e w_ ⟨rfl, hw_⟩; subst w_))
   have WI := mkA (fun (u : World) (hu : Below w4.heap.size w4 u) => (show Wi B gt u (.func (.func 27) #[] #[R.ptr gx, R.ptr gv]) (af ++ bf) from by
    refine .inr ⟨27, _, rfl, (fun w => by kernel_rfl), fun w1 rows1 f1 t1 b1 => ?_⟩
    have hB1 := (f1.big (Nat.le_trans HBr.out (below_step B4.out hu).size))
    have hx1 := f1.typ _ _ _ (blk_below BX4.out hu) (by decide) (by decide) (by decide)
    have hv1 := f1.typ _ _ _ (blk_below BV4.out hu) (by decide) (by decide) (by decide)
    have hA1 := (AL.out.fr (keeps_up hu)).fr f1.keeps
    have hT1 := TypE.fr (TypE.fr TYL.out (keeps_up hu)) f1.keeps
    rcases DVL.out with ⟨rfl, rfl⟩ | hd
    ·rw [List.append_nil] at b1 ⊢
     exact clo_27n t1 hB1 hx1 hv1 hA1 rfl rfl (fun u2 f2 t2 => typ_takeE t2 (f2.big hB1) (TypE.fr hT1 f2.keeps) b1)
    ·obtain ⟨te, p1, rfl⟩ := hd.shape
     have hd1 := ValE.fr (ValE.fr hd (keeps_up hu)) f1.keeps
     rw [← List.append_assoc]
     exact clo_27v t1 hB1 hx1 hv1 hA1 rfl rfl (fun u2 f2 t2 => typ_takeE t2 (f2.big hB1) (TypE.fr hT1 f2.keeps) (by rw [List.length_append] at b1; omega)) (fun u2 f2 t2 => val_takeE t2 (f2.big hB1) (ValE.fr hd1 f2.keeps) (by simp only [List.length_append] at b1 ⊢; omega))))
   have T4 := mkA (show TK B gt w4 (rows ++ ra) from HTr.out.step B4.out)
   have cP := mkA (fun (u : World) (hu : Below w4.heap.size w4 u) => (show Calls Tryz.prog 26 #[R.ptr gt, R.ptr gl, .agg #[.int .i64 4, .string vf, .string ⟨#[]⟩, .string ⟨#[]⟩, .int .i64 0, .int .i64 0], .func (.func 27) #[] #[R.ptr gx, R.ptr gv]] u (TP B gt wr ((rows ++ ra) ++ nd 4 vf ⟨#[]⟩ ⟨#[]⟩ 0 (af ++ bf))) from (put_walk (T4.out.step hu) (LCL.out.fr (keeps_up hu)) (Nat.le_trans HBr.out (below_step B4.out hu).size) (by have h_ := HNr.out; rw [nd_len] at h_; omega) (WI.out u hu)).mono fun e w' q => ⟨q.1, q.2.1, (TF.of HBr.out (below_step B4.out hu)).trans q.2.2⟩))
   go_still_tail 8, (by kernel_rfl)
   go_wp2_with (first
    | (go_at_call 26; refine (cP.out _ ?_).mono ?_; (first | exact below_drew1 (Below.refl _ _) | exact Below.refl _ _); rintro e w5 ⟨rfl, q1, q2⟩; have Q1 := mkA q1; have Q2 := mkA q2; clear q1 q2))
   go_roundw
   case rel => exact ⟨j + 1, ra ++ nd 4 vf e0 e0 0 (af ++ bf), b, congrArg (Value.int .i64) HNW.out, ⟨HLT.out⟩, HMb2, ⟨by rw [← HRR.out, List.append_assoc]⟩, ⟨by rw [← List.append_assoc]; exact Q1.out⟩, ⟨HFr.out.trans Q2.out⟩, ⟨Q2.out.typ _ _ _ HXr.out (by decide) (by decide) (by decide)⟩⟩
   case measure => exact msr_up2 m j HLT.out HMX.out
  ·have q0 : (j < m) = False := eq_false hlt
   have hjm : j = m := by have := HJ.out; omega
   have hra : ra = r := by
    have h1 := HMb.out
    rw [hjm, ← HXN.out, List.drop_length] at h1
    cases h1
    rw [← HRR.out, List.append_nil]
   have HRA := mkA hra
   clear hlt hjm hra
   go_wp2
   go_end0
   exact ⟨rfl, by rw [← HRA.out]; exact HTr.out, HFr.out⟩
set_option maxHeartbeats 4000000 in
set_option maxRecDepth 100000 in
theorem runeAt_far (s : ByteArray) (b cap : Nat) (w : World) (i : Nat) (h1 : s.size ≤ i) :
 Calls Tryz.prog 129 #[.slice (some ⟨b, 0, none⟩) s.size cap, .int .i64 i] w fun e w' => e = .returned (.tuple #[.int .i32 (rn s i).1, .int .i64 (rn s i).2]) ∧ Below w.heap.size w w' := by
 have e1 : decide ((s.size : Int) ≤ (i : Int)) = true := decide_eq_true (by omega)
 have er : rn s i = (-1, 65533) := by unfold rn; rw [if_pos h1]
 rw [er]
 clear er
 go_enter Tryz.func129, Tryz.ntmps129
 go_wp2
 repeat (go_quiet (fail); try go_wp2)
 go_ret2
 exact ⟨rfl, by repeat (first | exact Below.refl _ _ | apply below_alloc | apply pw_below_drewN | apply below_drew1)⟩
theorem runeAt_any {w : World} {g b cap : Nat} {s : ByteArray} (h : Src w g b cap s) (i : Nat) :
 Calls Tryz.prog 129 #[.slice (some ⟨b, 0, none⟩) s.size cap, .int .i64 i] w fun e w' => e = .returned (.tuple #[.int .i32 (rn s i).1, .int .i64 (rn s i).2]) ∧ Below w.heap.size w w' := by
 by_cases hi : i ≤ s.size
 ·exact runeAt_src h i hi
 ·exact runeAt_far s b cap w i (by omega)
end Go.Proofs.YthgcghpcikbnkaaGreatDoor.R
