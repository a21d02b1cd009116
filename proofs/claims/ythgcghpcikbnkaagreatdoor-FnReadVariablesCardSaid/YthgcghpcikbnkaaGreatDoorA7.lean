/- A part of the proof of the theorem of this claim: Err, Pcs. No condition of its own. -/
import Derived.Test.YthgcghpcikbnkaaGreatDoorA6
import Derived.Test.YthgcghpcikbnkaaGreatDoorA3
set_option maxHeartbeats 16000000
set_option maxRecDepth 100000
namespace Go.Proofs.YthgcghpcikbnkaaGreatDoor.R
open Go.RowKit Go.Proofs.YthgcghpcikbnkaaGreatDoorW.PrintWords Go.Proofs.YthgcghpcikbnkaaGreatDoorW.PrintLast Go.Proofs.YthgcghpcikbnkaaGreatDoorW.PrintMore Go.Proofs.YthgcghpcikbnkaaGreatDoor.PFnReadVariables
set_option linter.unusedVariables false
set_option linter.unusedSimpArgs false
def Q (s : ByteArray) (r : List (List Int)) : Prop := ∀ x ∈ r, ∃ a b : Nat, x = [(a : Int), (b : Int)] ∧ a ≤ b ∧ b ≤ s.size
theorem blen (s : ByteArray) : (bytesOf s).length = s.size := by unfold bytesOf; simp [data_length]
theorem msr_up (n j : Nat) (h : j < n) (hn : n ≤ 2000) : n - (intOf (.int .i64 (wrap64 ((j : Int) + 1)))).toNat < n - (intOf (.int .i64 (j : Int))).toNat := by
 have e : wrap64 ((j : Int) + 1) = ((j + 1 : Nat) : Int) := (w64 (by omega) (by omega)).trans (by omega)
 rw [e]
 show n - ((j + 1 : Nat) : Int).toNat < n - ((j : Nat) : Int).toNat
 rw [Int.toNat_natCast, Int.toNat_natCast]
 omega
theorem bnne' {a b : Int} (h : a ≠ b) : (a == b) = false := beq_eq_false_iff_ne.2 h
theorem zz_calls {w : World} {g b cap : Nat} {s : ByteArray} (h : Src w g b cap s) : Calls Tryz.prog 175 #[.slice (some ⟨b, 0, none⟩) s.size cap] w fun e w' => ∃ (v : Value) (r : List (List Int)), e = .returned v ∧ Q s r ∧ r.length ≤ s.size ∧ Kd.S (Kd.slice 3 (Kd.int .i64)) 246 w' w.heap.size (fun _ => True) v r ∧ Below w.heap.size w w' := by
 have HS := mkA h
 have SZ := mkA h.small
 clear h
 go_enter Tryz.func175, Tryz.ntmps175
 go_wp2
 go_loopw [3, 4] (fun v3 v4 wr => ∃ (x3 : List (List Int)) (p : Nat), v4 = .int .i64 p ∧ Aside0 (p ≤ s.size ∧ x3.length ≤ p ∧ Q s x3) ∧ Aside0 (Kd.S (Kd.slice 3 (Kd.int .i64)) 246 wr w.heap.size (fun _ => True) v3 x3) ∧ Aside0 (Below w.heap.size w wr)) (fun _ v4 _ => s.size - (intOf v4).toNat)
 case atStart => exact ⟨[], 0, rfl, ⟨Nat.zero_le _, Nat.le_refl _, fun x hx => by cases hx⟩, ⟨by first | exact Kd.S_nil _ _ _ _ _ | exact Kd.N_nil _ _ _ _ _⟩, ⟨Below.refl _ _⟩⟩
 case round =>
  obtain ⟨x3, p, rfl, HR, HO, HB⟩ := hrel
  by_cases hp : p < s.size
  case neg =>
   have q1 : ((p : Int) < (s.size : Int)) = False := eq_false (by omega)
   have q2 : (p < s.size) = False := eq_false hp
   clear hp
   go_wp2
   go_ret
   exact ⟨_, x3, rfl, HR.out.2.2, Nat.le_trans HR.out.2.1 HR.out.1, HO.out, HB.out⟩
  case pos =>
   have q1 : ((p : Int) < (s.size : Int)) = True := eq_true (by omega)
   have q2 : (p < s.size) = True := eq_true hp
   have HP := mkA hp
   have HS1 := mkA (HS.out.below HB.out)
   have b0 : wr.cell? ⟨b, p, none⟩ = some (.int .u8 (bt s p)) := HS1.out.bytes p hp
   obtain ⟨x, hx⟩ : ∃ x, x = bt s p := ⟨_, rfl⟩
   rw [← hx] at b0
   have W1 : wrap64 ((p : Int) + 1) = ((p + 1 : Nat) : Int) := by have := SZ.out; exact (w64 (by omega) (by omega)).trans (by omega)
   have W2 : wrap64 ((p : Int) + 2) = ((p + 2 : Nat) : Int) := by have := SZ.out; exact (w64 (by omega) (by omega)).trans (by omega)
   have W3 : wrap64 (((p + 1 : Nat) : Int) + 1) = ((p + 2 : Nat) : Int) := by have := SZ.out; exact (w64 (by omega) (by omega)).trans (by omega)
   obtain ⟨j1, hj1⟩ : ∃ j1 : Nat, j1 = p + 1 := ⟨_, rfl⟩
   obtain ⟨j2, hj2⟩ : ∃ j2 : Nat, j2 = p + 2 := ⟨_, rfl⟩
   rw [← hj1] at W1 W3
   rw [← hj2] at W2 W3
   have J1 := mkA (show j1 = p + 1 ∧ p + 1 ≤ s.size by omega)
   have J2 := mkA hj2
   clear hj1 hj2 hx hp
   go_upto_region 5 with (fail)
   go_cut [11] (fun v11 wc => ∃ b : Bool, v11 = .bool b ∧ wr = wc ∧ Aside0 (b = true → j2 ≤ s.size))
   case first =>
    by_cases h13 : x = 13
    case neg =>
     have p1 := (bnne' h13)
     clear h13
     go_wp2
     go_meet
     exact ⟨false, rfl, rfl, ⟨fun e => by cases e⟩⟩
    case pos =>
     have p1 : (x == 13) = true := beq_iff_eq.2 h13
     by_cases h2 : j1 < s.size
     case neg =>
      have r1 : ((j1 : Int) < (s.size : Int)) = False := eq_false (by omega)
      have r2 : (j1 < s.size) = False := eq_false h2
      clear h13 h2
      go_wp2
      go_meet
      exact ⟨false, rfl, rfl, ⟨fun e => by cases e⟩⟩
     case pos =>
      have r1 : ((j1 : Int) < (s.size : Int)) = True := eq_true (by omega)
      have r2 : (j1 < s.size) = True := eq_true h2
      have b1 : wr.cell? ⟨b, j1, none⟩ = some (.int .u8 (bt s j1)) := HS1.out.bytes j1 h2
      obtain ⟨x2, hx2⟩ : ∃ x2, x2 = bt s j1 := ⟨_, rfl⟩
      rw [← hx2] at b1
      have J3 := mkA (show j2 ≤ s.size by have := J1.out; have := J2.out; omega)
      clear h13 h2 hx2
      go_wp2
      go_meet
      exact ⟨_, rfl, rfl, ⟨fun _ => J3.out⟩⟩
   case rest =>
    obtain ⟨bb, rfl, rfl, HBB⟩ := hcut
    cases bb
    case true =>
     have J3 := mkA (show j2 = p + 2 ∧ j2 ≤ s.size from ⟨J2.out, HBB.out rfl⟩)
     obtain ⟨y1, hy1⟩ : ∃ y : List Int, y = ([(p : Int), (j2 : Int)] : List Int) := ⟨_, rfl⟩
     obtain ⟨y2, hy2⟩ : ∃ y : List (List Int), y = x3 ++ [y1] := ⟨_, rfl⟩
     have HQ2 := mkA (show Q s y2 ∧ y2.length ≤ p + 1 by
      rw [hy2]
      refine ⟨fun x hx => ?_, by simp; exact HR.out.2.1⟩
      rcases List.mem_append.1 hx with hx | hx
      ·exact HR.out.2.2 x hx
      ·rw [List.mem_singleton.1 hx, hy1]; exact ⟨p, j2, rfl, by have := J3.out; omega, by have := J3.out; omega⟩)
     have Y1 := mkA hy1
     have Y2 := mkA hy2
     have LM := mkA (show x3.length < 5864062014805 by have := HR.out.2.1; have := HR.out.1; have := SZ.out; omega)
     clear hy1 hy2
     go_wp2_with (first | ((with_reducible refine gate_dst (N := 36) rfl ?_); (try (refine gate_guard (by rfl) ?_; dsimp only)); refine Kd.R_lit (Kd.int .i64) _ 3 ?hg (N := 36) ?hd (xs := ([(p : Int), (j2 : Int)] : List Int)) (inner := [.int .i64 (p : Int), .int .i64 ((j2 : Int))]) (ok := fun _ => True) (okp := fun _ => True) ?hr ?hp (fun _ hk => hk) trivial (Below.refl _ _) (Nat.le_refl _) (by simp) ?_; (case hd => rfl); (case hg => rfl); (case hr => first | (go_simp; done) | (go_simp; rfl)); (case hp => exact (Reps.one (show Kd.M (Kd.int .i64) _ _ _ (p : Int) [.int .i64 (p : Int)] from rfl) (Reps.one (show Kd.M (Kd.int .i64) _ _ _ ((j2 : Int)) [.int .i64 ((j2 : Int))] from rfl) (Reps.none _ _)))); intro v645 w11 ho12 hb hg_ hnew_; clear hg_ hnew_; (first | rw [← Y1.out] at ho12 | (simp only [Int.reduceToNat] at ho12; rw [← Y1.out] at ho12)); have n0_ := mkA (Kd.S_elder' (by (with_reducible repeat (first | apply Kd.S_alloc | apply Kd.S_drewN | apply Kd.S_drew)); exact HO.out) (Kd.R_base ho12) hb); have n1_ := mkA (Kd.R_lower ho12 (below_size (by repeat (first | (with_reducible first | exact HB.out | apply below_alloc | apply pw_below_drewN | apply below_drew1) | exact HB.out)))); have n2_ := mkA (below_step (by repeat (first | (with_reducible first | exact HB.out | apply below_alloc | apply pw_below_drewN | apply below_drew1) | exact HB.out)) hb); clear HO; clear HB; have HO := n0_; have HO646 := n1_; have HB := n2_; clear n0_ n1_ n2_; clear hb ho12; obtain ⟨Ao14, co14, eo14⟩ := Kd.R_slice HO646.out; subst eo14) | ((with_reducible refine gate_builtin (b := .append) (xs := #[.tmp 32, .tmp 37]) rfl ?_); (try (refine gate_guard (by rfl) ?_; dsimp only)); at_builtin; refine Kd.S_append (Kd.slice 3 (Kd.int .i64)) (w0 := w) w.heap.size rfl (.tmp 32) (.tmp 37) 315 246 (.slice none 0 0) 24 rfl Tryz.underlying315 info246 rfl (by decide) (by omega) u3 x3 y1 [.slice Ao14 y1.length co14] (fun _ => True) (fun k_ => some k_ = (.slice Ao14 y1.length co14 : Value).ownBlock) rfl rfl ?aP (fun k_ hk_ => ((Kd.R_mono (ok' := fun k_ => ((fun _ => True)) k_ ∧ some k_ ≠ (u3 : Value).ownBlock) (Kd.R_apart' (HO646.out) (Kd.S_typed HO.out) (by decide)) (fun k_ hk => ⟨trivial, hk.2⟩))).1 k_ hk_.symm) ?aF ?aO ?aB ?aS ?aL ?_; (case aP => exact Kd.M_row (Kd.R_mono (Kd.R_tight rfl (Kd.R_mono (ok' := fun k_ => ((fun _ => True)) k_ ∧ some k_ ≠ (u3 : Value).ownBlock) (Kd.R_apart' (HO646.out) (Kd.S_typed HO.out) (by decide)) (fun k_ hk => ⟨trivial, hk.2⟩))) (fun _ h_ => h_))); (case aB => exact (by repeat (first | (with_reducible first | exact HB.out | apply below_alloc | apply pw_below_drewN | apply below_drew1) | exact HB.out))); (case aF => exact (fun _ _ => trivial)); (case aO => exact (by (with_reducible repeat (first | apply Kd.S_alloc | apply Kd.S_drewN | apply Kd.S_drew)); exact Kd.S_mono HO.out (fun k_ hk => ⟨trivial, fun e_ => hk.2 e_⟩))); (case aS => exact (below_size (by repeat (first | (with_reducible first | exact HB.out | apply below_alloc | apply pw_below_drewN | apply below_drew1) | exact HB.out)))); (case aL => have := LM.out; omega); intro v648 w13 ho hb hg hat; rw [← Y2.out] at ho; have n0_ := mkA (hb); have n1_ := mkA (ho); clear HB; clear HO; clear HO646; have HB := n0_; have HO649 := n1_; clear n0_ n1_; clear ho hb hg hat))
     go_roundw
     case rel => exact ⟨y2, j2, congrArg (Value.int .i64) (by first | rfl | rw [W1, W3] | rw [W3]), ⟨J3.out.2, by have := HQ2.out.2; have := J3.out; omega, HQ2.out.1⟩, ⟨by (with_reducible repeat (first | apply Kd.S_alloc | apply Kd.S_drewN | apply Kd.S_drew)); exact HO649.out⟩, ⟨by repeat (first | (with_reducible first | exact HB.out | apply below_alloc | apply pw_below_drewN | apply below_drew1) | exact HB.out)⟩⟩
     case measure => (first | rw [W1, W3] | rw [W3] | skip); have := J3.out; have := HP.out; simp only [intOf]; omega
    case false =>
     by_cases hn : x = 13 ∨ x = 10
     case neg =>
      have p1 := bnne' (fun e => hn (.inl e))
      have p2 := bnne' (fun e => hn (.inr e))
      clear hn
      go_wp2
      go_roundw
      case rel => exact ⟨x3, j1, congrArg (Value.int .i64) W1, ⟨by have := J1.out; omega, by have := HR.out.2.1; have := J1.out; omega, HR.out.2.2⟩, HO, HB⟩
      case measure => rw [W1]; have := J1.out; have := HP.out; simp only [intOf]; omega
     case pos =>
      have hn2 : (x == 13) = true ∨ ((x == 13) = false ∧ (x == 10) = true) := by
       rcases hn with h | h
       ·exact .inl (by rw [h]; rfl)
       ·exact .inr ⟨by rw [h]; rfl, by rw [h]; rfl⟩
      have J3 := mkA (show j1 = p + 1 ∧ j1 ≤ s.size by have := J1.out; omega)
      clear hn
      rcases hn2 with p1 | ⟨p1, p2⟩
      all_goals
       obtain ⟨y1, hy1⟩ : ∃ y : List Int, y = ([(p : Int), (j1 : Int)] : List Int) := ⟨_, rfl⟩
       obtain ⟨y2, hy2⟩ : ∃ y : List (List Int), y = x3 ++ [y1] := ⟨_, rfl⟩
       have HQ2 := mkA (show Q s y2 ∧ y2.length ≤ p + 1 by
        rw [hy2]
        refine ⟨fun x hx => ?_, by simp; exact HR.out.2.1⟩
        rcases List.mem_append.1 hx with hx | hx
        ·exact HR.out.2.2 x hx
        ·rw [List.mem_singleton.1 hx, hy1]; exact ⟨p, j1, rfl, by have := J3.out; omega, by have := J3.out; omega⟩)
       have Y1 := mkA hy1
       have Y2 := mkA hy2
       have LM := mkA (show x3.length < 5864062014805 by have := HR.out.2.1; have := HR.out.1; have := SZ.out; omega)
       clear hy1 hy2
       go_wp2_with (first | ((with_reducible refine gate_dst (N := 58) rfl ?_); (try (refine gate_guard (by rfl) ?_; dsimp only)); refine Kd.R_lit (Kd.int .i64) _ 3 ?hg (N := 58) ?hd (xs := ([(p : Int), (j1 : Int)] : List Int)) (inner := [.int .i64 (p : Int), .int .i64 ((j1 : Int))]) (ok := fun _ => True) (okp := fun _ => True) ?hr ?hp (fun _ hk => hk) trivial (Below.refl _ _) (Nat.le_refl _) (by simp) ?_; (case hd => rfl); (case hg => rfl); (case hr => first | (go_simp; done) | (go_simp; rfl)); (case hp => exact (Reps.one (show Kd.M (Kd.int .i64) _ _ _ (p : Int) [.int .i64 (p : Int)] from rfl) (Reps.one (show Kd.M (Kd.int .i64) _ _ _ ((j1 : Int)) [.int .i64 ((j1 : Int))] from rfl) (Reps.none _ _)))); intro v645 w11 ho12 hb hg_ hnew_; clear hg_ hnew_; (first | rw [← Y1.out] at ho12 | (simp only [Int.reduceToNat] at ho12; rw [← Y1.out] at ho12)); have n0_ := mkA (Kd.S_elder' (by (with_reducible repeat (first | apply Kd.S_alloc | apply Kd.S_drewN | apply Kd.S_drew)); exact HO.out) (Kd.R_base ho12) hb); have n1_ := mkA (Kd.R_lower ho12 (below_size (by repeat (first | (with_reducible first | exact HB.out | apply below_alloc | apply pw_below_drewN | apply below_drew1) | exact HB.out)))); have n2_ := mkA (below_step (by repeat (first | (with_reducible first | exact HB.out | apply below_alloc | apply pw_below_drewN | apply below_drew1) | exact HB.out)) hb); clear HO; clear HB; have HO := n0_; have HO646 := n1_; have HB := n2_; clear n0_ n1_ n2_; clear hb ho12; obtain ⟨Ao14, co14, eo14⟩ := Kd.R_slice HO646.out; subst eo14) | ((with_reducible refine gate_builtin (b := .append) (xs := #[.tmp 54, .tmp 59]) rfl ?_); (try (refine gate_guard (by rfl) ?_; dsimp only)); at_builtin; refine Kd.S_append (Kd.slice 3 (Kd.int .i64)) (w0 := w) w.heap.size rfl (.tmp 54) (.tmp 59) 315 246 (.slice none 0 0) 24 rfl Tryz.underlying315 info246 rfl (by decide) (by omega) u3 x3 y1 [.slice Ao14 y1.length co14] (fun _ => True) (fun k_ => some k_ = (.slice Ao14 y1.length co14 : Value).ownBlock) rfl rfl ?aP (fun k_ hk_ => ((Kd.R_mono (ok' := fun k_ => ((fun _ => True)) k_ ∧ some k_ ≠ (u3 : Value).ownBlock) (Kd.R_apart' (HO646.out) (Kd.S_typed HO.out) (by decide)) (fun k_ hk => ⟨trivial, hk.2⟩))).1 k_ hk_.symm) ?aF ?aO ?aB ?aS ?aL ?_; (case aP => exact Kd.M_row (Kd.R_mono (Kd.R_tight rfl (Kd.R_mono (ok' := fun k_ => ((fun _ => True)) k_ ∧ some k_ ≠ (u3 : Value).ownBlock) (Kd.R_apart' (HO646.out) (Kd.S_typed HO.out) (by decide)) (fun k_ hk => ⟨trivial, hk.2⟩))) (fun _ h_ => h_))); (case aB => exact (by repeat (first | (with_reducible first | exact HB.out | apply below_alloc | apply pw_below_drewN | apply below_drew1) | exact HB.out))); (case aF => exact (fun _ _ => trivial)); (case aO => exact (by (with_reducible repeat (first | apply Kd.S_alloc | apply Kd.S_drewN | apply Kd.S_drew)); exact Kd.S_mono HO.out (fun k_ hk => ⟨trivial, fun e_ => hk.2 e_⟩))); (case aS => exact (below_size (by repeat (first | (with_reducible first | exact HB.out | apply below_alloc | apply pw_below_drewN | apply below_drew1) | exact HB.out)))); (case aL => have := LM.out; omega); intro v648 w13 ho hb hg hat; rw [← Y2.out] at ho; have n0_ := mkA (hb); have n1_ := mkA (ho); clear HB; clear HO; clear HO646; have HB := n0_; have HO649 := n1_; clear n0_ n1_; clear ho hb hg hat))
       go_roundw
       case rel => exact ⟨y2, j1, congrArg (Value.int .i64) W1, ⟨J3.out.2, by have := HQ2.out.2; have := J3.out; omega, HQ2.out.1⟩, ⟨by (with_reducible repeat (first | apply Kd.S_alloc | apply Kd.S_drewN | apply Kd.S_drew)); exact HO649.out⟩, ⟨by repeat (first | (with_reducible first | exact HB.out | apply below_alloc | apply pw_below_drewN | apply below_drew1) | exact HB.out)⟩⟩
       case measure => rw [W1]; have := J3.out; have := HP.out; simp only [intOf]; omega
theorem zz_walk {w : World} {g b cap : Nat} {s : ByteArray} (h : Src w g b cap s) :
 Calls Tryz.prog 175 #[.slice (some ⟨b, 0, none⟩) s.size cap] w fun e w' => (∃ (A : Option Addr) (n c : Nat), e = .returned (.slice A n c) ∧ n ≤ 2000 ∧ (∀ j : Nat, j < n → ∃ (ad : Addr) (ad2 : Addr) (c2 a z : Nat), A = some ad ∧ w'.cell? (ad.add j) = some (.slice (some ad2) 2 c2) ∧ w'.cell? ad2 = some (.int .i64 a) ∧ w'.cell? ⟨ad2.block, ad2.off + 1, none⟩ = some (.int .i64 z) ∧ a ≤ z ∧ z ≤ s.size)) ∧ Below w.heap.size w w' := by
 refine (zz_calls h).mono fun e w' ⟨v, r, he, hq, hrl, hS, hB⟩ => ⟨?_, hB⟩
 obtain ⟨A, c, rfl, hl, hC⟩ := Kd.S_reads hS
 refine ⟨A, r.length, c, he, ?_, fun j hj => ?_⟩
 ·have := h.small; omega
 ·have hx : r.getD j [] ∈ r := by
   rw [List.getD_eq_getElem?_getD, List.getElem?_eq_getElem hj]; exact List.getElem_mem hj
  obtain ⟨a, z, e3, h1, h2⟩ := hq _ hx
  obtain ⟨ad1, cs, e1, hlen, ⟨A2, c2, rfl, _, hC2⟩, hcs⟩ := Kd.C_get hC [] (j : Int) (by omega) (by omega)
  simp only [Int.toNat_natCast] at hC2 hcs
  rw [e3] at hC2 hcs
  obtain ⟨ad2, rfl, h5⟩ := Kd.at_int hC2 0 (by omega) (by simp)
  obtain ⟨ad3, e4, h6⟩ := Kd.at_int hC2 1 (by omega) (by simp)
  cases e4
  have h4 := hcs 0 _ rfl
  refine ⟨ad1, ad2, c2, a, z, e1, ?_, h5, h6, h1, h2⟩
  have e5 : j * (Kd.slice 3 (Kd.int .i64)).sz + 0 = j := by show j * 1 + 0 = j; omega
  rw [e5] at h4
  exact h4
set_option maxHeartbeats 8000000 in
set_option maxRecDepth 100000 in
theorem getLoc_walk {w : World} {g b cap : Nat} {s : ByteArray} (h : Src w g b cap s) (p : Nat) (hps : p ≤ s.size) :
 Calls Tryz.prog 167 #[.pointer (some ⟨g, 0, none⟩), .int .i64 p] w fun e w' => (∃ l c : Int, e = .returned (.agg #[.int .i64 l, .int .i64 c])) ∧ Below w.heap.size w w' := by
 have HB := mkA (Below.refl w.heap.size w)
 have HS := mkA h
 have hcap : s.size ≤ cap := h.cap
 have HC := mkA hcap
 clear h hps hcap
 go_enter Tryz.func167, Tryz.ntmps167
 go_wp2_with (first
  | ((with_reducible refine gate_dst (N := 4) rfl ?_); refine box_event ?hg (N := 4) ?hd (cs := #[.int .i64 0, .int .i64 0]) (t := 285) ?hr ?_; (case hd => rfl); (case hg => rfl); (case hr => first | (go_simp; done) | (go_simp; rfl)); intro gb hg w2 hbox hb; have hB2 := below_step HB.out hb; have GE := mkA ((by rw [hg]; exact below_size HB.out : w.heap.size ≤ gb)); have hS2 := HS.out.below hB2; have hc0 : ∀ o : Obj, (w2.alloc o).cell? ⟨g, 0, none⟩ = some (.slice (some ⟨b, 0, none⟩) s.size cap) := fun o => (hS2.below (below_alloc (Below.refl _ _) o)).body; have HB2 := mkA hB2; have HS2 := mkA hS2; have BK := mkA hbox; clear hb hbox hg hB2 hS2)
  | (go_at_call 175; refine (zz_walk (HS2.out.below (below_alloc (Below.refl _ _) _))).mono ?_; rintro e w3 ⟨⟨A, n, c, rfl, hnn, hn⟩, hB⟩; have HB3 := mkA ((below_alloc HB2.out _).trans (hB.mono (by have := HB2.out.size; simp only [World.size_alloc]; omega))); have BK3 := mkA (blk_below (blk_alloc BK.out _) hB); have HN := mkA hn; have HNN := mkA hnn; have HC1 := mkA (show w3.cell? ⟨g, 0, none⟩ = some (.slice (some ⟨b, 0, none⟩) s.size cap) from ((HS2.out.below (below_alloc (Below.refl _ _) _)).below hB).body); clear hB hn hnn hc0))
 go_loopw [6, 7, 26] (fun v6 v7 v26 wr => ∃ (j nd : Nat) (l c : Int), Aside0 (j ≤ n) ∧ v6 = .int .i64 l ∧ v7 = .int .i64 c ∧ v26 = .int .i64 j ∧ Aside0 (wr = w3.drewN nd)) (fun _ _ v26 _ => n - (intOf v26).toNat)
 case atStart => exact ⟨0, 0, _, _, ⟨Nat.zero_le _⟩, rfl, rfl, rfl, ⟨rfl⟩⟩
 case round =>
  obtain ⟨j, nd, l, c, HJ, rfl, rfl, rfl, HW⟩ := hrel
  obtain rfl := HW.out
  by_cases hlt : j < n
  ·obtain ⟨ad, ad2, c2, a, z, rfl, h1, h2, h3, h4, h5⟩ := HN.out j hlt
   have hz0 : w3.cell? ⟨gb, 0, none⟩ = some (.int .i64 0) := (blk_cell BK3.out 0).trans rfl
   have hz1 : w3.cell? ⟨gb, 1, none⟩ = some (.int .i64 0) := (blk_cell BK3.out 1).trans rfl
   have hf0 : w3.frozen? ⟨gb, 0, none⟩ = false := blk_frozen BK3.out 0
   have hf1 : w3.frozen? ⟨gb, 1, none⟩ = false := blk_frozen BK3.out 1
   have HLT := mkA hlt
   have q0 : (j < n) = True := eq_true hlt
   have hb1 := HC1.out
   have HZ := mkA (And.intro h4 h5)
   clear hlt
   by_cases hap : a < p
   ·have ea : (a < p) = True := eq_true hap
    have q1 : (a ≤ z) = True := eq_true h4
    have q2 : (z ≤ cap) = True := eq_true (Nat.le_trans h5 HC.out)
    clear h4 h5 hap hz0 hz1 hf0 hf1
    go_wp2
    go_quiet (fail)
    go_wp2
    go_roundw
    case rel => exact ⟨j + 1, _, _, _, ⟨by have := HLT.out; omega⟩, rfl, rfl, congrArg (Value.int .i64) (show wrap64 ((j : Int) + 1) = ((j + 1 : Nat) : Int) from (w64 (by omega) (by have h1 := HNN.out; have h2 := HLT.out; omega)).trans (by omega)), ⟨rfl⟩⟩
    case measure => exact msr_up n j HLT.out HNN.out
   ·have ea : (a < p) = False := eq_false hap
    clear h4 h5 hap
    go_wp2
    refine bodyPost_ret (results_cell_row rfl _ _ gb 285 #[.int .i64 l, .int .i64 c] (0, 0) _ rfl (by refine blk_put (cs := #[.int .i64 l, .int .i64 0]) ?_ 1 _ rfl; refine blk_put (cs := #[.int .i64 0, .int .i64 0]) ?_ 0 _ rfl; exact BK3.out) Tryz.underlying285 rfl (by kernel_rfl)) rfl ?_
    exact ⟨⟨_, _, rfl⟩, below_set (below_set (pw_below_drewN HB3.out nd) GE.out) GE.out⟩
  ·have q0 : (j < n) = False := eq_false hlt
   have hz0 : w3.cell? ⟨gb, 0, none⟩ = some (.int .i64 0) := (blk_cell BK3.out 0).trans rfl
   have hz1 : w3.cell? ⟨gb, 1, none⟩ = some (.int .i64 0) := (blk_cell BK3.out 1).trans rfl
   have hf0 : w3.frozen? ⟨gb, 0, none⟩ = false := blk_frozen BK3.out 0
   have hf1 : w3.frozen? ⟨gb, 1, none⟩ = false := blk_frozen BK3.out 1
   clear hlt
   go_wp2
   refine bodyPost_ret (results_cell_row rfl _ _ gb 285 #[.int .i64 l, .int .i64 c] (0, 0) _ rfl (by refine blk_put (cs := #[.int .i64 l, .int .i64 0]) ?_ 1 _ rfl; refine blk_put (cs := #[.int .i64 0, .int .i64 0]) ?_ 0 _ rfl; exact BK3.out) Tryz.underlying285 rfl (by kernel_rfl)) rfl ?_
   exact ⟨⟨_, _, rfl⟩, below_set (below_set (pw_below_drewN HB3.out nd) GE.out) GE.out⟩
abbrev synB : ByteArray := ⟨#[83, 121, 110, 116, 97, 120, 32, 69, 114, 114, 111, 114]⟩
theorem info285 : (Tryz.prog.info? 285).map (fun i => (i.zero, i.size, i.bytes)) = some (some (.agg #[.int .i64 0, .int .i64 0]), 2, 16) := by kernel_rfl
def k285 : Kd (Int × Int) := Kd.pair (Kd.int .i64) (Kd.int .i64)
theorem k285_mk (w : World) (base : Nat) (ok : Nat → Prop) (x : Int × Int) : k285.M w base ok x [.int .i64 x.1, .int .i64 x.2] := ⟨[.int .i64 x.1], [.int .i64 x.2], rfl, rfl, rfl⟩
def lft : Value → Nat
 | .int _ a => 2 - a.toNat
 | _ => 0
set_option maxHeartbeats 8000000 in
set_option maxRecDepth 100000 in
theorem newError_walk {w : World} {g b cap : Nat} {s : ByteArray} (h : Src w g b cap s) (p : Nat) (hps : p ≤ s.size) (nA : Option Addr) (pb : Nat) (hpb : w.cell? ⟨pb, 0, none⟩ = some (.int .i64 p)) :
 Calls Tryz.prog 152 #[.string synB, .slice nA 0 0, .string ⟨#[]⟩, .pointer (some ⟨g, 0, none⟩), .slice (some ⟨pb, 0, none⟩) 1 1, .slice none 0 0, .nilIface] w fun e w' => (∃ gq : Nat, e = .returned (.pointer (some ⟨gq, 0, none⟩))) ∧ Below w.heap.size w w' := by
 have HB := mkA (Below.refl w.heap.size w)
 have HS := mkA h
 have HPS := mkA hps
 have HPB := mkA hpb
 clear h hps hpb
 go_enter Tryz.func152, Tryz.ntmps152
 go_wp2_with (first
  | ((with_reducible refine gate_dst (N := 85) rfl ?_); refine Kd.S_lit k285 w.heap.size 285 ?hg (N := 85) ?hd (xs := ([] : List (Int × Int))) (inner := []) (ok := fun _ => True) (okp := fun _ => True) ?hr ?hp (fun _ hk => hk) trivial HB.out (Nat.le_refl _) (by simp) ?_; (case hd => rfl); (case hg => rfl); (case hr => first | (go_simp; done) | (go_simp; rfl)); (case hp => exact Reps.none _ _); intro v1 w1 ho hb hg_ hnew_; have HO := mkA ho; have HB1 := mkA hb; clear ho hb hg_ hnew_; obtain ⟨A0, c0, e0⟩ := Kd.S_slice HO.out; subst e0; have hpc : w1.cell? ⟨pb, 0, none⟩ = some (.int .i64 p) := (HB1.out.cell (World.block_lt_of_cell? w _ HPB.out)).trans HPB.out))
 go_loopw [19, 88] (fun v19 v88 wr => (v19 = .slice A0 0 c0 ∧ v88 = .int .i64 0 ∧ w1 = wr) ∨ (∃ (A : Option Addr) (n c : Nat), v19 = .slice A n c ∧ v88 = .int .i64 1 ∧ Aside0 (Below w.heap.size w wr))) (fun _ v88 _ => lft v88)
 case atStart => exact .inl ⟨rfl, rfl, rfl⟩
 case round =>
  rcases hrel with ⟨rfl, rfl, rfl⟩ | ⟨A, n, c, rfl, rfl, HBr⟩
  ·go_wp2_with (first
    | (go_at_call 167; refine (getLoc_walk (HS.out.below HB1.out) p HPS.out).mono ?_; rintro e w3 ⟨⟨l, cc, rfl⟩, hB⟩; have HO3 := mkA (Kd.S_below HO.out hB); have HB3 := mkA (below_step HB1.out hB); clear hB)
    | ((with_reducible refine gate_dst (N := 22) rfl ?_); refine box_event ?hg (N := 22) ?hd (cs := #[.int .i64 0, .int .i64 0]) (t := 285) ?hr ?_; (case hd => rfl); (case hg => rfl); (case hr => first | (go_simp; done) | (go_simp; rfl)); intro gb hg w4 hbox hb; have GE := mkA ((by rw [hg]; exact below_size HB3.out : w.heap.size ≤ gb)); have HO4 := mkA (Kd.S_below (Kd.S_elderB HO3.out gb (by omega)) hb); have HB4 := mkA (below_step HB3.out hb); have BK := mkA hbox; clear hb hbox hg; have hcz0 : w4.cell? ⟨gb, 0, none⟩ = some (.int .i64 0) := (blk_cell BK.out 0).trans rfl; have hcz1 : w4.cell? ⟨gb, 1, none⟩ = some (.int .i64 0) := (blk_cell BK.out 1).trans rfl; have hfz0 := blk_frozen BK.out 0; have hfz1 := blk_frozen BK.out 1)
    | ((with_reducible refine gate_builtin (b := .append) (xs := #[.tmp 95, .tmp 97]) rfl ?_); ((try (refine gate_guard (by rfl) ?_; dsimp only)); at_builtin; refine Kd.S_append k285 (w0 := w) w.heap.size rfl (.tmp 95) (.tmp 97) 283 285 (.agg #[.int .i64 0, .int .i64 0]) 16 rfl Tryz.underlying283 info285 rfl (by decide) (by omega) (.slice A0 0 c0) [] (l, cc) [.int .i64 l, .int .i64 cc] (fun _ => True) (fun _ => False) rfl ?hx (k285_mk _ _ _ _) (fun _ hk => hk.elim) (fun _ _ => trivial) ?aO ?aB ?aS (by simp) ?_; (case hx => show Value.slice (some ⟨w4.heap.size, 0, none⟩) 1 1 = _; simp); (case aO => exact Kd.S_mono (Kd.S_far (Kd.S_far HO4.out (fun k hk => hk.2) _) (fun k hk => hk.2) _) (fun k hk => ⟨trivial, fun e => e.elim⟩)); (case aB => exact below_set (below_set HB4.out GE.out) GE.out); (case aS => exact (below_set (below_set HB4.out GE.out) GE.out).size); intro v5 w5 ho hb hg hat; have HB5 := mkA hb; obtain ⟨A5, c5, e5⟩ := Kd.S_slice ho; subst e5; clear ho hb hg hat)))
   go_roundw
   case rel => exact .inr ⟨_, _, _, rfl, rfl, HB5⟩
   case measure => decide
  ·go_wp2_with (first
    | ((with_reducible refine gate_dst (N := 109) rfl ?_); refine box_event ?hg (N := 109) ?hd (cs := #[.string synB, .string synB, .slice nA 0 0, .pointer (some ⟨g, 0, none⟩), .slice (some ⟨pb, 0, none⟩) 1 1, .slice A n c, .nilIface, .slice none 0 0]) (t := 288) ?hr ?_; (case hd => rfl); (case hg => rfl); (case hr => first | (go_simp; done) | (go_simp; rfl)); intro gb hg w4 hbox hb; have HB4 := mkA (below_step HBr.out hb); clear hb hbox hg))
   go_ret
   exact ⟨⟨gb, rfl⟩, HB4.out⟩
theorem newErr_walk {w : World} {g b cap : Nat} {s : ByteArray} (h : Src w g b cap s) (p : Nat) (hps : p ≤ s.size) (nA : Option Addr) (pb : Nat) (hpb : w.cell? ⟨pb, 0, none⟩ = some (.int .i64 p)) :
 Calls Tryz.prog 134 #[.string synB, .slice nA 0 0, .string ⟨#[]⟩, .pointer (some ⟨g, 0, none⟩), .slice (some ⟨pb, 0, none⟩) 1 1, .nilIface] w fun e w' => (∃ gq : Nat, e = .returned (.pointer (some ⟨gq, 0, none⟩))) ∧ Below w.heap.size w w' := by
 have c24 := newError_walk h p hps nA pb hpb
 clear h hps hpb
 go_enter Tryz.func134, Tryz.ntmps134
 go_wp2_with (first | (go_at_call 152; refine c24.mono ?_; rintro e w' ⟨⟨gq, rfl⟩, hB⟩; have hB := mkA hB))
 go_ret
 exact ⟨⟨gq, rfl⟩, hB.out⟩
set_option maxRecDepth 100000 in
theorem synErr_walk {w : World} {g b cap : Nat} {s : ByteArray} (h : Src w g b cap s) (p : Nat) (hps : p ≤ s.size) (m : ByteArray) :
 Calls Tryz.prog 101 #[.pointer (some ⟨g, 0, none⟩), .int .i64 p, .string m] w fun e w' => (∃ gq : Nat, e = .returned (.pointer (some ⟨gq, 0, none⟩))) ∧ Below w.heap.size w w' := by
 have HS := mkA h
 have HPS := mkA hps
 clear h hps
 go_enter Tryz.func101, Tryz.ntmps101
 go_wp2_with (first | (go_at_call 134; (refine (newErr_walk (HS.out.below (below_alloc (below_alloc (Below.refl _ _) _) _)) p HPS.out _ _ ?hc).mono ?_; (case hc => simp); rintro e w' ⟨⟨gq, rfl⟩, hB⟩; have HB := mkA (below_step (below_alloc (below_alloc (Below.refl _ _) _) _) hB); clear hB)))
 go_ret
 exact ⟨⟨gq, rfl⟩, HB.out⟩
end Go.Proofs.YthgcghpcikbnkaaGreatDoor.R
namespace Go.Proofs.YthgcghpcikbnkaaGreatDoor.R
open Go.RowKit Go.Proofs.YthgcghpcikbnkaaGreatDoorW.PrintWords Go.Proofs.YthgcghpcikbnkaaGreatDoorW.PrintLast Go.Proofs.YthgcghpcikbnkaaGreatDoorW.PrintMore
set_option linter.unusedVariables false
set_option linter.unusedSimpArgs false
theorem num_le (s : ByteArray) (p : Nat) (k : Int) (t : Nat) (h : numAt s p = some (k, t)) : (k = 16 ∨ k = 17) ∧ t ≤ s.size := by
 have D : ∀ i : Nat, dg s i ≠ i → dg s i ≤ s.size := by
  intro i hi
  have : isD (nx s i) = true := by
   cases hx : isD (nx s i) with
   | true => rfl
   | false => exact absurd (dg_no s i hx) hi
  exact dg_le s i (by have := nx_in s i (by intro e; rw [e] at this; cases this); omega)
 have E : ∀ K p, (K = 16 ∨ K = 17) → p ≤ s.size → expo s K p = some (k, t) → (k = 16 ∨ k = 17) ∧ t ≤ s.size := by
  intro K p hK hp h
  unfold expo at h
  repeat' split at h
  all_goals first
   | (cases h; done)
   | (rename_i hne; simp only [Option.some.injEq, Prod.mk.injEq] at h; obtain ⟨rfl, rfl⟩ := h; first | exact ⟨.inr rfl, D _ hne⟩ | exact ⟨hK, hp⟩)
 have F : ∀ p, p ≤ s.size → frac s p = some (k, t) → (k = 16 ∨ k = 17) ∧ t ≤ s.size := by
  intro p hp h
  unfold frac at h
  repeat' split at h
  ·cases h
  ·rename_i hne; exact E _ _ (.inr rfl) (D _ hne) h
  ·exact E _ _ (.inl rfl) hp h
 unfold numAt at h
 generalize (if nx s p = 45 then p + 1 else p) = a at h
 unfold num1 at h
 split at h
 ·cases h
 ·rename_i hne
  exact F _ (D _ (fun e => hne (.inl e))) h
theorem num_gt (s : ByteArray) (p : Nat) (k : Int) (t : Nat) (h : numAt s p = some (k, t)) : p < t := by
 have E : ∀ K p, expo s K p = some (k, t) → p ≤ t := by
  intro K p h
  unfold expo at h
  repeat' split at h
  all_goals first
   | (cases h; done)
   | (rename_i hne; simp only [Option.some.injEq, Prod.mk.injEq] at h; obtain ⟨rfl, rfl⟩ := h; first | (have := dg_ge s (p + 2); omega) | (have := dg_ge s (p + 1); omega) | omega)
 have F : ∀ p, frac s p = some (k, t) → p ≤ t := by
  intro p h
  unfold frac at h
  repeat' split at h
  ·cases h
  ·have := E _ _ h; have := dg_ge s (p + 1); omega
  ·exact E _ _ h
 unfold numAt at h
 have ha : p ≤ (if nx s p = 45 then p + 1 else p) := by split <;> omega
 generalize (if nx s p = 45 then p + 1 else p) = a at h ha
 unfold num1 at h
 split at h
 ·cases h
 ·rename_i hne
  have := F _ h
  have h1 : dg s a ≠ a := fun e => hne (.inl e)
  have := dg_ge s a
  omega
theorem ite_ne {p : Prop} [Decidable p] {a b k : Int} (ha : a ≠ k) (hb : b ≠ k) : (if p then a else b) ≠ k := by split <;> assumption
theorem sg_ne1 (c : Int) : sg c ≠ 1 := by
 unfold sg
 iterate 13 (refine ite_ne (by decide) ?_)
 decide
theorem dr_end (s : ByteArray) (p : Nat) : (dr s p).length = s.size - p := by
 simp only [dr, List.length_drop, Array.length_toList, ByteArray.size_data]
theorem qt_len {x r e : List UInt8} (h : Qt x r e) : e.length < r.length := by
 induction h with
 | done => simp
 | plain _ _ ih => simp only [List.length_cons]; omega
 | esc1 _ _ ih => simp only [List.length_cons]; omega
 | escu _ _ ih => simp only [List.length_cons]; omega
theorem bk_len {x r e : List UInt8} (h : Bk x r e) : e.length < r.length := by
 induction h with
 | done => simp only [List.length_cons]; omega
 | byte _ _ _ _ ih => simp only [List.length_cons]; omega
theorem tok_facts {BV : List UInt8 → ByteArray → Prop} {s : ByteArray} {q z : Nat} {t : Tk} (h : Tok BV s q t z) : t.a = q ∧ t.z = z ∧ q < z ∧ z ≤ s.size ∧ q < s.size ∧ t.k ≠ 1 := by
 cases h with
 | sign h1 h2 h3 => exact ⟨rfl, rfl, by omega, by omega, h1, by rw [← h2]; exact sg_ne1 _⟩
 | spread h1 => exact ⟨rfl, rfl, by omega, by omega, by omega, (by decide : (6 : Int) ≠ 1)⟩
 | name h1 h2 => exact ⟨rfl, rfl, by have := nm_ge s (q + 1); omega, nm_le s (q + 1) (by omega), h1, (by decide : (15 : Int) ≠ 1)⟩
 | numb h1 h2 h3 =>
   have := num_le _ _ _ _ h3
   exact ⟨rfl, rfl, num_gt _ _ _ _ h3, this.2, h1, by rcases this.1 with rfl | rfl; exact (by decide : (16 : Int) ≠ 1); exact (by decide : (17 : Int) ≠ 1)⟩
 | str h1 h2 h3 h4 h5 =>
   have := qt_len h4
   rw [dr_end, dr_end] at this
   exact ⟨rfl, rfl, by omega, h5, h1, (by decide : (18 : Int) ≠ 1)⟩
 | block h1 h2 h3 h4 =>
   have := bk_len h3
   rw [dr_end, dr_end] at this
   exact ⟨rfl, rfl, by omega, h4, h1, (by decide : (19 : Int) ≠ 1)⟩
theorem lex_head {s : ByteArray} {p : Nat} {t : Tk} {r : List Tk} (h : Lexes BVal s p (t :: r)) : (∃ i : Nat, t.a = i ∧ i ≤ s.size) ∧ ((t.k = 1 ∧ r = [] ∧ t.v = e0) ∨ (t.k ≠ 1 ∧ ∃ z : Nat, t.z = z ∧ 0 < z ∧ Lexes BVal s z r)) := by
 cases h with
 | fin h1 h2 => exact ⟨⟨s.size, rfl, Nat.le_refl _⟩, .inl ⟨rfl, rfl, rfl⟩⟩
 | tok h1 h2 h3 h4 =>
   obtain ⟨f1, f2, f3, f4, f5, f6⟩ := tok_facts h3
   exact ⟨⟨_, f1, by omega⟩, .inr ⟨f6, _, f2, by omega, h4⟩⟩
theorem glob_fr {x y : Nat} {w w' : World} (h : Glob w) (hf : Fr x y w w') (hx : 2 ≤ x) (hy : 2 ≤ y) : Glob w' := by
 have hk : ∀ (a : Addr), a.block < 2 → a.block < w.heap.size → w'.cell? a = w.cell? a := fun a h2 ha => World.cell?_of_block (hf.block a.block ha (by omega) (by omega))
 refine ⟨fun c hc => ?_, fun i hi => ⟨?_, ?_⟩⟩
 ·rw [hk _ (by simp) (World.block_lt_of_cell? w _ (h.1 c hc))]; exact h.1 c hc
 ·rw [hk _ (by simp) (World.block_lt_of_cell? w _ (h.2 i hi).1)]; exact (h.2 i hi).1
 ·rw [hk _ (by simp) (World.block_lt_of_cell? w _ (h.2 i hi).2)]; exact (h.2 i hi).2
theorem Src.frc {C : Cx} {w w' : World} (h : Src w C.g C.b C.cap C.s) (ho : C.Ok) (hf : FrC C w w') : Src w' C.g C.b C.cap C.s := by
 obtain ⟨h1, h2, h3, h4, h5, h6, h7⟩ := ho
 exact h.fr hf (by omega) (by omega) (by omega) (by omega) (fun _ => trivial) (glob_fr h.glob hf (by omega) (by omega))
theorem PS.below {C : Cx} {w w' : World} {t : Tk} {r : List Tk} (h : PS C w t r) (hb : Below w.heap.size w w') : PS C w' t r :=
 ⟨h.ok, h.par.imp fun _ x => blk_below x hb, h.cel.imp fun _ x => blk_below x hb, blk_below h.sou hb, h.src.below hb, Nat.le_trans h.lo hb.size, h.pla, h.nxt⟩
theorem PS.alloc {C : Cx} {w : World} {t : Tk} {r : List Tk} (h : PS C w t r) (o : Obj) : PS C (w.alloc o) t r := h.below (below_alloc (Below.refl _ _) o)
theorem PS.pb {C : Cx} {w : World} {t : Tk} {r : List Tk} (h : PS C w t r) : PB C w := h.par.imp fun pe hx => ⟨t.k, t.a, t.z, t.v, hx⟩
theorem PB.below {C : Cx} {w w' : World} (h : PB C w) (hb : Below w.heap.size w w') : PB C w' := by
 obtain ⟨pe, k, a, z, v, h⟩ := h; exact ⟨pe, k, a, z, v, blk_below h hb⟩
theorem PS.keeps {C : Cx} {w w' : World} {m n : Nat} (ho : C.Ok) (hf : FrC C w w') (hm : C.lo ≤ m) (hn : n ≤ m) : Keeps (from_ m) (from_ n) w w' := hf.keeps (by have := ho.pl; omega) (by have := ho.pl; have := ho.cp; omega) hn
theorem keeps_weak {m n : Nat} {w : World} (h : n ≤ m) : Keeps (from_ m) (from_ n) w w := fun g o hg hb => ⟨Nat.le_trans h hg, hb⟩
def AdvP (C : Cx) (w : World) (r : List Tk) (e : Ending) (w' : World) : Prop :=
 FrC C w w' ∧ match r with
 | [] => PB C w' ∧ ∃ (te : TypeId) (x : Value), e = .returned (.iface te x)
 | u :: r' => PS C w' u r' ∧ e = .returned .nilIface
theorem src_low {B g b cap : Nat} {s : ByteArray} {w w' : World} (h : Src w g b cap s) (hb : Below B w w') (h1 : g < B) (h2 : b < B) (h3 : 2 ≤ B) : Src w' g b cap s := by
 refine ⟨by rw [hb.cell h1]; exact h.body, fun j hj => by rw [hb.cell h2]; exact h.bytes j hj, h.cap, h.small, fun c hc => ?_, fun i hi => ⟨?_, ?_⟩⟩
 ·rw [hb.cell (show (⟨0, c, none⟩ : Addr).block < B from (by show 0 < B; omega))]; exact h.glob.1 c hc
 ·rw [hb.cell (show (⟨1, _, none⟩ : Addr).block < B from (by show 1 < B; omega))]; exact (h.glob.2 i hi).1
 ·rw [hb.cell (show (⟨1, _, none⟩ : Addr).block < B from (by show 1 < B; omega))]; exact (h.glob.2 i hi).2
theorem frc_of {C : Cx} {w w' : World} {B : Nat} (hb : Below B w w') (hk : Kp w w' C.gp C.gc) : FrC C w w' := ⟨hb.os, hb.tape, hb.output, hb.size, fun k h1 h2 h3 => hk.2 k h1 h2 h3⟩
theorem advance_walk {C : Cx} {w : World} {t : Tk} {r : List Tk} (h : PS C w t r) (ht : t.k ≠ 1) : Calls Tryz.prog 100 #[ptr C.gp] w (AdvP C w r) := by
 obtain ⟨pe, h1⟩ := h.par
 obtain ⟨pv, h2⟩ := h.cel
 obtain ⟨z, hz, hz0, hL⟩ : ∃ z : Nat, t.z = z ∧ 0 < z ∧ Lexes BVal C.s z r := by
  rcases h.nxt with ⟨e, _⟩ | ⟨_, h⟩
  ·exact absurd e ht
  ·exact h
 have ok := h.ok
 obtain ⟨o1, o2, o3, o4, o5, o6, o7⟩ := ok
 have hy : (t.z == 0) = false := by rw [beq_eq_false_iff_ne, hz]; omega
 have hP : Psr w C.gs C.gp C.gc C.gs C.g pe pv t.k t.a t.z t.v := ⟨⟨h1, h2, h.sou⟩, ⟨by omega, by omega, Nat.le_refl _⟩, by omega, by omega, by omega⟩
 have hB : C.gs ≤ w.heap.size := by have := h.lo; omega
 have hR : ∀ W, Below C.gs w W → Calls Tryz.prog 99 #[ptr C.g, .int .i64 t.z] W (RdP W r) := fun W hW => by
  rw [hz]; exact o7 z r hL W (src_low h.src hW o2 o1 o6)
 cases r with
 | nil =>
   refine (adv_err hP hB hy (fun W hW => (hR W hW).mono fun e w' q => q)).mono ?_
   rintro e w' ⟨⟨te, x, rfl⟩, q1, q2, q3⟩
   exact ⟨frc_of q2 q3, ⟨_, _, _, _, _, q1⟩, te, x, rfl⟩
 | cons u r =>
   refine (adv_ok hP hB hy (fun W hW => (hR W hW).mono fun e w' q => q)).mono ?_
   rintro e w' ⟨rfl, q1, q2, q3⟩
   have hf := frc_of q2 q3
   obtain ⟨l1, l2⟩ := lex_head hL
   exact ⟨hf, ⟨h.ok, ⟨_, q1.1.1⟩, ⟨_, q1.1.2.1⟩, q1.1.2.2, h.src.frc h.ok hf, Nat.le_trans h.lo hf.size, l1, l2⟩, rfl⟩
end Go.Proofs.YthgcghpcikbnkaaGreatDoor.R
