/- FnReadNumber: the package's readNumber, walked: what it hands back is the reference's number, or an error. Condition: a source in the world. -/
import Derived.Test.YtmlochnckplalaaGreatDoorRnp
namespace Go.Proofs.YtmlochnckplalaaGreatDoor.PFnReadNumber
open Go.RowKit Go.Proofs.YtmlochnckplalaaGreatDoorW.PrintWords Go.Proofs.YtmlochnckplalaaGreatDoorW.PrintLast Go.Proofs.YtmlochnckplalaaGreatDoorW.PrintMore
set_option linter.unusedVariables false
set_option linter.unusedSimpArgs false
/-- Whether a code is an exponent's letter. -/
def EX (be : Bool) (c : Int) : Prop := be = true ↔ (c = 69 ∨ c = 101)
set_option maxHeartbeats 16000000 in
set_option maxRecDepth 100000 in
theorem readNumber_walk {w : World} {g b cap : Nat} {s : ByteArray} (h : Src w g b cap s) (c0 k0 : Int) (hr : rn s 0 = (c0, k0)) :
    Calls Tryz.prog 16 #[.pointer (some ⟨g, 0, none⟩), .int .i64 0, .int .i32 c0, .int .i64 k0] w fun e w' => ((num s = none ∧ ∃ gq : Nat, e = .returned (.tuple #[.agg #[.int .i64 0, .int .i64 0, .int .i64 0, .string ⟨#[]⟩], .iface 57 (.pointer (some ⟨gq, 0, none⟩))])) ∨ (∃ (k : Int) (t : Nat), num s = some (k, t) ∧ t ≤ s.size ∧ e = .returned (.tuple #[.agg #[.int .i64 k, .int .i64 0, .int .i64 t, .string (s.extract 0 t)], .nilIface]))) ∧ Below w.heap.size w w' := by
  have HS := Aside0.mk h
  have HR := Aside0.mk hr
  have HSM := Aside0.mk h.small
  have HC := Aside0.mk h.cap
  have HB := Aside0.mk (Below.refl w.heap.size w)
  clear h hr
  go_enter Tryz.func16, Tryz.ntmps16
  go_upto_if 29 with (first | ((with_reducible refine gate_dst (N := 8) rfl ?_); refine box_event ?hg (N := 8) ?hd (cs := #[.int .i64 0, .int .i64 0, .int .i64 0, .string ⟨#[]⟩]) (t := 38) ?hr ?_; (case hd => rfl); (case hg => rfl); (case hr => first | (go_simp; done) | (go_simp; rfl)); intro gb hg w2 hbox hb; have n0_ := Aside0.mk (below_step HB.out hb); have GE := Aside0.mk ((by rw [hg]; exact below_size HB.out : w.heap.size ≤ gb)); clear HB; have HB := n0_; have BK := Aside0.mk hbox; clear n0_ hb hbox hg; have hc0 := (HS.out.below HB.out).body))
  go_cut [3, 10, 12] (fun v3 v10 v12 wc => ∃ (a : Nat) (c k : Int), v3 = .int .i64 k ∧ v10 = .int .i32 c ∧ v12 = .int .i64 a ∧ Aside0 (rn s a = (c, k)) ∧ Aside0 (a ≤ s.size) ∧ Aside0 (NoNl s a) ∧ Aside0 (num s = num1 s a) ∧ Aside0 (Below w.heap.size w wc) ∧ Aside0 (wc.heap[gb]? = some (.cells #[.int .i64 0, .int .i64 0, .int .i64 0, .string ⟨#[]⟩] 38 (0, 0))))
  case first =>
    by_cases hc : c0 = 45
    · have h0 := rn_eq s 0 (Nat.zero_le _) c0 k0 HR.out 45 (by omega) (by omega)
      obtain ⟨rfl, hlt⟩ := h0.2 hc
      have hx := h0.1.1 hc
      have HL := Aside0.mk hlt
      have HX := Aside0.mk (⟨HS.out.small, hx⟩ : s.size ≤ 2000 ∧ nx s 0 = 45)
      subst hc
      obtain ⟨c, k, hr, c15⟩ := rn_at (HS.out.below HB.out) 1 HL.out
      have HR1 := Aside0.mk hr
      rw [show ((1 : Nat) : Int) = 1 from rfl] at c15
      clear h0 hx hlt hr
      go_wp2_with (first | (go_at_call 15; refine c15.mono ?_; rintro e w3 ⟨rfl, hB⟩; have n0_ := Aside0.mk (below_step HB.out hB); have n1_ := Aside0.mk (blk_below BK.out hB); clear HB BK; have HB := n0_; have BK := n1_; clear n0_ n1_ hB))
      go_meet
      case rel => exact ⟨1, c, k, by first | rfl | simp, by first | rfl | simp, by first | rfl | simp, HR1, ⟨HL.out⟩, ⟨(show NoNl s 0 from fun j hj => absurd hj (Nat.not_lt_zero j)).step HL.out 45 HX.out.2 (by omega) (by omega)⟩, ⟨by unfold num; rw [if_pos HX.out.2]⟩, HB, BK⟩
    · have hx : nx s 0 ≠ 45 := fun e => hc ((rn_eq s 0 (Nat.zero_le _) c0 k0 HR.out 45 (by omega) (by omega)).1.2 e)
      have HX := Aside0.mk hx
      have e0 : (c0 == 45) = false := beq_eq_false_iff_ne.mpr hc
      clear hc hx
      go_wp2
      go_meet
      case rel => exact ⟨0, c0, k0, by first | rfl | simp, by first | rfl | simp, by first | rfl | simp, HR, ⟨Nat.zero_le _⟩, ⟨fun j hj => absurd hj (Nat.not_lt_zero j)⟩, ⟨by unfold num; rw [if_neg HX.out]⟩, HB, BK⟩
  case rest =>
    clear HB BK HR
    obtain ⟨a, c, k, rfl, rfl, rfl, HR, HA, HN, HM, HB, BK⟩ := hcut
    go_upto_if 40 with (fail)
    go_cut [3, 10, 12] (fun v3 v10 v12 wc => ∃ (a : Nat) (c k : Int), v3 = .int .i64 k ∧ v10 = .int .i32 c ∧ v12 = .int .i64 a ∧ Aside0 (rn s a = (c, k)) ∧ Aside0 (a ≤ s.size) ∧ Aside0 (NoNl s a) ∧ Aside0 (num s = frac s a) ∧ Aside0 (Below w.heap.size w wc) ∧ Aside0 (wc.heap[gb]? = some (.cells #[.int .i64 0, .int .i64 0, .int .i64 0, .string ⟨#[]⟩] 38 (0, 0))))
    case first =>
      by_cases hc : c = 48
      · have h0 := rn_eq s a HA.out c k HR.out 48 (by omega) (by omega)
        obtain ⟨rfl, hlt⟩ := h0.2 hc
        have HX := Aside0.mk (h0.1.1 hc)
        have HL := Aside0.mk hlt
        have HNs := Aside0.mk (HN.out.step hlt 48 HX.out (by omega) (by omega))
        subst hc
        obtain ⟨c1, k1, hr1⟩ : ∃ c k : Int, rn s (a + 1) = (c, k) := ⟨_, _, rfl⟩
        have HR1 := Aside0.mk hr1
        rcases rn_isd s (a + 1) HL.out c1 k1 hr1 with ⟨hd, d1, d2⟩ | ⟨hd, d1⟩
        · have HD := Aside0.mk hd
          have e1 : decide (48 ≤ c1) = true := decide_eq_true d1
          have e2 : decide (c1 ≤ 57) = true := decide_eq_true d2
          clear h0 hlt hr1 hd d1 d2
          go_wp2_with (first | (go_at_call 15; refine (rn_call (HS.out.below HB.out) (a + 1) HL.out c1 k1 HR1.out _ (pl1 _ (by have := HSM.out; have := HA.out; omega))).mono ?_; rintro e w3 ⟨rfl, hB⟩; have n0_ := Aside0.mk (below_step HB.out hB); have n1_ := Aside0.mk (blk_below BK.out hB); clear HB BK; have HB := n0_; have BK := n1_; clear n0_ n1_ hB) | (go_at_call 19; refine (synErr' (HS.out.below HB.out) (a + 1) HL.out HNs.out _ _ (pl1 _ (by have := HSM.out; have := HA.out; omega))).mono ?_; rintro e w4 ⟨⟨gq, rfl⟩, hB⟩; have n0_ := Aside0.mk (below_step HB.out hB); have n1_ := Aside0.mk (blk_below BK.out hB); clear HB BK; have HB := n0_; have BK := n1_; clear n0_ n1_ hB; have hz0 : w4.cell? ⟨gb, 0, none⟩ = some (.int .i64 0) := (blk_cell BK.out 0).trans rfl; have hz1 : w4.cell? ⟨gb, 1, none⟩ = some (.int .i64 0) := (blk_cell BK.out 1).trans rfl; have hz2 : w4.cell? ⟨gb, 2, none⟩ = some (.int .i64 0) := (blk_cell BK.out 2).trans rfl; have hz3 : w4.cell? ⟨gb, 3, none⟩ = some (.string ⟨#[]⟩) := (blk_cell BK.out 3).trans rfl; have hf0 := blk_frozen BK.out 0; have hf1 := blk_frozen BK.out 1; have hf2 := blk_frozen BK.out 2; have hf3 := blk_frozen BK.out 3))
          refine bodyPost_ret (results_ct rfl _ _ gb 38 #[.int .i64 0, .int .i64 0, .int .i64 0, .string ⟨#[]⟩] (0, 0) _ rfl (by refine blk_put (cs := #[.int .i64 0, .int .i64 0, .int .i64 0, .string ⟨#[]⟩]) ?_ 3 _ rfl; refine blk_put (cs := #[.int .i64 0, .int .i64 0, .int .i64 0, .string ⟨#[]⟩]) ?_ 2 _ rfl; refine blk_put (cs := #[.int .i64 0, .int .i64 0, .int .i64 0, .string ⟨#[]⟩]) ?_ 1 _ rfl; refine blk_put (cs := #[.int .i64 0, .int .i64 0, .int .i64 0, .string ⟨#[]⟩]) ?_ 0 _ rfl; exact BK.out) Tryz.underlying38 rfl (by kernel_rfl)) rfl ?_
          exact ⟨.inl ⟨HM.out.trans (num1_zerr s a HX.out HD.out), gq, rfl⟩, below_set (below_set (below_set (below_set HB.out GE.out) GE.out) GE.out) GE.out⟩
        · have HD := Aside0.mk hd
          rcases d1 with d1 | ⟨d1, d2⟩
          · have e1 : decide (48 ≤ c1) = false := decide_eq_false (by omega)
            clear h0 hlt hr1 hd d1
            go_wp2_with (first | (go_at_call 15; refine (rn_call (HS.out.below HB.out) (a + 1) HL.out c1 k1 HR1.out _ (pl1 _ (by have := HSM.out; have := HA.out; omega))).mono ?_; rintro e w3 ⟨rfl, hB⟩; have n0_ := Aside0.mk (below_step HB.out hB); have n1_ := Aside0.mk (blk_below BK.out hB); clear HB BK; have HB := n0_; have BK := n1_; clear n0_ n1_ hB))
            go_meet
            case rel => exact ⟨a + 1, c1, k1, by first | rfl | simp, by first | rfl | simp, by have := HSM.out; have := HA.out; first | rfl | (simp [wrap64]; omega), HR1, ⟨HL.out⟩, HNs, ⟨HM.out.trans (num1_zero s a HX.out HD.out)⟩, HB, BK⟩
          · have e1 : decide (48 ≤ c1) = true := decide_eq_true d1
            have e2 : decide (c1 ≤ 57) = false := decide_eq_false (by omega)
            clear h0 hlt hr1 hd d1 d2
            go_wp2_with (first | (go_at_call 15; refine (rn_call (HS.out.below HB.out) (a + 1) HL.out c1 k1 HR1.out _ (pl1 _ (by have := HSM.out; have := HA.out; omega))).mono ?_; rintro e w3 ⟨rfl, hB⟩; have n0_ := Aside0.mk (below_step HB.out hB); have n1_ := Aside0.mk (blk_below BK.out hB); clear HB BK; have HB := n0_; have BK := n1_; clear n0_ n1_ hB))
            go_meet
            case rel => exact ⟨a + 1, c1, k1, by first | rfl | simp, by first | rfl | simp, by have := HSM.out; have := HA.out; first | rfl | (simp [wrap64]; omega), HR1, ⟨HL.out⟩, HNs, ⟨HM.out.trans (num1_zero s a HX.out HD.out)⟩, HB, BK⟩
      · have HX := Aside0.mk (show nx s a ≠ 48 from fun e => hc ((rn_eq s a HA.out c k HR.out 48 (by omega) (by omega)).1.2 e))
        have e0 : (c == 48) = false := beq_eq_false_iff_ne.mpr hc
        clear hc
        cases hd : isD (nx s a) with
        | true =>
          have HD := Aside0.mk hd
          obtain ⟨c1, k1, hr1⟩ : ∃ c k : Int, rn s (dg s a) = (c, k) := ⟨_, _, rfl⟩
          have HR1 := Aside0.mk hr1
          clear hd hr1
          go_wp2_with (first | (go_at_call 20; refine (rd_yes' (HS.out.below HB.out) (a) HA.out HN.out c k HR.out HD.out _ rfl).mono ?_; rintro e w3 ⟨rfl, hB⟩; have n0_ := Aside0.mk (below_step HB.out hB); have n1_ := Aside0.mk (blk_below BK.out hB); clear HB BK; have HB := n0_; have BK := n1_; clear n0_ n1_ hB) | (go_at_call 15; refine (rn_call (HS.out.below HB.out) (dg s a) (dg_le s a HA.out) c1 k1 HR1.out _ rfl).mono ?_; rintro e w4 ⟨rfl, hB⟩; have n0_ := Aside0.mk (below_step HB.out hB); have n1_ := Aside0.mk (blk_below BK.out hB); clear HB BK; have HB := n0_; have BK := n1_; clear n0_ n1_ hB))
          go_meet
          case rel => exact ⟨dg s a, c1, k1, by first | rfl | simp, by first | rfl | simp, by first | rfl | simp, HR1, ⟨dg_le s a HA.out⟩, ⟨NoNl.dg _ a (Nat.le_refl _) HN.out⟩, ⟨HM.out.trans (num1_dig s a HX.out HD.out)⟩, HB, BK⟩
        | false =>
          have HD := Aside0.mk hd
          clear hd
          go_wp2_with (first | (go_at_call 20; refine (rd_no' (HS.out.below HB.out) (a) HA.out HN.out c k HR.out HD.out _ rfl).mono ?_; rintro e w3 ⟨⟨gq, rfl⟩, hB⟩; have n0_ := Aside0.mk (below_step HB.out hB); have n1_ := Aside0.mk (blk_below BK.out hB); clear HB BK; have HB := n0_; have BK := n1_; clear n0_ n1_ hB; have hz0 : w3.cell? ⟨gb, 0, none⟩ = some (.int .i64 0) := (blk_cell BK.out 0).trans rfl; have hz1 : w3.cell? ⟨gb, 1, none⟩ = some (.int .i64 0) := (blk_cell BK.out 1).trans rfl; have hz2 : w3.cell? ⟨gb, 2, none⟩ = some (.int .i64 0) := (blk_cell BK.out 2).trans rfl; have hz3 : w3.cell? ⟨gb, 3, none⟩ = some (.string ⟨#[]⟩) := (blk_cell BK.out 3).trans rfl; have hf0 := blk_frozen BK.out 0; have hf1 := blk_frozen BK.out 1; have hf2 := blk_frozen BK.out 2; have hf3 := blk_frozen BK.out 3))
          refine bodyPost_ret (results_ct rfl _ _ gb 38 #[.int .i64 0, .int .i64 0, .int .i64 0, .string ⟨#[]⟩] (0, 0) _ rfl (by refine blk_put (cs := #[.int .i64 0, .int .i64 0, .int .i64 0, .string ⟨#[]⟩]) ?_ 3 _ rfl; refine blk_put (cs := #[.int .i64 0, .int .i64 0, .int .i64 0, .string ⟨#[]⟩]) ?_ 2 _ rfl; refine blk_put (cs := #[.int .i64 0, .int .i64 0, .int .i64 0, .string ⟨#[]⟩]) ?_ 1 _ rfl; refine blk_put (cs := #[.int .i64 0, .int .i64 0, .int .i64 0, .string ⟨#[]⟩]) ?_ 0 _ rfl; exact BK.out) Tryz.underlying38 rfl (by kernel_rfl)) rfl ?_
          exact ⟨.inl ⟨HM.out.trans (num1_no s a HD.out), gq, rfl⟩, below_set (below_set (below_set (below_set HB.out GE.out) GE.out) GE.out) GE.out⟩
    case rest =>
      clear HB BK HR HA HN HM
      obtain ⟨a, c, k, rfl, rfl, rfl, HR, HA, HN, HM, HB, BK⟩ := hcut
      go_upto_if 82 with (fail)
      go_cut [3, 10, 12, 13] (fun v3 v10 v12 v13 wc => ∃ (a : Nat) (c k : Int) (kd : Bool), v3 = .int .i64 k ∧ v10 = .int .i32 c ∧ v12 = .int .i64 a ∧ v13 = .bool kd ∧ Aside0 (rn s a = (c, k)) ∧ Aside0 (a ≤ s.size) ∧ Aside0 (NoNl s a) ∧ Aside0 (num s = expo s (if kd = true then 17 else 16) a) ∧ Aside0 (Below w.heap.size w wc) ∧ Aside0 (wc.heap[gb]? = some (.cells #[.int .i64 0, .int .i64 0, .int .i64 0, .string ⟨#[]⟩] 38 (0, 0))))
      case first =>
        by_cases hc : c = 46
        · have h0 := rn_eq s a HA.out c k HR.out 46 (by omega) (by omega)
          obtain ⟨rfl, hlt⟩ := h0.2 hc
          have HX := Aside0.mk (h0.1.1 hc)
          have HL := Aside0.mk hlt
          have HNs := Aside0.mk (HN.out.step hlt 46 HX.out (by omega) (by omega))
          subst hc
          obtain ⟨c1, k1, hr1⟩ : ∃ c k : Int, rn s (a + 1) = (c, k) := ⟨_, _, rfl⟩
          have HR1 := Aside0.mk hr1
          have M1 := Aside0.mk True.intro
          clear h0 hlt hr1
          cases hd : isD (nx s (a + 1)) with
          | true =>
            have HD := Aside0.mk hd
            obtain ⟨c2, k2, hr2⟩ : ∃ c k : Int, rn s (dg s (a + 1)) = (c, k) := ⟨_, _, rfl⟩
            have HR2 := Aside0.mk hr2
            clear hd hr2
            go_wp2_with (first | (go_at_call 15; clear M1; refine (rn_call (HS.out.below HB.out) (a + 1) HL.out c1 k1 HR1.out _ (pl1 _ (by have := HSM.out; have := HA.out; omega))).mono ?_; rintro e w3 ⟨rfl, hB⟩; have n0_ := Aside0.mk (below_step HB.out hB); have n1_ := Aside0.mk (blk_below BK.out hB); clear HB BK; have HB := n0_; have BK := n1_; clear n0_ n1_ hB) | (go_at_call 15; refine (rn_call (HS.out.below HB.out) (dg s (a + 1)) (dg_le s _ HL.out) c2 k2 HR2.out _ rfl).mono ?_; rintro e w5 ⟨rfl, hB⟩; have n0_ := Aside0.mk (below_step HB.out hB); have n1_ := Aside0.mk (blk_below BK.out hB); clear HB BK; have HB := n0_; have BK := n1_; clear n0_ n1_ hB) | (go_at_call 20; refine (rd_yes' (HS.out.below HB.out) (a + 1) HL.out HNs.out c1 k1 HR1.out HD.out _ (pl1 _ (by have := HSM.out; have := HA.out; omega))).mono ?_; rintro e w4 ⟨rfl, hB⟩; have n0_ := Aside0.mk (below_step HB.out hB); have n1_ := Aside0.mk (blk_below BK.out hB); clear HB BK; have HB := n0_; have BK := n1_; clear n0_ n1_ hB))
            go_meet
            case rel => exact ⟨dg s (a + 1), c2, k2, true, by first | rfl | simp, by first | rfl | simp, by first | rfl | simp, by first | rfl | simp, HR2, ⟨dg_le s _ HL.out⟩, ⟨NoNl.dg _ _ (Nat.le_refl _) HNs.out⟩, ⟨HM.out.trans (frac_dig s a HX.out HD.out)⟩, HB, BK⟩
          | false =>
            have HD := Aside0.mk hd
            clear hd
            go_wp2_with (first | (go_at_call 15; clear M1; refine (rn_call (HS.out.below HB.out) (a + 1) HL.out c1 k1 HR1.out _ (pl1 _ (by have := HSM.out; have := HA.out; omega))).mono ?_; rintro e w3 ⟨rfl, hB⟩; have n0_ := Aside0.mk (below_step HB.out hB); have n1_ := Aside0.mk (blk_below BK.out hB); clear HB BK; have HB := n0_; have BK := n1_; clear n0_ n1_ hB) | (go_at_call 20; refine (rd_no' (HS.out.below HB.out) (a + 1) HL.out HNs.out c1 k1 HR1.out HD.out _ (pl1 _ (by have := HSM.out; have := HA.out; omega))).mono ?_; rintro e w4 ⟨⟨gq, rfl⟩, hB⟩; have n0_ := Aside0.mk (below_step HB.out hB); have n1_ := Aside0.mk (blk_below BK.out hB); clear HB BK; have HB := n0_; have BK := n1_; clear n0_ n1_ hB; have hz0 : w4.cell? ⟨gb, 0, none⟩ = some (.int .i64 0) := (blk_cell BK.out 0).trans rfl; have hz1 : w4.cell? ⟨gb, 1, none⟩ = some (.int .i64 0) := (blk_cell BK.out 1).trans rfl; have hz2 : w4.cell? ⟨gb, 2, none⟩ = some (.int .i64 0) := (blk_cell BK.out 2).trans rfl; have hz3 : w4.cell? ⟨gb, 3, none⟩ = some (.string ⟨#[]⟩) := (blk_cell BK.out 3).trans rfl; have hf0 := blk_frozen BK.out 0; have hf1 := blk_frozen BK.out 1; have hf2 := blk_frozen BK.out 2; have hf3 := blk_frozen BK.out 3))
            refine bodyPost_ret (results_ct rfl _ _ gb 38 #[.int .i64 0, .int .i64 0, .int .i64 0, .string ⟨#[]⟩] (0, 0) _ rfl (by refine blk_put (cs := #[.int .i64 0, .int .i64 0, .int .i64 0, .string ⟨#[]⟩]) ?_ 3 _ rfl; refine blk_put (cs := #[.int .i64 0, .int .i64 0, .int .i64 0, .string ⟨#[]⟩]) ?_ 2 _ rfl; refine blk_put (cs := #[.int .i64 0, .int .i64 0, .int .i64 0, .string ⟨#[]⟩]) ?_ 1 _ rfl; refine blk_put (cs := #[.int .i64 0, .int .i64 0, .int .i64 0, .string ⟨#[]⟩]) ?_ 0 _ rfl; exact BK.out) Tryz.underlying38 rfl (by kernel_rfl)) rfl ?_
            exact ⟨.inl ⟨HM.out.trans (frac_err s a HX.out HD.out), gq, rfl⟩, below_set (below_set (below_set (below_set HB.out GE.out) GE.out) GE.out) GE.out⟩
        · have HX := Aside0.mk (show nx s a ≠ 46 from fun e => hc ((rn_eq s a HA.out c k HR.out 46 (by omega) (by omega)).1.2 e))
          have e0 : (c == 46) = false := beq_eq_false_iff_ne.mpr hc
          clear hc
          go_wp2
          go_meet
          case rel => exact ⟨a, c, k, false, by first | rfl | simp, by first | rfl | simp, by first | rfl | simp, by first | rfl | simp, HR, HA, HN, ⟨HM.out.trans (frac_no s a HX.out)⟩, HB, BK⟩
      case rest =>
        clear HB BK HR HA HN HM
        obtain ⟨a, c, k, kd, rfl, rfl, rfl, rfl, HR, HA, HN, HM, HB, BK⟩ := hcut
        go_upto_region 28 with (fail)
        go_cut [116] (fun v116 wc => ∃ be : Bool, v116 = .bool be ∧ Aside0 (EX be c) ∧ Aside0 (Below w.heap.size w wc) ∧ Aside0 (wc.heap[gb]? = some (.cells #[.int .i64 0, .int .i64 0, .int .i64 0, .string ⟨#[]⟩] 38 (0, 0))))
        case first =>
          by_cases hc : c = 69
          · have e0 : (c == 69) = true := beq_iff_eq.mpr hc
            have HE := Aside0.mk (show EX true c from ⟨fun _ => .inl hc, fun _ => rfl⟩)
            clear hc
            go_wp2
            go_meet
            case rel => exact ⟨true, by first | rfl | simp, HE, HB, BK⟩
          · have e0 : (c == 69) = false := beq_eq_false_iff_ne.mpr hc
            by_cases hc2 : c = 101
            · have e1 : (c == 101) = true := beq_iff_eq.mpr hc2
              have HE := Aside0.mk (show EX true c from ⟨fun _ => .inr hc2, fun _ => rfl⟩)
              clear hc hc2
              go_wp2
              go_meet
              case rel => exact ⟨true, by first | rfl | simp, HE, HB, BK⟩
            · have e1 : (c == 101) = false := beq_eq_false_iff_ne.mpr hc2
              have HE := Aside0.mk (show EX false c from ⟨(fun h => by cases h), fun h => h.elim (fun h => absurd h hc) (fun h => absurd h hc2)⟩)
              clear hc hc2
              go_wp2
              go_meet
              case rel => exact ⟨false, by first | rfl | simp, HE, HB, BK⟩
        case rest =>
         clear HB BK
         obtain ⟨be, rfl, HE, HB, BK⟩ := hcut
         go_upto_if 116 with (fail)
         go_cut [12, 13] (fun v12 v13 wc => ∃ (a : Nat) (kd : Bool), v12 = .int .i64 a ∧ v13 = .bool kd ∧ Aside0 (a ≤ s.size) ∧ Aside0 (num s = some (if kd = true then 17 else 16, a)) ∧ Aside0 (Below w.heap.size w wc) ∧ Aside0 (wc.heap[gb]? = some (.cells #[.int .i64 0, .int .i64 0, .int .i64 0, .string ⟨#[]⟩] 38 (0, 0))))
         case first =>
            cases be with
            | true =>
              have hcc : c = 69 ∨ c = 101 := HE.out.1 rfl
              have h69 := rn_eq s a HA.out c k HR.out 69 (by omega) (by omega)
              have h101 := rn_eq s a HA.out c k HR.out 101 (by omega) (by omega)
              have hk : k = 1 ∧ a < s.size ∧ (nx s a = 101 ∨ nx s a = 69) := by
                rcases hcc with h | h
                · exact ⟨(h69.2 h).1, (h69.2 h).2, .inr (h69.1.1 h)⟩
                · exact ⟨(h101.2 h).1, (h101.2 h).2, .inl (h101.1.1 h)⟩
              obtain ⟨rfl, hlt, hx⟩ := hk
              have HX := Aside0.mk hx
              have HL := Aside0.mk hlt
              clear hcc h69 h101 hlt hx
              have HNs := Aside0.mk (HN.out.step HL.out _ rfl (by rcases HX.out with h | h <;> omega) (by rcases HX.out with h | h <;> omega))
              obtain ⟨c1, k1, hr1⟩ : ∃ c k : Int, rn s (a + 1) = (c, k) := ⟨_, _, rfl⟩
              have HR1 := Aside0.mk hr1
              have M1 := Aside0.mk True.intro
              clear hr1
              by_cases hs : c1 = 43 ∨ c1 = 45
              · have hs2 : k1 = 1 ∧ a + 1 < s.size ∧ (nx s (a + 1) = 43 ∨ nx s (a + 1) = 45) := by
                  have g1 := rn_eq s (a + 1) HL.out c1 k1 HR1.out 43 (by omega) (by omega)
                  have g2 := rn_eq s (a + 1) HL.out c1 k1 HR1.out 45 (by omega) (by omega)
                  rcases hs with h | h
                  · exact ⟨(g1.2 h).1, (g1.2 h).2, .inl (g1.1.1 h)⟩
                  · exact ⟨(g2.2 h).1, (g2.2 h).2, .inr (g2.1.1 h)⟩
                obtain ⟨rfl, hl2, hx2⟩ := hs2
                have HL2 := Aside0.mk hl2
                have HX2 := Aside0.mk hx2
                have HNt := Aside0.mk (show NoNl s (a + 2) from HNs.out.step hl2 _ rfl (by rcases hx2 with h | h <;> omega) (by rcases hx2 with h | h <;> omega))
                obtain ⟨c2, k2, hr2⟩ : ∃ c k : Int, rn s (a + 2) = (c, k) := ⟨_, _, rfl⟩
                have HR2 := Aside0.mk hr2
                clear hr2 hl2 hx2
                cases hd : isD (nx s (a + 2)) with
                | true =>
                  have HD := Aside0.mk hd
                  clear hd
                  rcases hs with hs | hs
                  all_goals
                    subst hs
                    go_wp2_with (first | (go_at_call 15; clear M1; refine (rn_call (HS.out.below HB.out) (a + 1) HL.out _ _ HR1.out _ (pl1 _ (by have := HSM.out; have := HA.out; omega))).mono ?_; rintro e w3 ⟨rfl, hB⟩; have n0_ := Aside0.mk (below_step HB.out hB); have n1_ := Aside0.mk (blk_below BK.out hB); clear HB BK; have HB := n0_; have BK := n1_; clear n0_ n1_ hB) | (go_at_call 15; refine (rn_call (HS.out.below HB.out) (a + 2) HL2.out c2 k2 HR2.out _ (by rw [pl1 _ (by have := HSM.out; have := HA.out; omega), pl1 _ (by have := HSM.out; have := HA.out; omega)])).mono ?_; rintro e w4 ⟨rfl, hB⟩; have n0_ := Aside0.mk (below_step HB.out hB); have n1_ := Aside0.mk (blk_below BK.out hB); clear HB BK; have HB := n0_; have BK := n1_; clear n0_ n1_ hB) | (go_at_call 20; refine (rd_yes' (HS.out.below HB.out) (a + 2) HL2.out HNt.out c2 k2 HR2.out HD.out _ (by rw [pl1 _ (by have := HSM.out; have := HA.out; omega), pl1 _ (by have := HSM.out; have := HA.out; omega)])).mono ?_; rintro e w5 ⟨rfl, hB⟩; have n0_ := Aside0.mk (below_step HB.out hB); have n1_ := Aside0.mk (blk_below BK.out hB); clear HB BK; have HB := n0_; have BK := n1_; clear n0_ n1_ hB))
                    go_meet
                    case rel => exact ⟨dg s (a + 2), true, by first | rfl | simp, by first | rfl | simp, ⟨dg_le s _ HL2.out⟩, ⟨HM.out.trans (expo_syes s _ a HX.out HX2.out HD.out)⟩, HB, BK⟩
                | false =>
                  have HD := Aside0.mk hd
                  clear hd
                  rcases hs with hs | hs
                  all_goals
                    subst hs
                    go_wp2_with (first | (go_at_call 15; clear M1; refine (rn_call (HS.out.below HB.out) (a + 1) HL.out _ _ HR1.out _ (pl1 _ (by have := HSM.out; have := HA.out; omega))).mono ?_; rintro e w3 ⟨rfl, hB⟩; have n0_ := Aside0.mk (below_step HB.out hB); have n1_ := Aside0.mk (blk_below BK.out hB); clear HB BK; have HB := n0_; have BK := n1_; clear n0_ n1_ hB) | (go_at_call 15; refine (rn_call (HS.out.below HB.out) (a + 2) HL2.out c2 k2 HR2.out _ (by rw [pl1 _ (by have := HSM.out; have := HA.out; omega), pl1 _ (by have := HSM.out; have := HA.out; omega)])).mono ?_; rintro e w4 ⟨rfl, hB⟩; have n0_ := Aside0.mk (below_step HB.out hB); have n1_ := Aside0.mk (blk_below BK.out hB); clear HB BK; have HB := n0_; have BK := n1_; clear n0_ n1_ hB) | (go_at_call 20; refine (rd_no' (HS.out.below HB.out) (a + 2) HL2.out HNt.out c2 k2 HR2.out HD.out _ (by rw [pl1 _ (by have := HSM.out; have := HA.out; omega), pl1 _ (by have := HSM.out; have := HA.out; omega)])).mono ?_; rintro e w5 ⟨⟨gq, rfl⟩, hB⟩; have n0_ := Aside0.mk (below_step HB.out hB); have n1_ := Aside0.mk (blk_below BK.out hB); clear HB BK; have HB := n0_; have BK := n1_; clear n0_ n1_ hB; have hz0 : w5.cell? ⟨gb, 0, none⟩ = some (.int .i64 0) := (blk_cell BK.out 0).trans rfl; have hz1 : w5.cell? ⟨gb, 1, none⟩ = some (.int .i64 0) := (blk_cell BK.out 1).trans rfl; have hz2 : w5.cell? ⟨gb, 2, none⟩ = some (.int .i64 0) := (blk_cell BK.out 2).trans rfl; have hz3 : w5.cell? ⟨gb, 3, none⟩ = some (.string ⟨#[]⟩) := (blk_cell BK.out 3).trans rfl; have hf0 := blk_frozen BK.out 0; have hf1 := blk_frozen BK.out 1; have hf2 := blk_frozen BK.out 2; have hf3 := blk_frozen BK.out 3))
                    refine bodyPost_ret (results_ct rfl _ _ gb 38 #[.int .i64 0, .int .i64 0, .int .i64 0, .string ⟨#[]⟩] (0, 0) _ rfl (by refine blk_put (cs := #[.int .i64 0, .int .i64 0, .int .i64 0, .string ⟨#[]⟩]) ?_ 3 _ rfl; refine blk_put (cs := #[.int .i64 0, .int .i64 0, .int .i64 0, .string ⟨#[]⟩]) ?_ 2 _ rfl; refine blk_put (cs := #[.int .i64 0, .int .i64 0, .int .i64 0, .string ⟨#[]⟩]) ?_ 1 _ rfl; refine blk_put (cs := #[.int .i64 0, .int .i64 0, .int .i64 0, .string ⟨#[]⟩]) ?_ 0 _ rfl; exact BK.out) Tryz.underlying38 rfl (by kernel_rfl)) rfl ?_
                    exact ⟨.inl ⟨HM.out.trans (expo_sno s _ a HX.out HX2.out HD.out), gq, rfl⟩, below_set (below_set (below_set (below_set HB.out GE.out) GE.out) GE.out) GE.out⟩
              · have hs2 : ¬ (nx s (a + 1) = 43 ∨ nx s (a + 1) = 45) := by
                  have g1 := rn_eq s (a + 1) HL.out c1 k1 HR1.out 43 (by omega) (by omega)
                  have g2 := rn_eq s (a + 1) HL.out c1 k1 HR1.out 45 (by omega) (by omega)
                  intro h
                  rcases h with h | h
                  · exact hs (.inl (g1.1.2 h))
                  · exact hs (.inr (g2.1.2 h))
                have HX2 := Aside0.mk hs2
                have e1 : (c1 == 43) = false := beq_eq_false_iff_ne.mpr (fun e => hs (.inl e))
                have e2 : (c1 == 45) = false := beq_eq_false_iff_ne.mpr (fun e => hs (.inr e))
                clear hs hs2
                cases hd : isD (nx s (a + 1)) with
                | true =>
                  have HD := Aside0.mk hd
                  clear hd
                  go_wp2_with (first | (go_at_call 15; clear M1; refine (rn_call (HS.out.below HB.out) (a + 1) HL.out _ _ HR1.out _ (pl1 _ (by have := HSM.out; have := HA.out; omega))).mono ?_; rintro e w3 ⟨rfl, hB⟩; have n0_ := Aside0.mk (below_step HB.out hB); have n1_ := Aside0.mk (blk_below BK.out hB); clear HB BK; have HB := n0_; have BK := n1_; clear n0_ n1_ hB) | (go_at_call 20; refine (rd_yes' (HS.out.below HB.out) (a + 1) HL.out HNs.out c1 _ HR1.out HD.out _ (pl1 _ (by have := HSM.out; have := HA.out; omega))).mono ?_; rintro e w5 ⟨rfl, hB⟩; have n0_ := Aside0.mk (below_step HB.out hB); have n1_ := Aside0.mk (blk_below BK.out hB); clear HB BK; have HB := n0_; have BK := n1_; clear n0_ n1_ hB))
                  go_meet
                  case rel => exact ⟨dg s (a + 1), true, by first | rfl | simp, by first | rfl | simp, ⟨dg_le s _ HL.out⟩, ⟨HM.out.trans (expo_nyes s _ a HX.out HX2.out HD.out)⟩, HB, BK⟩
                | false =>
                  have HD := Aside0.mk hd
                  clear hd
                  go_wp2_with (first | (go_at_call 15; clear M1; refine (rn_call (HS.out.below HB.out) (a + 1) HL.out _ _ HR1.out _ (pl1 _ (by have := HSM.out; have := HA.out; omega))).mono ?_; rintro e w3 ⟨rfl, hB⟩; have n0_ := Aside0.mk (below_step HB.out hB); have n1_ := Aside0.mk (blk_below BK.out hB); clear HB BK; have HB := n0_; have BK := n1_; clear n0_ n1_ hB) | (go_at_call 20; refine (rd_no' (HS.out.below HB.out) (a + 1) HL.out HNs.out c1 _ HR1.out HD.out _ (pl1 _ (by have := HSM.out; have := HA.out; omega))).mono ?_; rintro e w5 ⟨⟨gq, rfl⟩, hB⟩; have n0_ := Aside0.mk (below_step HB.out hB); have n1_ := Aside0.mk (blk_below BK.out hB); clear HB BK; have HB := n0_; have BK := n1_; clear n0_ n1_ hB; have hz0 : w5.cell? ⟨gb, 0, none⟩ = some (.int .i64 0) := (blk_cell BK.out 0).trans rfl; have hz1 : w5.cell? ⟨gb, 1, none⟩ = some (.int .i64 0) := (blk_cell BK.out 1).trans rfl; have hz2 : w5.cell? ⟨gb, 2, none⟩ = some (.int .i64 0) := (blk_cell BK.out 2).trans rfl; have hz3 : w5.cell? ⟨gb, 3, none⟩ = some (.string ⟨#[]⟩) := (blk_cell BK.out 3).trans rfl; have hf0 := blk_frozen BK.out 0; have hf1 := blk_frozen BK.out 1; have hf2 := blk_frozen BK.out 2; have hf3 := blk_frozen BK.out 3))
                  refine bodyPost_ret (results_ct rfl _ _ gb 38 #[.int .i64 0, .int .i64 0, .int .i64 0, .string ⟨#[]⟩] (0, 0) _ rfl (by refine blk_put (cs := #[.int .i64 0, .int .i64 0, .int .i64 0, .string ⟨#[]⟩]) ?_ 3 _ rfl; refine blk_put (cs := #[.int .i64 0, .int .i64 0, .int .i64 0, .string ⟨#[]⟩]) ?_ 2 _ rfl; refine blk_put (cs := #[.int .i64 0, .int .i64 0, .int .i64 0, .string ⟨#[]⟩]) ?_ 1 _ rfl; refine blk_put (cs := #[.int .i64 0, .int .i64 0, .int .i64 0, .string ⟨#[]⟩]) ?_ 0 _ rfl; exact BK.out) Tryz.underlying38 rfl (by kernel_rfl)) rfl ?_
                  exact ⟨.inl ⟨HM.out.trans (expo_nno s _ a HX.out HX2.out HD.out), gq, rfl⟩, below_set (below_set (below_set (below_set HB.out GE.out) GE.out) GE.out) GE.out⟩
            | false =>
              have hcc : ¬ (c = 69 ∨ c = 101) := fun h => by have := HE.out.2 h; cases this
              have HX := Aside0.mk (show nx s a ≠ 69 from fun e => hcc (.inl ((rn_eq s a HA.out c k HR.out 69 (by omega) (by omega)).1.2 e)))
              have HX2 := Aside0.mk (show nx s a ≠ 101 from fun e => hcc (.inr ((rn_eq s a HA.out c k HR.out 101 (by omega) (by omega)).1.2 e)))
              clear hcc
              go_wp2
              go_meet
              case rel => exact ⟨a, kd, by first | rfl | simp, by first | rfl | simp, HA, ⟨HM.out.trans (expo_no s _ a HX2.out HX.out)⟩, HB, BK⟩
         case rest =>
           clear HB BK HR HA HN HM
           obtain ⟨a, kd, rfl, rfl, HA, HM, HB, BK⟩ := hcut
           have hcv := run_convert_bytes_arg (P := Tryz.prog) wc 48 5 (by kernel_rfl) (by kernel_rfl) b 0 a cap ((bytesOf s).take a) (by rw [List.length_take, blen]; have := HA.out; omega) (fun i hi => by
             have hl : i < ((bytesOf s).take a).length := by rw [List.length_take, blen]; have := HA.out; omega
             have e : ((bytesOf s).take a).getD i 0 = bt s i := by
               have e2 : (bytesOf s).getD i 0 = bt s i := rd_bytesOf s i
               rw [← e2, List.getD_eq_getElem?_getD, List.getD_eq_getElem?_getD, List.getElem?_take, if_pos hi]
             rw [e, Nat.zero_add]
             exact (HS.out.below HB.out).bytes i (by have := HA.out; omega)) 9 (by kernel_rfl)
           rw [strOf_take] at hcv
           have p1 : ((a : Int) ≤ (cap : Int)) = True := eq_true (by have := HA.out; have := HC.out; omega)
           have p2 : decide ((a : Int) ≤ (cap : Int)) = true := decide_eq_true (by have := HA.out; have := HC.out; omega)
           have p3 : a ≤ cap := by have := HA.out; have := HC.out; omega
           cases kd with
           | true =>
             go_wp2_with (first | (go_at_call 21; refine (lexer_makeToken.calls 17 0 (a : Int) (s.extract 0 a) 17 0 (a : Int) (s.extract 0 a) _ rfl).mono ?_; rintro e w6 ⟨rfl, hB⟩; have n0_ := Aside0.mk (below_step HB.out hB); have n1_ := Aside0.mk (blk_below BK.out hB); clear HB BK; have HB := n0_; have BK := n1_; clear n0_ n1_ hB; have hz0 : w6.cell? ⟨gb, 0, none⟩ = some (.int .i64 0) := (blk_cell BK.out 0).trans rfl; have hz1 : w6.cell? ⟨gb, 1, none⟩ = some (.int .i64 0) := (blk_cell BK.out 1).trans rfl; have hz2 : w6.cell? ⟨gb, 2, none⟩ = some (.int .i64 0) := (blk_cell BK.out 2).trans rfl; have hz3 : w6.cell? ⟨gb, 3, none⟩ = some (.string ⟨#[]⟩) := (blk_cell BK.out 3).trans rfl; have hf0 := blk_frozen BK.out 0; have hf1 := blk_frozen BK.out 1; have hf2 := blk_frozen BK.out 2; have hf3 := blk_frozen BK.out 3))
             have HM' : num s = some (17, a) := HM.out
             refine bodyPost_ret (results_ct rfl _ _ gb 38 #[.int .i64 17, .int .i64 0, .int .i64 a, .string (s.extract 0 a)] (0, 0) _ rfl (by refine blk_put (cs := #[.int .i64 17, .int .i64 0, .int .i64 a, .string ⟨#[]⟩]) ?_ 3 _ rfl; refine blk_put (cs := #[.int .i64 17, .int .i64 0, .int .i64 0, .string ⟨#[]⟩]) ?_ 2 _ rfl; refine blk_put (cs := #[.int .i64 17, .int .i64 0, .int .i64 0, .string ⟨#[]⟩]) ?_ 1 _ rfl; refine blk_put (cs := #[.int .i64 0, .int .i64 0, .int .i64 0, .string ⟨#[]⟩]) ?_ 0 _ rfl; exact BK.out) Tryz.underlying38 rfl (by kernel_rfl)) rfl ?_
             exact ⟨.inr ⟨17, a, HM', HA.out, rfl⟩, below_set (below_set (below_set (below_set HB.out GE.out) GE.out) GE.out) GE.out⟩
           | false =>
             go_wp2_with (first | (go_at_call 21; refine (lexer_makeToken.calls 16 0 (a : Int) (s.extract 0 a) 16 0 (a : Int) (s.extract 0 a) _ rfl).mono ?_; rintro e w6 ⟨rfl, hB⟩; have n0_ := Aside0.mk (below_step HB.out hB); have n1_ := Aside0.mk (blk_below BK.out hB); clear HB BK; have HB := n0_; have BK := n1_; clear n0_ n1_ hB; have hz0 : w6.cell? ⟨gb, 0, none⟩ = some (.int .i64 0) := (blk_cell BK.out 0).trans rfl; have hz1 : w6.cell? ⟨gb, 1, none⟩ = some (.int .i64 0) := (blk_cell BK.out 1).trans rfl; have hz2 : w6.cell? ⟨gb, 2, none⟩ = some (.int .i64 0) := (blk_cell BK.out 2).trans rfl; have hz3 : w6.cell? ⟨gb, 3, none⟩ = some (.string ⟨#[]⟩) := (blk_cell BK.out 3).trans rfl; have hf0 := blk_frozen BK.out 0; have hf1 := blk_frozen BK.out 1; have hf2 := blk_frozen BK.out 2; have hf3 := blk_frozen BK.out 3))
             have HM' : num s = some (16, a) := HM.out
             refine bodyPost_ret (results_ct rfl _ _ gb 38 #[.int .i64 16, .int .i64 0, .int .i64 a, .string (s.extract 0 a)] (0, 0) _ rfl (by refine blk_put (cs := #[.int .i64 16, .int .i64 0, .int .i64 a, .string ⟨#[]⟩]) ?_ 3 _ rfl; refine blk_put (cs := #[.int .i64 16, .int .i64 0, .int .i64 0, .string ⟨#[]⟩]) ?_ 2 _ rfl; refine blk_put (cs := #[.int .i64 16, .int .i64 0, .int .i64 0, .string ⟨#[]⟩]) ?_ 1 _ rfl; refine blk_put (cs := #[.int .i64 0, .int .i64 0, .int .i64 0, .string ⟨#[]⟩]) ?_ 0 _ rfl; exact BK.out) Tryz.underlying38 rfl (by kernel_rfl)) rfl ?_
             exact ⟨.inr ⟨16, a, HM', HA.out, rfl⟩, below_set (below_set (below_set (below_set HB.out GE.out) GE.out) GE.out) GE.out⟩
end Go.Proofs.YtmlochnckplalaaGreatDoor.PFnReadNumber
