/- A part of the proof of the theorem of this claim: Smt. No condition of its own. -/
import Derived.Test.YthgcghpcikbnkaaGreatDoorA12
import Derived.Test.YthgcghpcikbnkaaGreatDoorA21
set_option maxHeartbeats 16000000
set_option maxRecDepth 100000
namespace Go.Proofs.YthgcghpcikbnkaaGreatDoor.R
open Go.RowKit Go.Proofs.YthgcghpcikbnkaaGreatDoorW.PrintWords Go.Proofs.YthgcghpcikbnkaaGreatDoorW.PrintLast Go.Proofs.YthgcghpcikbnkaaGreatDoorW.PrintMore
set_option linter.unusedVariables false
set_option linter.unusedSimpArgs false
theorem NdA.weak {ok ok' : Ok} {w : World} {rows : List Row} {v : Value} (h : NdA ok w rows v) (hk : ∀ g, ok g → ok' g) : NdA ok' w rows v := ⟨h.1, fun b hb => hk b (h.2 b hb)⟩
theorem kids_new {ok : Ok} {w : World} {kss : List (List Row)} {vs : List Value} (h : Kl (NdA ok w) kss vs) {n : Nat} (hn : vs.length = n) (hm : vs.length ≤ 100 := by simp) : KidsA (fun _ => True) (w.alloc (.cells vs.toArray 25)) kss (.slice (some ⟨w.heap.size, 0, none⟩) n n) := by
 subst hn
 refine ⟨vs, ⟨by rw [Nat.mul_one], .inr ⟨w.heap.size, vs.length, _, rfl, Nat.zero_le _, heap_alloc_new w _, Nat.le_refl _, by unfold maxLen; omega, by rw [Nat.mul_one]; simp, by rw [Nat.mul_one]; simp⟩⟩, fun _ _ => trivial, h.mono fun r v x => x.fr (fun g o _ hg => ⟨trivial, blk_below hg (below_alloc (Below.refl _ _) _)⟩)⟩
def RN (C : SC) (w : World) (r : List Row) (s' : St) (e : Ending) (w' : World) : Prop := ∃ v, e = .returned v ∧ NdA (from_ w.heap.size) w' r v ∧ SP C w' s' ∧ Fr C.gp C.gp w w'
theorem SP.gp {C : SC} {w : World} {s : St} (h : SP C w s) : C.gp < w.heap.size := by
 obtain ⟨wr, hc⟩ := h.cell; exact blk_lt hc
theorem sp_un {C : SC} {w : World} {s : St} (h : SP C w s) (u : Bool) : SP C (w.setCell ⟨C.gp, 5, none⟩ (.bool u)) ⟨s.a, s.d, s.bad, u⟩ ∧ Fr C.gp C.gp w (w.setCell ⟨C.gp, 5, none⟩ (.bool u)) := by
 obtain ⟨wr, hc⟩ := h.cell
 exact ⟨h.upd ⟨wr, blk_put (cs := #[.slice C.A C.L.length C.cp, .int .i64 s.a, .int .i64 s.d, .int .i64 wr, .bool s.bad, .bool s.un]) hc 5 _ rfl⟩ ((Fr.refl _ _ _).put (p := ⟨C.gp, 5, none⟩) (.inl rfl) _) h.le, (Fr.refl _ _ _).put (p := ⟨C.gp, 5, none⟩) (.inl rfl) _⟩
theorem SP.c5 {C : SC} {w : World} {s : St} (h : SP C w s) : w.cell? ⟨C.gp, 5, none⟩ = some (.bool s.un) ∧ w.frozen? ⟨C.gp, 5, none⟩ = false := by
 obtain ⟨wr, hc⟩ := h.cell; exact ⟨(blk_cell hc 5).trans rfl, blk_frozen hc 5⟩
theorem SP.c4 {C : SC} {w : World} {s : St} (h : SP C w s) : w.cell? ⟨C.gp, 4, none⟩ = some (.bool s.bad) := by
 obtain ⟨wr, hc⟩ := h.cell; exact (blk_cell hc 4).trans rfl
theorem typed_walk {C : SC} : ∀ (f : Nat) {w : World} {s : St} {r : List Row} {s' : St}, SP C w s → typedF C.L f s = some (r, s') → r.length ≤ 900000 → Calls Tryz.prog 17 #[ptr C.gp] w (RN C w r s') := by
 intro f
 induction f with
 | zero => intro w s r s' h H hr; cases H
 | succ f ih =>
 intro w s r s' h H hr
 have IH := mkA @ih
 have CE := mkA (enter_walk h)
 have HPc := mkA h
 have HFc := mkA (Fr.refl C.gp C.gp w)
 have GP := mkA h.gp
 have HR := mkA hr
 clear h ih hr
 unfold typedF at H
 generalize enterF s = s1 at H CE
 cases hb : s1.bad with
 | true =>
   rw [if_pos hb] at H
   simp only [Option.some.injEq, Prod.mk.injEq] at H
   obtain ⟨rfl, rfl⟩ := H
   rw [hb] at CE
   clear hb
   go_enter Tryz.func17, Tryz.ntmps17
   go_wp2_with (first
    | (go_at_call 35; have c_ := CE.out; (with_reducible refine c_.mono ?_); rintro e w_ ⟨rfl, hP, hF⟩; have n1_ := mkA hP; have n2_ := mkA (HFc.out.trans hF); clear HPc HFc; have HPc := n1_; have HFc := n2_; clear n1_ n2_; clear hP hF))
   go_ret
   exact ⟨_, rfl, NdA.nil _ _, HPc.out, HFc.out⟩
 | false =>
   rw [if_neg (by rw [hb]; exact fun h => by cases h)] at H
   rw [hb] at CE
   have M1 := mkA True.intro
   go_enter Tryz.func17, Tryz.ntmps17
   go_upto_region 4 with (first
    | (go_at_call 35; have c_ := CE.out; (with_reducible refine c_.mono ?_); rintro e w_ ⟨rfl, hP, hF⟩; have n1_ := mkA hP; have n2_ := mkA (HFc.out.trans hF); clear HPc HFc; have HPc := n1_; have HFc := n2_; clear n1_ n2_; clear hP hF))
   obtain ⟨s2, hs2⟩ : ∃ s2, s2 = s1.unk (kd C.L s1 != 10 && kd C.L s1 != 15) := ⟨_, rfl⟩
   rw [← hs2] at H
   have hkc : (kd C.L s1 = 10) ∨ (kd C.L s1 ≠ 10 ∧ kd C.L s1 = 15) ∨ (kd C.L s1 ≠ 10 ∧ kd C.L s1 ≠ 15) := by
    by_cases a : kd C.L s1 = 10
    ·exact .inl a
    ·by_cases b : kd C.L s1 = 15
     ·exact .inr (.inl ⟨a, b⟩)
     ·exact .inr (.inr ⟨a, b⟩)
   have HH := mkA H
   have HS2 := mkA hs2
   clear H hs2 hb
   rcases hkc with k1 | ⟨k1, k2⟩ | ⟨k1, k2⟩
   case' inl =>
    have q1 := (bneq k1).1
    have HK := mkA (And.intro k1 q1)
    clear k1
    go_upto_region 6 with (first
     | (go_at_call 36; have c_ := kind_walk HPc.out; (with_reducible refine c_.mono ?_); rintro e w_ ⟨rfl, hP, hF⟩; have n1_ := mkA hP; have n2_ := mkA (HFc.out.trans hF); clear HPc HFc; have HPc := n1_; have HFc := n2_; clear n1_ n2_; clear hP hF))
    have hP := HPc.out
    have e2 : s2 = s1 := by rw [HS2.out, HK.out.2]; exact unk_false s1
    rw [← e2] at hP
    clear HPc q1 e2
    have HPc := mkA hP
    clear hP
   case' inr.inl =>
    have q1 := (bnne k1).1
    have q2 := (bneq k2).1
    have HK := mkA (And.intro q1 q2)
    clear k1 k2
    go_upto_region 6 with (first
     | (go_at_call 36; have c_ := kind_walk HPc.out; (with_reducible refine c_.mono ?_); rintro e w_ ⟨rfl, hP, hF⟩; have n1_ := mkA hP; have n2_ := mkA (HFc.out.trans hF); clear HPc HFc; have HPc := n1_; have HFc := n2_; clear n1_ n2_; clear hP hF))
    have hP := HPc.out
    have e2 : s2 = s1 := by rw [HS2.out, HK.out.1, HK.out.2]; exact unk_false s1
    rw [← e2] at hP
    clear HPc q1 q2 e2
    have HPc := mkA hP
    clear hP
   case' inr.inr =>
    have q1 := (bnne k1).1
    have q2 := (bnne k2).1
    have HK := mkA (And.intro q1 q2)
    clear k1 k2
    go_upto_region 5 with (first
     | (go_at_call 36; have c_ := kind_walk HPc.out; (with_reducible refine c_.mono ?_); rintro e w_ ⟨rfl, hP, hF⟩; have n1_ := mkA hP; have n2_ := mkA (HFc.out.trans hF); clear HPc HFc; have HPc := n1_; have HFc := n2_; clear n1_ n2_; clear hP hF))
    have c5 := HPc.out.c5.1
    have g5 := HPc.out.c5.2
    go_upto_region 6 with (fail)
    have hu := sp_un HPc.out true
    have e2 : s2 = ⟨s1.a, s1.d, s1.bad, true⟩ := by rw [HS2.out, HK.out.1, HK.out.2]; show (⟨_, _, _, s1.un || true⟩ : St) = _; rw [Bool.or_true]
    rw [← e2] at hu
    have n1_ := mkA hu.1
    have n2_ := mkA (HFc.out.trans hu.2)
    generalize World.setCell _ _ _ = w_ at n1_ n2_ ⊢
    clear HPc HFc q1 q2 e2 hu c5 g5
    have HPc := n1_
    have HFc := n2_
    clear n1_ n2_
   all_goals
    have H := HH.out
    clear HH HK HS2 CE M1
    obtain ⟨y, hy, hz⟩ := Option.bind_eq_some_iff.1 H
    have HZ := mkA (Option.some.inj hz)
    clear H hz
    unfold typ1F at hy
    rcases et : takenF C.L 10 s2 with ⟨b, s3⟩
    rw [et] at hy
    have ET := mkA et
    clear et
    obtain ⟨y1, s5⟩ := y
    cases b
    case' true =>
     obtain ⟨x, hx, hy2⟩ := Option.bind_eq_some_iff.1 hy
     obtain ⟨x1, s4⟩ := x
     simp only [Option.some.injEq, Prod.mk.injEq] at hy2
     obtain ⟨hy1, hs5⟩ := hy2
     have hlen : y1.length ≤ 900000 := by
      have h0 := HZ.out
      have h1 := HR.out
      unfold bangF at h0
      split at h0 <;> (simp only [Prod.mk.injEq] at h0; rw [← h0.1] at h1; (try simp only [nd_len] at h1); omega)
     have hl1 : x1.length ≤ 900000 := by rw [← hy1, nd_len] at hlen; omega
     have HL1 := mkA hl1
     have HX := mkA hx
     have HE := mkA (show nd 21 e0 e0 e0 0 [x1].flatten = y1 by rw [← hy1]; simp)
     have HS5 := mkA hs5
     clear hy hx hy1 hs5 hlen hl1
     go_upto_region 8 with (first
      | (go_at_call 37; have c_ := taken_walk HPc.out 10 (by decide); rw [ET.out] at c_; (with_reducible refine c_.mono ?_); rintro e w_ ⟨rfl, hP, hF⟩; have n1_ := mkA hP; have n2_ := mkA (HFc.out.trans hF); clear HPc HFc; have HPc := n1_; have HFc := n2_; clear n1_ n2_; clear hP hF)
      | (go_at_call 17; have c_ := IH.out HPc.out HX.out HL1.out; (with_reducible refine c_.mono ?_); rintro e w_ ⟨v_, rfl, hN, hP, hF⟩; obtain ⟨AN1, cN1, rfl⟩ := hN.shape; have HX_ := mkA HFc.out.size; have n1_ := mkA hP; have n2_ := mkA (HFc.out.trans hF); clear HPc HFc; have HPc := n1_; have HFc := n2_; clear n1_ n2_; have N1 := mkA (NdA.weak hN (fun g h => Nat.le_trans HX_.out h)); clear hN hP hF)
      | (go_at_call 38; (with_reducible refine (made_walk (kids_new (n := 1) (.cons N1.out .nil) rfl) (by have := HL1.out; simp; omega) (by simp)).mono ?_); rintro e w_ ⟨v_, rfl, hN, hB⟩; rw [HE.out] at hN; have hA_ := below_step (below_alloc (Below.refl _ _) _) hB; obtain ⟨AN2, cN2, rfl⟩ := hN.shape; have HX_ := mkA HFc.out.size; have n1_ := mkA (HPc.out.below hA_); have n2_ := mkA (HFc.out.step hA_); clear HPc HFc; have HPc := n1_; have HFc := n2_; clear n1_ n2_; have N2 := mkA (NdA.weak hN (fun g h => Nat.le_trans (Nat.le_trans HX_.out (by rw [World.size_alloc]; exact Nat.le_succ _)) h)); clear hN hB hA_))
     obtain ⟨a4, d4, b4, u4⟩ := s4
     have c5 := HPc.out.c5.1
     have g5 := HPc.out.c5.2
     have hu3 : u4 = true ∨ (u4 = false ∧ kd C.L ⟨a4, d4, b4, u4⟩ = 11) ∨ (u4 = false ∧ kd C.L ⟨a4, d4, b4, u4⟩ ≠ 11) := by
      cases u4
      ·by_cases a : kd C.L ⟨a4, d4, b4, false⟩ = 11
       ·exact .inr (.inl ⟨rfl, a⟩)
       ·exact .inr (.inr ⟨rfl, a⟩)
      ·exact .inl rfl
     rcases hu3 with rfl | ⟨rfl, k1⟩ | ⟨rfl, k1⟩
     case' inl =>
      have HS6 := mkA (show mustF C.L 11 ⟨a4, d4, b4, true⟩ = s5 from HS5.out)
      go_upto_region 9 with (fail)
      have hu := sp_un HPc.out true
      have n1_ := mkA hu.1
      have n2_ := mkA (HFc.out.trans hu.2)
      have mN2_ := mkA (NdA.fr N2.out (hu.2.keeps GP.out GP.out (Nat.le_refl _)))
      generalize World.setCell _ _ _ = w_ at n1_ n2_ mN2_ ⊢
      clear HPc HFc hu c5 g5 N2
      have HPc := n1_
      have HFc := n2_
      have N2 := mN2_
      clear n1_ n2_ mN2_
     case' inr.inl =>
      have HS6 := mkA (show mustF C.L 11 ⟨a4, d4, b4, false⟩ = s5 by have h := HS5.out; rw [(bneq k1).1] at h; exact h)
      have q1 := (bneq k1).1
      clear k1
      go_upto_region 9 with (first
       | (go_at_call 36; have c_ := kind_walk HPc.out; (with_reducible refine c_.mono ?_); rintro e w_ ⟨rfl, hP, hF⟩; have n1_ := mkA hP; have n2_ := mkA (HFc.out.trans hF); have m_ := mkA (NdA.fr N2.out (hF.keeps GP.out GP.out (Nat.le_refl _))); clear N2; have N2 := m_; clear m_; clear HPc HFc; have HPc := n1_; have HFc := n2_; clear n1_ n2_; clear hP hF; have c5 := HPc.out.c5.1; have g5 := HPc.out.c5.2))
      have hu := sp_un HPc.out false
      have n1_ := mkA hu.1
      have n2_ := mkA (HFc.out.trans hu.2)
      have mN2_ := mkA (NdA.fr N2.out (hu.2.keeps GP.out GP.out (Nat.le_refl _)))
      generalize World.setCell _ _ _ = w_ at n1_ n2_ mN2_ ⊢
      clear HPc HFc hu c5 g5 N2
      have HPc := n1_
      have HFc := n2_
      have N2 := mN2_
      clear n1_ n2_ mN2_
      clear q1
     case' inr.inr =>
      have HS6 := mkA (show mustF C.L 11 ⟨a4, d4, b4, true⟩ = s5 by have h := HS5.out; rw [(bnne k1).1] at h; exact h)
      have q1 := (bnne k1).1
      clear k1
      go_upto_region 9 with (first
       | (go_at_call 36; have c_ := kind_walk HPc.out; (with_reducible refine c_.mono ?_); rintro e w_ ⟨rfl, hP, hF⟩; have n1_ := mkA hP; have n2_ := mkA (HFc.out.trans hF); have m_ := mkA (NdA.fr N2.out (hF.keeps GP.out GP.out (Nat.le_refl _))); clear N2; have N2 := m_; clear m_; clear HPc HFc; have HPc := n1_; have HFc := n2_; clear n1_ n2_; clear hP hF; have c5 := HPc.out.c5.1; have g5 := HPc.out.c5.2))
      have hu := sp_un HPc.out true
      have n1_ := mkA hu.1
      have n2_ := mkA (HFc.out.trans hu.2)
      have mN2_ := mkA (NdA.fr N2.out (hu.2.keeps GP.out GP.out (Nat.le_refl _)))
      generalize World.setCell _ _ _ = w_ at n1_ n2_ mN2_ ⊢
      clear HPc HFc hu c5 g5 N2
      have HPc := n1_
      have HFc := n2_
      have N2 := mN2_
      clear n1_ n2_ mN2_
      clear q1
     all_goals
      go_upto_region 11 with (first
       | (go_at_call 39; have c_ := must_walk HPc.out 11 (by decide); rw [HS6.out] at c_; (with_reducible refine c_.mono ?_); rintro e w_ ⟨rfl, hP, hF⟩; have n1_ := mkA hP; have n2_ := mkA (HFc.out.trans hF); have m_ := mkA (NdA.fr N2.out (hF.keeps GP.out GP.out (Nat.le_refl _))); clear N2; have N2 := m_; clear m_; clear HPc HFc; have HPc := n1_; have HFc := n2_; clear n1_ n2_; clear hP hF))
      clear HS6 HS5 HX N1
    case' false =>
     simp only [Option.some.injEq, Prod.mk.injEq] at hy
     obtain ⟨hy1, hs5⟩ := hy
     have HE := mkA (show nd 20 (nameF C.L s3).1 e0 e0 0 ([] : List (List Row)).flatten = y1 by rw [← hy1]; rfl)
     have HS5 := mkA hs5
     clear hy1 hs5
     go_upto_region 11 with (first
      | (go_at_call 37; have c_ := taken_walk HPc.out 10 (by decide); rw [ET.out] at c_; (with_reducible refine c_.mono ?_); rintro e w_ ⟨rfl, hP, hF⟩; have n1_ := mkA hP; have n2_ := mkA (HFc.out.trans hF); clear HPc HFc; have HPc := n1_; have HFc := n2_; clear n1_ n2_; clear hP hF)
      | (go_at_call 40; have c_ := name_walk HPc.out; rw [HS5.out] at c_; (with_reducible refine c_.mono ?_); rintro e w_ ⟨rfl, hP, hF⟩; have n1_ := mkA hP; have n2_ := mkA (HFc.out.trans hF); clear HPc HFc; have HPc := n1_; have HFc := n2_; clear n1_ n2_; clear hP hF)
      | (go_at_call 38; (with_reducible refine (made_walk (KidsA.nil (fun _ => True) _) (by simp) (by simp)).mono ?_); rintro e w_ ⟨v_, rfl, hN, hB⟩; rw [HE.out] at hN; have hA_ := hB; obtain ⟨AN2, cN2, rfl⟩ := hN.shape; have HX_ := mkA HFc.out.size; have n1_ := mkA (HPc.out.below hA_); have n2_ := mkA (HFc.out.step hA_); clear HPc HFc; have HPc := n1_; have HFc := n2_; clear n1_ n2_; have N2 := mkA (NdA.weak hN (fun g h => Nat.le_trans HX_.out h)); clear hN hB hA_))
     clear HS5
    all_goals
     have hz := HZ.out
     have hyl : y1.length ≤ 900000 := by
      have h1 := HR.out
      unfold bangF at hz
      split at hz <;> (simp only [Prod.mk.injEq] at hz; rw [← hz.1] at h1; (try simp only [nd_len] at h1); omega)
     have HYL := mkA hyl
     clear HE HZ hyl
     unfold bangF at hz
     rcases eb : takenF C.L 2 s5 with ⟨b2, s7⟩
     simp only [eb] at hz
     have EB := mkA eb
     clear eb ET
     cases b2
     case true =>
      simp only [Prod.mk.injEq] at hz
      obtain ⟨hz1, rfl⟩ := hz
      have HE := mkA (show nd 22 e0 e0 e0 0 [y1].flatten = r by rw [← hz1]; simp)
      clear hz1
      go_wp2_with (first
       | (go_at_call 37; have c_ := taken_walk HPc.out 2 (by decide); rw [EB.out] at c_; (with_reducible refine c_.mono ?_); rintro e w_ ⟨rfl, hP, hF⟩; have n1_ := mkA hP; have n2_ := mkA (HFc.out.trans hF); have m_ := mkA (NdA.fr N2.out (hF.keeps GP.out GP.out (Nat.le_refl _))); clear N2; have N2 := m_; clear m_; clear HPc HFc; have HPc := n1_; have HFc := n2_; clear n1_ n2_; clear hP hF)
       | (go_at_call 38; (with_reducible refine (made_walk (kids_new (n := 1) (.cons N2.out .nil) rfl) (by have := HYL.out; simp; omega) (by simp)).mono ?_); rintro e w_ ⟨v_, rfl, hN, hB⟩; rw [HE.out] at hN; have hA_ := below_step (below_alloc (Below.refl _ _) _) hB; obtain ⟨AN3, cN3, rfl⟩ := hN.shape; have HX_ := mkA HFc.out.size; have n1_ := mkA (HPc.out.below hA_); have n2_ := mkA (HFc.out.step hA_); clear HPc HFc; have HPc := n1_; have HFc := n2_; clear n1_ n2_; have N3 := mkA (NdA.weak hN (fun g h => Nat.le_trans (Nat.le_trans HX_.out (by rw [World.size_alloc]; exact Nat.le_succ _)) h)); clear hN hB hA_)
       | (go_at_call 41; have c_ := leave_walk HPc.out; (with_reducible refine c_.mono ?_); rintro e w_ ⟨rfl, hP, hF⟩; have n1_ := mkA hP; have n2_ := mkA (HFc.out.trans hF); have m_ := mkA (NdA.fr N3.out (hF.keeps GP.out GP.out (Nat.le_refl _))); clear N3; have N3 := m_; clear m_; clear HPc HFc; have HPc := n1_; have HFc := n2_; clear n1_ n2_; clear hP hF))
      go_ret
      exact ⟨_, rfl, N3.out, HPc.out, HFc.out⟩
     case false =>
      simp only [Prod.mk.injEq] at hz
      obtain ⟨rfl, rfl⟩ := hz
      go_wp2_with (first
       | (go_at_call 37; have c_ := taken_walk HPc.out 2 (by decide); rw [EB.out] at c_; (with_reducible refine c_.mono ?_); rintro e w_ ⟨rfl, hP, hF⟩; have n1_ := mkA hP; have n2_ := mkA (HFc.out.trans hF); have m_ := mkA (NdA.fr N2.out (hF.keeps GP.out GP.out (Nat.le_refl _))); clear N2; have N2 := m_; clear m_; clear HPc HFc; have HPc := n1_; have HFc := n2_; clear n1_ n2_; clear hP hF)
       | (go_at_call 41; have c_ := leave_walk HPc.out; (with_reducible refine c_.mono ?_); rintro e w_ ⟨rfl, hP, hF⟩; have n1_ := mkA hP; have n2_ := mkA (HFc.out.trans hF); have m_ := mkA (NdA.fr N2.out (hF.keeps GP.out GP.out (Nat.le_refl _))); clear N2; have N2 := m_; clear m_; clear HPc HFc; have HPc := n1_; have HFc := n2_; clear n1_ n2_; clear hP hF))
      go_ret
      exact ⟨_, rfl, N2.out, HPc.out, HFc.out⟩
end Go.Proofs.YthgcghpcikbnkaaGreatDoor.R
