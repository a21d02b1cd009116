/- A part of the proof of the theorem of this claim: Smx. No condition of its own. -/
import Derived.Test.YthgcghpcikbnkaaGreatDoorA23
set_option maxHeartbeats 16000000
set_option maxRecDepth 100000
namespace Go.Proofs.YthgcghpcikbnkaaGreatDoor.R
open Go.RowKit Go.Proofs.YthgcghpcikbnkaaGreatDoorW.PrintWords Go.Proofs.YthgcghpcikbnkaaGreatDoorW.PrintLast Go.Proofs.YthgcghpcikbnkaaGreatDoorW.PrintMore
set_option linter.unusedVariables false
set_option linter.unusedSimpArgs false
theorem taken_no {L : List Tk} {k : Int} {s s' : St} (h : takenF L k s = (false, s')) : s' = s := by
 unfold takenF at h
 split at h
 ·cases h
 ·injection h with h1 h2; exact h2.symm
theorem taken_cs {L : List Tk} (k : Int) (hk : k ≠ 1) {s s' : St} {b : Bool} (h : takenF L k s = (b, s')) : b = true → 1 ≤ s'.a := by
 intro e
 subst e
 unfold takenF at h
 split at h
 ·injection h with h1 h2; rw [← h2]; exact Nat.succ_le_succ (Nat.zero_le _)
 ·cases h
theorem vars_walk {C : SC} {f : Nat} (hf : f ≤ 1000000) (hf1 : 1 ≤ f) {w : World} {s : St} {r : List Row} {s' : St} (h : SP C w s) (H : varsF C.L f s = some (r, s')) (hr : r.length ≤ 900000) : Calls Tryz.prog 22 #[ptr C.gp] w (RN C w r s') := by
 have HPc := mkA h
 have HFc := mkA (Fr.refl C.gp C.gp w)
 have GP := mkA h.gp
 have HR := mkA hr
 have HFB := mkA hf
 have HF1 := mkA hf1
 clear hr hf hf1
 unfold varsF at H
 rcases et : takenF C.L 4 s with ⟨b, s1⟩
 rw [et] at H
 have hcs := taken_cs 4 (by decide) et
 have ET := mkA et
 clear et h
 cases b
 ·simp only [Option.some.injEq, Prod.mk.injEq] at H
  obtain ⟨rfl, rfl⟩ := H
  clear hcs
  go_enter Tryz.func22, Tryz.ntmps22
  go_wp2_with (first
   | (go_at_call 37; have c_ := taken_walk HPc.out 4 (by decide); rw [ET.out] at c_; (with_reducible refine c_.mono ?_); rintro e w_ ⟨rfl, hP, hF⟩; have n1_ := mkA hP; have n2_ := mkA (HFc.out.trans hF); clear HPc HFc; have HPc := n1_; have HFc := n2_; clear n1_ n2_; clear hP hF))
  go_ret
  exact ⟨_, rfl, NdA.nil _ _, HPc.out, HFc.out⟩
 ·have HH := mkA (show loop1F C.L (varF C.L f) 5 f (someF C.L 5 s1) = some (r, s') from H)
  have HS1 := mkA (show s1.bad = false → 1 ≤ s1.a from fun _ => hcs rfl)
  clear H hcs
  go_enter Tryz.func22, Tryz.ntmps22
  go_wp2_with (first
   | (go_at_call 37; have c_ := taken_walk HPc.out 4 (by decide); rw [ET.out] at c_; (with_reducible refine c_.mono ?_); rintro e w_ ⟨rfl, hP, hF⟩; have n1_ := mkA hP; have n2_ := mkA (HFc.out.trans hF); clear HPc HFc; have HPc := n1_; have HFc := n2_; clear n1_ n2_; clear hP hF)
   | (go_at_call 43; have c_ := some_walk HPc.out 5 HS1.out; (with_reducible refine c_.mono ?_); rintro e w_ ⟨rfl, hP, hF⟩; have n1_ := mkA hP; have n2_ := mkA (HFc.out.trans hF); clear HPc HFc; have HPc := n1_; have HFc := n2_; clear n1_ n2_; clear hP hF))
  go_loopg [3, 4] f (fun gk_ v3 v4 wr => ∃ (m : Nat) (acc : List Row) (st : St) (rest : List Row), v4 = .int .i64 m ∧ Aside0 ((m = 0 ∧ gk_ = f ∧ loop1F C.L (varF C.L f) 5 f st = some (rest, s')) ∨ (1 ≤ m ∧ loopF C.L (varF C.L f) 5 gk_ st = some (rest, s'))) ∧ Aside0 (acc ++ rest = r) ∧ Aside0 (NdA (from_ w.heap.size) wr acc v3) ∧ Aside0 (SP C wr st) ∧ Aside0 (Fr C.gp C.gp w wr) ∧ Aside0 (m + gk_ ≤ f))
  case atStart => exact ⟨0, [], _, r, rfl, ⟨.inl ⟨rfl, rfl, HH.out⟩⟩, ⟨rfl⟩, ⟨NdA.nil _ _⟩, HPc, HFc, ⟨by simp⟩⟩
  case round =>
   obtain ⟨m, acc, st, rest, rfl, HLo, HCat, NO, HPr, HFw, HNn⟩ := hrel
   clear HPc HFc HH
   have HPc := HPr
   have HFc := HFw
   clear HPr HFw
   have c4 := HPc.out.c4
   generalize hw_ : wr = w_ at *
   clear hw_
   by_cases hb : st.bad = true
   ·rw [hb] at c4
    have hrs : acc = r ∧ st = s' := by
     have h0 := HLo.out
     rcases h0 with ⟨_, _, h0⟩ | ⟨_, h0⟩
     ·unfold loop1F at h0
      rw [if_pos hb] at h0
      simp only [Option.some.injEq, Prod.mk.injEq] at h0
      obtain ⟨rfl, rfl⟩ := h0
      exact ⟨by rw [← HCat.out, List.append_nil], rfl⟩
     ·cases gk with
      | zero => cases h0
      | succ k1 =>
        unfold loopF at h0
        rw [if_pos hb] at h0
        simp only [Option.some.injEq, Prod.mk.injEq] at h0
        obtain ⟨rfl, rfl⟩ := h0
        exact ⟨by rw [← HCat.out, List.append_nil], rfl⟩
    obtain ⟨rfl, rfl⟩ := hrs
    obtain ⟨Ao, co, rfl⟩ := NO.out.shape
    clear hb
    go_wp2
    go_ret
    exact ⟨_, rfl, NO.out, HPc.out, HFc.out⟩
   rw [show st.bad = false from by cases e : st.bad with | false => rfl | true => exact absurd e hb] at c4
   have hgk : ∃ k1, gk = k1 + 1 := by
    cases gk with
    | zero =>
      rcases HLo.out with ⟨_, h0, _⟩ | ⟨_, h0⟩
      ·have := HF1.out; omega
      ·cases h0
    | succ k1 => exact ⟨k1, rfl⟩
   obtain ⟨k1, rfl⟩ := hgk
   rcases es : takenF C.L 5 st with ⟨b2, s3⟩
   have hit : (m = 0 ∨ (1 ≤ m ∧ b2 = false)) → ∃ x y : RS, (varF C.L f) st = some x ∧ loopF C.L (varF C.L f) 5 k1 x.2 = some (y.1, s') ∧ rest = x.1 ++ y.1 := by
    intro hm
    rcases HLo.out with ⟨h1, h2, h0⟩ | ⟨h1, h0⟩
    ·unfold loop1F at h0
     rw [if_neg hb, show f - 1 = k1 by omega] at h0
     obtain ⟨x, hx, hy⟩ := Option.bind_eq_some_iff.1 h0
     obtain ⟨y, hy1, hy2⟩ := Option.bind_eq_some_iff.1 hy
     simp only [Option.some.injEq, Prod.mk.injEq] at hy2
     exact ⟨x, y, hx, by rw [← hy2.2]; exact hy1, hy2.1.symm⟩
    ·have hb2 : b2 = false := by rcases hm with hm | hm; omega; exact hm.2
     subst hb2
     unfold loopF at h0
     rw [if_neg hb, es] at h0
     have es3 : s3 = st := taken_no es
     subst es3
     obtain ⟨x, hx, hy⟩ := Option.bind_eq_some_iff.1 h0
     obtain ⟨y, hy1, hy2⟩ := Option.bind_eq_some_iff.1 hy
     simp only [Option.some.injEq, Prod.mk.injEq] at hy2
     exact ⟨x, y, hx, by rw [← hy2.2]; exact hy1, hy2.1.symm⟩
   have hex : 1 ≤ m → b2 = true → acc = r ∧ s3 = s' := by
    intro hm hb2
    subst hb2
    rcases HLo.out with ⟨h1, _⟩ | ⟨_, h0⟩
    ·omega
    ·unfold loopF at h0
     rw [if_neg hb, es] at h0
     simp only [Option.some.injEq, Prod.mk.injEq] at h0
     obtain ⟨rfl, rfl⟩ := h0
     exact ⟨by rw [← HCat.out, List.append_nil], rfl⟩
   have hno : b2 = false → s3 = st := fun e => by subst e; exact taken_no es
   have ES := mkA es
   have HNX := mkA (show wrap64 ((m : Int) + 1) = ((m + 1 : Nat) : Int) from by have h1 := HNn.out; have h2 := HFB.out; exact (w64 (by omega) (by omega)).trans (by omega))
   have hm3 : m = 0 ∨ (1 ≤ m ∧ b2 = true) ∨ (1 ≤ m ∧ b2 = false) := by
    rcases Nat.eq_zero_or_pos m with e | e
    ·exact .inl e
    ·cases b2
     ·exact .inr (.inr ⟨e, rfl⟩)
     ·exact .inr (.inl ⟨e, rfl⟩)
   clear es hb HLo
   rcases hm3 with hm | ⟨hm, hb2⟩ | ⟨hm, hb2⟩
   case' inl =>
    have hI := hit (.inl hm)
    have qm : ((m : Int) == 0) = true := by rw [hm]; rfl
    have HM0 := mkA hm
    clear hit hex hno hm
   case inr.inl =>
    obtain ⟨rfl, rfl⟩ := hex hm hb2
    subst hb2
    obtain ⟨Ao, co, rfl⟩ := NO.out.shape
    have qm : ((m : Int) == 0) = false := beq_eq_false_iff_ne.2 (by omega)
    clear hit hex hno hm
    go_wp2_with (first
     | (go_at_call 37; have c_ := taken_walk HPc.out 5 (by decide); rw [ES.out] at c_; (with_reducible refine c_.mono ?_); rintro e w_ ⟨rfl, hP, hF⟩; have n1_ := mkA hP; have n2_ := mkA (HFc.out.trans hF); have m_ := mkA (NdA.fr NO.out (hF.keeps GP.out GP.out (Nat.le_refl _))); clear NO; have NO := m_; clear m_; clear HPc HFc; have HPc := n1_; have HFc := n2_; clear n1_ n2_; clear hP hF))
    go_ret
    exact ⟨_, rfl, NO.out, HPc.out, HFc.out⟩
   case' inr.inr =>
    have hI := hit (.inr ⟨hm, hb2⟩)
    have e_ := hno hb2
    subst s3
    subst hb2
    have qm : ((m : Int) == 0) = false := beq_eq_false_iff_ne.2 (by omega)
    clear hit hex hno hm
   all_goals
    obtain ⟨x, y, hx, hy, hrest⟩ := hI
    obtain ⟨x1, s4⟩ := x
    obtain ⟨y1, s5⟩ := y
    simp only at hy hrest
    have HX := mkA hx
    have HY := mkA hy
    have HRS := mkA hrest
    have HXR := mkA (show acc.length + x1.length ≤ 900000 by have h1 := congrArg List.length HCat.out; rw [hrest] at h1; simp only [List.length_append] at h1; have := HR.out; omega)
    clear hx hy hrest
    have hx := HX.out
    unfold varF at hx
    obtain ⟨tt, ht, hx2⟩ := Option.bind_eq_some_iff.1 hx
    obtain ⟨vv, hv, hx3⟩ := Option.bind_eq_some_iff.1 hx2
    obtain ⟨t1, s6⟩ := tt
    obtain ⟨v1, s7⟩ := vv
    simp only [Option.some.injEq, Prod.mk.injEq] at hx3 hv
    obtain ⟨hx1, hs4⟩ := hx3
    have HT := mkA ht
    have HS4 := mkA hs4
    have HTL := mkA (show t1.length ≤ 900000 ∧ v1.length ≤ 900000 ∧ t1.length + v1.length ≤ 900000 by have h1 := HXR.out; rw [← hx1, nd_len, List.length_append] at h1; omega)
    have HE := mkA (show nd 4 (nameF C.L (mustF C.L 3 st)).1 e0 e0 0 [t1, v1].flatten = x1 by rw [← hx1]; simp)
    clear hx hx2 ht hx1 hs4
    go_upto_region 10 with (first
     | (go_at_call 37; have c_ := taken_walk HPc.out 5 (by decide); rw [ES.out] at c_; (with_reducible refine c_.mono ?_); rintro e w_ ⟨rfl, hP, hF⟩; have n1_ := mkA hP; have n2_ := mkA (HFc.out.trans hF); have m_ := mkA (NdA.fr NO.out (hF.keeps GP.out GP.out (Nat.le_refl _))); clear NO; have NO := m_; clear m_; clear HPc HFc; have HPc := n1_; have HFc := n2_; clear n1_ n2_; clear hP hF)
     | (go_at_call 39; have c_ := must_walk HPc.out 3 (by decide); (with_reducible refine c_.mono ?_); rintro e w_ ⟨rfl, hP, hF⟩; have n1_ := mkA hP; have n2_ := mkA (HFc.out.trans hF); have m_ := mkA (NdA.fr NO.out (hF.keeps GP.out GP.out (Nat.le_refl _))); clear NO; have NO := m_; clear m_; clear HPc HFc; have HPc := n1_; have HFc := n2_; clear n1_ n2_; clear hP hF)
     | (go_at_call 40; have c_ := name_walk HPc.out; (with_reducible refine c_.mono ?_); rintro e w_ ⟨rfl, hP, hF⟩; have n1_ := mkA hP; have n2_ := mkA (HFc.out.trans hF); have m_ := mkA (NdA.fr NO.out (hF.keeps GP.out GP.out (Nat.le_refl _))); clear NO; have NO := m_; clear m_; clear HPc HFc; have HPc := n1_; have HFc := n2_; clear n1_ n2_; clear hP hF))
    have hA_ := below_alloc (Below.refl w_.heap.size w_) (.cells #[.int .i64 4, .string (nameF C.L (mustF C.L 3 st)).1, .string ⟨#[]⟩, .string ⟨#[]⟩, .int .i64 0, .int .i64 0] 55)
    have n1_ := mkA (HPc.out.below hA_)
    have n2_ := mkA (HFc.out.step hA_)
    have mNO_ := mkA (NdA.fr NO.out (keeps_below hA_ (fun g h => h)))
    have n4_ := mkA (heap_alloc_new w_ (.cells #[.int .i64 4, .string (nameF C.L (mustF C.L 3 st)).1, .string ⟨#[]⟩, .string ⟨#[]⟩, .int .i64 0, .int .i64 0] 55))
    clear hA_
    generalize w_.heap.size = gb at n4_ ⊢
    generalize World.alloc _ _ = w_ at n1_ n2_ mNO_ n4_ ⊢
    clear HPc HFc NO
    have HPc := n1_
    have HFc := n2_
    have NO := mNO_
    have BX := n4_
    clear n1_ n2_ n4_ mNO_
    have NGB := mkA (show gb ≠ C.gp from by obtain ⟨wr, hc⟩ := HPc.out.cell; exact blk_ne BX.out hc (by decide))
    clear ES
    go_upto_region 13 with (first
     | (go_at_call 39; have c_ := must_walk HPc.out 7 (by decide); (with_reducible refine c_.mono ?_); rintro e w_ ⟨rfl, hP, hF⟩; have n1_ := mkA hP; have n2_ := mkA (HFc.out.trans hF); have m_ := mkA (NdA.fr NO.out (hF.keeps GP.out GP.out (Nat.le_refl _))); clear NO; have NO := m_; clear m_; have m_ := mkA (hF.blk BX.out NGB.out NGB.out); clear BX; have BX := m_; clear m_; clear HPc HFc; have HPc := n1_; have HFc := n2_; clear n1_ n2_; clear hP hF)
     | (go_at_call 17; have c_ := typed_walk f HPc.out HT.out HTL.out.1; (with_reducible refine c_.mono ?_); rintro e w_ ⟨v_, rfl, hN, hP, hF⟩; obtain ⟨ANT, cNT, rfl⟩ := hN.shape; have HX_ := mkA HFc.out.size; have n1_ := mkA hP; have n2_ := mkA (HFc.out.trans hF); have m_ := mkA (NdA.fr NO.out (hF.keeps GP.out GP.out (Nat.le_refl _))); clear NO; have NO := m_; clear m_; have m_ := mkA (hF.blk BX.out NGB.out NGB.out); clear BX; have BX := m_; clear m_; clear HPc HFc; have HPc := n1_; have HFc := n2_; clear n1_ n2_; have NT := mkA (NdA.weak hN (fun g h => Nat.le_trans HX_.out h)); clear hN hP hF))
    unfold defF at hv
    rcases ed : takenF C.L 8 s6 with ⟨b8, s8⟩
    rw [ed] at hv
    have ED := mkA ed
    clear ed
    cases b8
    ·simp only [Option.some.injEq, Prod.mk.injEq] at hv
     obtain ⟨hv1, hv2⟩ := hv
     subst hv1
     subst s8
     go_upto_region 15 with (first
      | (go_at_call 37; have c_ := taken_walk HPc.out 8 (by decide); rw [ED.out] at c_; (with_reducible refine c_.mono ?_); rintro e w_ ⟨rfl, hP, hF⟩; have n1_ := mkA hP; have n2_ := mkA (HFc.out.trans hF); have m_ := mkA (NdA.fr NO.out (hF.keeps GP.out GP.out (Nat.le_refl _))); clear NO; have NO := m_; clear m_; have m_ := mkA (hF.blk BX.out NGB.out NGB.out); clear BX; have BX := m_; clear m_; have m_ := mkA (NdA.fr NT.out (hF.keeps GP.out GP.out (Nat.le_refl _))); clear NT; have NT := m_; clear m_; clear HPc HFc; have HPc := n1_; have HFc := n2_; clear n1_ n2_; clear hP hF))
     have hk9 : (kd C.L s7 = 9) ∨ (kd C.L s7 ≠ 9) := by by_cases a : kd C.L s7 = 9; exact .inl a; exact .inr a
     rcases hk9 with k9 | k9
     ·have q9 := (bneq k9).2
      have e4 : s4 = ⟨s7.a, s7.d, s7.bad, true⟩ := by rw [← HS4.out, q9]; show (⟨_, _, _, s7.un || true⟩ : St) = _; rw [Bool.or_true]
      subst s4
      clear k9
      go_upto_region 16 with (first
       | (go_at_call 36; have c_ := kind_walk HPc.out; (with_reducible refine c_.mono ?_); rintro e w_ ⟨rfl, hP, hF⟩; have n1_ := mkA hP; have n2_ := mkA (HFc.out.trans hF); have m_ := mkA (NdA.fr NO.out (hF.keeps GP.out GP.out (Nat.le_refl _))); clear NO; have NO := m_; clear m_; have m_ := mkA (hF.blk BX.out NGB.out NGB.out); clear BX; have BX := m_; clear m_; have m_ := mkA (NdA.fr NT.out (hF.keeps GP.out GP.out (Nat.le_refl _))); clear NT; have NT := m_; clear m_; clear HPc HFc; have HPc := n1_; have HFc := n2_; clear n1_ n2_; clear hP hF))
      have c5 := HPc.out.c5.1
      have g5 := HPc.out.c5.2
      go_upto_region 17 with (fail)
      have hu := sp_un HPc.out true
      have n1_ := mkA hu.1
      have n2_ := mkA (HFc.out.trans hu.2)
      have mNO_ := mkA (NdA.fr NO.out (hu.2.keeps GP.out GP.out (Nat.le_refl _)))
      have mBX_ := mkA (hu.2.blk BX.out NGB.out NGB.out)
      have mNT_ := mkA (NdA.fr NT.out (hu.2.keeps GP.out GP.out (Nat.le_refl _)))
      generalize World.setCell _ _ _ = w_ at n1_ n2_ mNO_ mBX_ mNT_ ⊢
      clear HPc HFc hu c5 g5 NO BX NT
      have HPc := n1_
      have HFc := n2_
      have NO := mNO_
      have BX := mBX_
      have NT := mNT_
      clear n1_ n2_ mNO_ mBX_ mNT_
      have z_0 : w_.cell? ⟨gb, 0, none⟩ = some (.int .i64 4) := (blk_cell BX.out 0).trans rfl
      have z_1 : w_.cell? ⟨gb, 1, none⟩ = some (.string (nameF C.L (mustF C.L 3 st)).1) := (blk_cell BX.out 1).trans rfl
      have z_2 : w_.cell? ⟨gb, 2, none⟩ = some (.string ⟨#[]⟩) := (blk_cell BX.out 2).trans rfl
      have z_3 : w_.cell? ⟨gb, 3, none⟩ = some (.string ⟨#[]⟩) := (blk_cell BX.out 3).trans rfl
      have z_4 : w_.cell? ⟨gb, 4, none⟩ = some (.int .i64 0) := (blk_cell BX.out 4).trans rfl
      have z_5 : w_.cell? ⟨gb, 5, none⟩ = some (.int .i64 0) := (blk_cell BX.out 5).trans rfl
      go_wp2_with (first
       | (go_at_call 38; (with_reducible refine (made_walk (kids_new (n := 2) (.cons NT.out (.cons (NdA.nil _ _) .nil)) rfl) (by have := HTL.out.2.2; simp; omega) (by simp)).mono ?_); rintro e w_ ⟨v_, rfl, hN, hB⟩; rw [HE.out] at hN; have hA_ := below_step (below_alloc (Below.refl _ _) _) hB; obtain ⟨ANM, cNM, rfl⟩ := hN.shape; have HX_ := mkA HFc.out.size; have n1_ := mkA (HPc.out.below hA_); have n2_ := mkA (HFc.out.step hA_); have m_ := mkA (NdA.fr NO.out (keeps_below hA_ (fun g h => h))); clear NO; have NO := m_; clear m_; clear HPc HFc; have HPc := n1_; have HFc := n2_; clear n1_ n2_; have NM := mkA (NdA.weak hN (fun g h => Nat.le_trans (Nat.le_trans HX_.out (by rw [World.size_alloc]; exact Nat.le_succ _)) h)); clear hN hB hA_; have HO := mkA (own_up NO.out.1 NO.out.2))
       | (at_builtin; refine nd_append w.heap.size rfl (.tmp 48) (.tmp 53) rfl u3 _ acc x1 rfl rfl HO.out NM.out.1 HFc.out.size (by have := HXR.out; omega) ?_; intro v6 w6 ho hg hat; have HN6 := mkA (show NdA (from_ w.heap.size) w6 (acc ++ x1) v6 from ⟨own_less ho (Nat.zero_le _), fun b hb => (World.ownsRow.lt ho b hb).1⟩); have HG6 := mkA hg; clear ho hg hat))
      go_roundg k1
      case measure => omega
      case rel => exact ⟨m + 1, acc ++ x1, _, y1, congrArg (Value.int .i64) HNX.out, ⟨.inr ⟨Nat.succ_le_succ (Nat.zero_le _), HY.out⟩⟩, ⟨by rw [← HCat.out, HRS.out, List.append_assoc]⟩, HN6, ⟨HPc.out.grown HO.out (.inr rfl) HG6.out⟩, ⟨fr_grown HFc.out HG6.out (fun b hb => (World.ownsRow.lt HO.out b hb).1)⟩, ⟨by have := HNn.out; omega⟩⟩
     ·have q9 := (bnne k9).2
      have e4 : s4 = s7 := by rw [← HS4.out, q9]; exact unk_false s7
      go_upto_region 17 with (first
       | (go_at_call 36; have c_ := kind_walk HPc.out; (with_reducible refine c_.mono ?_); rintro e w_ ⟨rfl, hP, hF⟩; have n1_ := mkA hP; have n2_ := mkA (HFc.out.trans hF); have m_ := mkA (NdA.fr NO.out (hF.keeps GP.out GP.out (Nat.le_refl _))); clear NO; have NO := m_; clear m_; have m_ := mkA (hF.blk BX.out NGB.out NGB.out); clear BX; have BX := m_; clear m_; have m_ := mkA (NdA.fr NT.out (hF.keeps GP.out GP.out (Nat.le_refl _))); clear NT; have NT := m_; clear m_; clear HPc HFc; have HPc := n1_; have HFc := n2_; clear n1_ n2_; clear hP hF))
      subst s7
      clear k9 HS4
      have z_0 : w_.cell? ⟨gb, 0, none⟩ = some (.int .i64 4) := (blk_cell BX.out 0).trans rfl
      have z_1 : w_.cell? ⟨gb, 1, none⟩ = some (.string (nameF C.L (mustF C.L 3 st)).1) := (blk_cell BX.out 1).trans rfl
      have z_2 : w_.cell? ⟨gb, 2, none⟩ = some (.string ⟨#[]⟩) := (blk_cell BX.out 2).trans rfl
      have z_3 : w_.cell? ⟨gb, 3, none⟩ = some (.string ⟨#[]⟩) := (blk_cell BX.out 3).trans rfl
      have z_4 : w_.cell? ⟨gb, 4, none⟩ = some (.int .i64 0) := (blk_cell BX.out 4).trans rfl
      have z_5 : w_.cell? ⟨gb, 5, none⟩ = some (.int .i64 0) := (blk_cell BX.out 5).trans rfl
      go_wp2_with (first
       | (go_at_call 38; (with_reducible refine (made_walk (kids_new (n := 2) (.cons NT.out (.cons (NdA.nil _ _) .nil)) rfl) (by have := HTL.out.2.2; simp; omega) (by simp)).mono ?_); rintro e w_ ⟨v_, rfl, hN, hB⟩; rw [HE.out] at hN; have hA_ := below_step (below_alloc (Below.refl _ _) _) hB; obtain ⟨ANM, cNM, rfl⟩ := hN.shape; have HX_ := mkA HFc.out.size; have n1_ := mkA (HPc.out.below hA_); have n2_ := mkA (HFc.out.step hA_); have m_ := mkA (NdA.fr NO.out (keeps_below hA_ (fun g h => h))); clear NO; have NO := m_; clear m_; clear HPc HFc; have HPc := n1_; have HFc := n2_; clear n1_ n2_; have NM := mkA (NdA.weak hN (fun g h => Nat.le_trans (Nat.le_trans HX_.out (by rw [World.size_alloc]; exact Nat.le_succ _)) h)); clear hN hB hA_; have HO := mkA (own_up NO.out.1 NO.out.2))
       | (at_builtin; refine nd_append w.heap.size rfl (.tmp 48) (.tmp 53) rfl u3 _ acc x1 rfl rfl HO.out NM.out.1 HFc.out.size (by have := HXR.out; omega) ?_; intro v6 w6 ho hg hat; have HN6 := mkA (show NdA (from_ w.heap.size) w6 (acc ++ x1) v6 from ⟨own_less ho (Nat.zero_le _), fun b hb => (World.ownsRow.lt ho b hb).1⟩); have HG6 := mkA hg; clear ho hg hat))
      go_roundg k1
      case measure => omega
      case rel => exact ⟨m + 1, acc ++ x1, _, y1, congrArg (Value.int .i64) HNX.out, ⟨.inr ⟨Nat.succ_le_succ (Nat.zero_le _), HY.out⟩⟩, ⟨by rw [← HCat.out, HRS.out, List.append_assoc]⟩, HN6, ⟨HPc.out.grown HO.out (.inr rfl) HG6.out⟩, ⟨fr_grown HFc.out HG6.out (fun b hb => (World.ownsRow.lt HO.out b hb).1)⟩, ⟨by have := HNn.out; omega⟩⟩
    ·have HV := mkA (show valueF C.L true f s8 = some (v1, s7) from hv)
     clear hv
     go_upto_region 15 with (first
      | (go_at_call 37; have c_ := taken_walk HPc.out 8 (by decide); rw [ED.out] at c_; (with_reducible refine c_.mono ?_); rintro e w_ ⟨rfl, hP, hF⟩; have n1_ := mkA hP; have n2_ := mkA (HFc.out.trans hF); have m_ := mkA (NdA.fr NO.out (hF.keeps GP.out GP.out (Nat.le_refl _))); clear NO; have NO := m_; clear m_; have m_ := mkA (hF.blk BX.out NGB.out NGB.out); clear BX; have BX := m_; clear m_; have m_ := mkA (NdA.fr NT.out (hF.keeps GP.out GP.out (Nat.le_refl _))); clear NT; have NT := m_; clear m_; clear HPc HFc; have HPc := n1_; have HFc := n2_; clear n1_ n2_; clear hP hF)
      | (go_at_call 18; have c_ := value_walk true f HFB.out HPc.out HV.out HTL.out.2.1; (with_reducible refine c_.mono ?_); rintro e w_ ⟨v_, rfl, hN, hP, hF⟩; obtain ⟨ANV, cNV, rfl⟩ := hN.shape; have HX_ := mkA HFc.out.size; have n1_ := mkA hP; have n2_ := mkA (HFc.out.trans hF); have m_ := mkA (NdA.fr NO.out (hF.keeps GP.out GP.out (Nat.le_refl _))); clear NO; have NO := m_; clear m_; have m_ := mkA (hF.blk BX.out NGB.out NGB.out); clear BX; have BX := m_; clear m_; have m_ := mkA (NdA.fr NT.out (hF.keeps GP.out GP.out (Nat.le_refl _))); clear NT; have NT := m_; clear m_; clear HPc HFc; have HPc := n1_; have HFc := n2_; clear n1_ n2_; have NV := mkA (NdA.weak hN (fun g h => Nat.le_trans HX_.out h)); clear hN hP hF))
     have hk9 : (kd C.L s7 = 9) ∨ (kd C.L s7 ≠ 9) := by by_cases a : kd C.L s7 = 9; exact .inl a; exact .inr a
     rcases hk9 with k9 | k9
     ·have q9 := (bneq k9).2
      have e4 : s4 = ⟨s7.a, s7.d, s7.bad, true⟩ := by rw [← HS4.out, q9]; show (⟨_, _, _, s7.un || true⟩ : St) = _; rw [Bool.or_true]
      subst s4
      clear k9
      go_upto_region 16 with (first
       | (go_at_call 36; have c_ := kind_walk HPc.out; (with_reducible refine c_.mono ?_); rintro e w_ ⟨rfl, hP, hF⟩; have n1_ := mkA hP; have n2_ := mkA (HFc.out.trans hF); have m_ := mkA (NdA.fr NO.out (hF.keeps GP.out GP.out (Nat.le_refl _))); clear NO; have NO := m_; clear m_; have m_ := mkA (hF.blk BX.out NGB.out NGB.out); clear BX; have BX := m_; clear m_; have m_ := mkA (NdA.fr NT.out (hF.keeps GP.out GP.out (Nat.le_refl _))); clear NT; have NT := m_; clear m_; have m_ := mkA (NdA.fr NV.out (hF.keeps GP.out GP.out (Nat.le_refl _))); clear NV; have NV := m_; clear m_; clear HPc HFc; have HPc := n1_; have HFc := n2_; clear n1_ n2_; clear hP hF))
      have c5 := HPc.out.c5.1
      have g5 := HPc.out.c5.2
      go_upto_region 17 with (fail)
      have hu := sp_un HPc.out true
      have n1_ := mkA hu.1
      have n2_ := mkA (HFc.out.trans hu.2)
      have mNO_ := mkA (NdA.fr NO.out (hu.2.keeps GP.out GP.out (Nat.le_refl _)))
      have mBX_ := mkA (hu.2.blk BX.out NGB.out NGB.out)
      have mNT_ := mkA (NdA.fr NT.out (hu.2.keeps GP.out GP.out (Nat.le_refl _)))
      have mNV_ := mkA (NdA.fr NV.out (hu.2.keeps GP.out GP.out (Nat.le_refl _)))
      generalize World.setCell _ _ _ = w_ at n1_ n2_ mNO_ mBX_ mNT_ mNV_ ⊢
      clear HPc HFc hu c5 g5 NO BX NT NV
      have HPc := n1_
      have HFc := n2_
      have NO := mNO_
      have BX := mBX_
      have NT := mNT_
      have NV := mNV_
      clear n1_ n2_ mNO_ mBX_ mNT_ mNV_
      have z_0 : w_.cell? ⟨gb, 0, none⟩ = some (.int .i64 4) := (blk_cell BX.out 0).trans rfl
      have z_1 : w_.cell? ⟨gb, 1, none⟩ = some (.string (nameF C.L (mustF C.L 3 st)).1) := (blk_cell BX.out 1).trans rfl
      have z_2 : w_.cell? ⟨gb, 2, none⟩ = some (.string ⟨#[]⟩) := (blk_cell BX.out 2).trans rfl
      have z_3 : w_.cell? ⟨gb, 3, none⟩ = some (.string ⟨#[]⟩) := (blk_cell BX.out 3).trans rfl
      have z_4 : w_.cell? ⟨gb, 4, none⟩ = some (.int .i64 0) := (blk_cell BX.out 4).trans rfl
      have z_5 : w_.cell? ⟨gb, 5, none⟩ = some (.int .i64 0) := (blk_cell BX.out 5).trans rfl
      go_wp2_with (first
       | (go_at_call 38; (with_reducible refine (made_walk (kids_new (n := 2) (.cons NT.out (.cons NV.out .nil)) rfl) (by have := HTL.out.2.2; simp; omega) (by simp)).mono ?_); rintro e w_ ⟨v_, rfl, hN, hB⟩; rw [HE.out] at hN; have hA_ := below_step (below_alloc (Below.refl _ _) _) hB; obtain ⟨ANM, cNM, rfl⟩ := hN.shape; have HX_ := mkA HFc.out.size; have n1_ := mkA (HPc.out.below hA_); have n2_ := mkA (HFc.out.step hA_); have m_ := mkA (NdA.fr NO.out (keeps_below hA_ (fun g h => h))); clear NO; have NO := m_; clear m_; clear HPc HFc; have HPc := n1_; have HFc := n2_; clear n1_ n2_; have NM := mkA (NdA.weak hN (fun g h => Nat.le_trans (Nat.le_trans HX_.out (by rw [World.size_alloc]; exact Nat.le_succ _)) h)); clear hN hB hA_; have HO := mkA (own_up NO.out.1 NO.out.2))
       | (at_builtin; refine nd_append w.heap.size rfl (.tmp 48) (.tmp 53) rfl u3 _ acc x1 rfl rfl HO.out NM.out.1 HFc.out.size (by have := HXR.out; omega) ?_; intro v6 w6 ho hg hat; have HN6 := mkA (show NdA (from_ w.heap.size) w6 (acc ++ x1) v6 from ⟨own_less ho (Nat.zero_le _), fun b hb => (World.ownsRow.lt ho b hb).1⟩); have HG6 := mkA hg; clear ho hg hat))
      go_roundg k1
      case measure => omega
      case rel => exact ⟨m + 1, acc ++ x1, _, y1, congrArg (Value.int .i64) HNX.out, ⟨.inr ⟨Nat.succ_le_succ (Nat.zero_le _), HY.out⟩⟩, ⟨by rw [← HCat.out, HRS.out, List.append_assoc]⟩, HN6, ⟨HPc.out.grown HO.out (.inr rfl) HG6.out⟩, ⟨fr_grown HFc.out HG6.out (fun b hb => (World.ownsRow.lt HO.out b hb).1)⟩, ⟨by have := HNn.out; omega⟩⟩
     ·have q9 := (bnne k9).2
      have e4 : s4 = s7 := by rw [← HS4.out, q9]; exact unk_false s7
      go_upto_region 17 with (first
       | (go_at_call 36; have c_ := kind_walk HPc.out; (with_reducible refine c_.mono ?_); rintro e w_ ⟨rfl, hP, hF⟩; have n1_ := mkA hP; have n2_ := mkA (HFc.out.trans hF); have m_ := mkA (NdA.fr NO.out (hF.keeps GP.out GP.out (Nat.le_refl _))); clear NO; have NO := m_; clear m_; have m_ := mkA (hF.blk BX.out NGB.out NGB.out); clear BX; have BX := m_; clear m_; have m_ := mkA (NdA.fr NT.out (hF.keeps GP.out GP.out (Nat.le_refl _))); clear NT; have NT := m_; clear m_; have m_ := mkA (NdA.fr NV.out (hF.keeps GP.out GP.out (Nat.le_refl _))); clear NV; have NV := m_; clear m_; clear HPc HFc; have HPc := n1_; have HFc := n2_; clear n1_ n2_; clear hP hF))
      subst s7
      clear k9 HS4
      have z_0 : w_.cell? ⟨gb, 0, none⟩ = some (.int .i64 4) := (blk_cell BX.out 0).trans rfl
      have z_1 : w_.cell? ⟨gb, 1, none⟩ = some (.string (nameF C.L (mustF C.L 3 st)).1) := (blk_cell BX.out 1).trans rfl
      have z_2 : w_.cell? ⟨gb, 2, none⟩ = some (.string ⟨#[]⟩) := (blk_cell BX.out 2).trans rfl
      have z_3 : w_.cell? ⟨gb, 3, none⟩ = some (.string ⟨#[]⟩) := (blk_cell BX.out 3).trans rfl
      have z_4 : w_.cell? ⟨gb, 4, none⟩ = some (.int .i64 0) := (blk_cell BX.out 4).trans rfl
      have z_5 : w_.cell? ⟨gb, 5, none⟩ = some (.int .i64 0) := (blk_cell BX.out 5).trans rfl
      go_wp2_with (first
       | (go_at_call 38; (with_reducible refine (made_walk (kids_new (n := 2) (.cons NT.out (.cons NV.out .nil)) rfl) (by have := HTL.out.2.2; simp; omega) (by simp)).mono ?_); rintro e w_ ⟨v_, rfl, hN, hB⟩; rw [HE.out] at hN; have hA_ := below_step (below_alloc (Below.refl _ _) _) hB; obtain ⟨ANM, cNM, rfl⟩ := hN.shape; have HX_ := mkA HFc.out.size; have n1_ := mkA (HPc.out.below hA_); have n2_ := mkA (HFc.out.step hA_); have m_ := mkA (NdA.fr NO.out (keeps_below hA_ (fun g h => h))); clear NO; have NO := m_; clear m_; clear HPc HFc; have HPc := n1_; have HFc := n2_; clear n1_ n2_; have NM := mkA (NdA.weak hN (fun g h => Nat.le_trans (Nat.le_trans HX_.out (by rw [World.size_alloc]; exact Nat.le_succ _)) h)); clear hN hB hA_; have HO := mkA (own_up NO.out.1 NO.out.2))
       | (at_builtin; refine nd_append w.heap.size rfl (.tmp 48) (.tmp 53) rfl u3 _ acc x1 rfl rfl HO.out NM.out.1 HFc.out.size (by have := HXR.out; omega) ?_; intro v6 w6 ho hg hat; have HN6 := mkA (show NdA (from_ w.heap.size) w6 (acc ++ x1) v6 from ⟨own_less ho (Nat.zero_le _), fun b hb => (World.ownsRow.lt ho b hb).1⟩); have HG6 := mkA hg; clear ho hg hat))
      go_roundg k1
      case measure => omega
      case rel => exact ⟨m + 1, acc ++ x1, _, y1, congrArg (Value.int .i64) HNX.out, ⟨.inr ⟨Nat.succ_le_succ (Nat.zero_le _), HY.out⟩⟩, ⟨by rw [← HCat.out, HRS.out, List.append_assoc]⟩, HN6, ⟨HPc.out.grown HO.out (.inr rfl) HG6.out⟩, ⟨fr_grown HFc.out HG6.out (fun b hb => (World.ownsRow.lt HO.out b hb).1)⟩, ⟨by have := HNn.out; omega⟩⟩
end Go.Proofs.YthgcghpcikbnkaaGreatDoor.R
