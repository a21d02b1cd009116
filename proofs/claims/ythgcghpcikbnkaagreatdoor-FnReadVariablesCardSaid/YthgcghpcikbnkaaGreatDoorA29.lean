/- A part of the proof of the theorem of this claim: Typ. No condition of its own. -/
import Derived.Test.YthgcghpcikbnkaaGreatDoorA28
set_option maxHeartbeats 16000000
set_option maxRecDepth 100000
namespace Go.Proofs.YthgcghpcikbnkaaGreatDoor.R
open Go.RowKit Go.Proofs.YthgcghpcikbnkaaGreatDoorW.PrintWords Go.Proofs.YthgcghpcikbnkaaGreatDoorW.PrintLast Go.Proofs.YthgcghpcikbnkaaGreatDoorW.PrintMore
set_option linter.unusedVariables false
set_option linter.unusedSimpArgs false
def TypE (ok : Ok) (w : World) (r : List Row) (v : Value) : Prop := ∃ n, TypA ok w n v r
theorem TypE.shape2 {ok : Ok} {w : World} {r : List Row} {v : Value} (h : TypE ok w r v) : ∃ (te : TypeId) (g : Nat), v = .iface te (ptr g) := by
 obtain ⟨n, h⟩ := h
 cases n with
 | zero => exact h.elim
 | succ n => cases h <;> exact ⟨_, _, rfl⟩
theorem TypE.shape {ok : Ok} {w : World} {r : List Row} {v : Value} (h : TypE ok w r v) : ∃ (te : TypeId) (x : Value), v = .iface te x := by
 obtain ⟨te, g, h⟩ := h.shape2; exact ⟨te, _, h⟩
theorem TypE.fr {ok ok' : Ok} {w w' : World} {r : List Row} {v : Value} (h : TypE ok w r v) (hf : Keeps ok ok' w w') : TypE ok' w' r v := by
 obtain ⟨n, h⟩ := h; exact ⟨n, TypA.fr hf n _ _ h⟩
theorem TypE.lst {ok : Ok} {w : World} {g : Nat} {k : ByteArray} {l t : Value} {r : List Row} (a : At ok w g #[.string k, l, t] 127) (b : LocA ok w l) (c : TypE ok w r t) : TypE ok w (nd 21 e0 e0 e0 0 r) (.iface 125 (ptr g)) := by
 obtain ⟨n, c⟩ := c; exact ⟨n + 1, TypS.lst a b c⟩
theorem TypE.non {ok : Ok} {w : World} {g : Nat} {k : ByteArray} {l t : Value} {r : List Row} (a : At ok w g #[.string k, l, t] 129) (b : LocA ok w l) (c : TypE ok w r t) : TypE ok w (nd 22 e0 e0 e0 0 r) (.iface 128 (ptr g)) := by
 obtain ⟨n, c⟩ := c; exact ⟨n + 1, TypS.non a b c⟩
theorem TypE.named {ok : Ok} {w : World} {p : Value} {v : ByteArray} (h : NamedA ok w p v) : TypE ok w (nd 20 v e0 e0 0 []) (.iface 122 p) := by
 obtain ⟨g, k, l, n, rfl, h1, h2, h3⟩ := h; exact ⟨1, TypS.named (X := TypA ok w 0) h1 h2 h3⟩
theorem NamedA.ptr {ok : Ok} {w : World} {p : Value} {v : ByteArray} (h : NamedA ok w p v) : ∃ g, p = R.ptr g := by obtain ⟨g, _, _, _, h, _⟩ := h; exact ⟨g, h⟩
def TypSpec (C : Cx) (f : Nat) : Prop := ∀ (w : World) (t : Tk) (r : List Tk), PS C w t r → pType f (t :: r) ≠ .out → Calls Tryz.prog 83 #[ptr C.gp] w (Got C w (pType f (t :: r)) TypE)
theorem typ_list {C : Cx} {f : Nat} (hT : TypSpec C f) {w : World} {t : Tk} {r : List Tk} (h : PS C w t r) (hk : t.k = 10) (hne : pType (f + 1) (t :: r) ≠ .out) : Calls Tryz.prog 83 #[ptr C.gp] w (Got C w (pType (f + 1) (t :: r)) TypE) := by
 have HP := mkA h
 have OK := mkA h.ok
 have LOW := mkA h.lo
 have HB := mkA (Fr.refl C.gp C.gc w)
 have M1 := mkA True.intro
 have M2 := mkA True.intro
 have M3 := mkA True.intro
 have M4 := mkA True.intro
 obtain ⟨c1, c5, c6, c7, c8⟩ := h.cells
 have HTK := mkA (show t.k ≠ 1 from by omega)
 clear h
 have HT := mkA hT
 have q0 := kb hk
 clear hT
 rw [show pType (f + 1) (t :: r) = (adv (t :: r)).bind fun r => (pType f r).bind fun x => if R.hk x.2 = 11 then (adv x.2).bind fun r => bang (nd 21 e0 e0 e0 0 x.1) r else .out from by
  show (if R.hk (t :: r) = 10 then _ else _) = _
  rw [if_pos (by exact hk)]] at hne ⊢
 clear hk
 cases r with
 | nil =>
   rw [adv_nil HTK.out]
   simp only [O.bind_bad]
   clear hne
   go_enter Tryz.func83, Tryz.ntmps83
   go_upto_region 2 with (first
    | ((with_reducible refine gate_dst (N := 4) rfl ?_); refine box_event ?hg (N := 4) ?hd (cs := #[.int .i64 0, .int .i64 0, .int .i64 0, .string ⟨#[]⟩]) (t := 63) ?hr ?_; (case hd => rfl); (case hg => rfl); (case hr => first | (go_simp; done) | (go_simp; rfl)); intro gt hg w2 hbox hb; obtain ⟨n0_, GT, GT2, n1_, BT, NP, tz0, tz1, tz2, tz3, tf0, tf1, tf2, tf3⟩ := tkb OK.out HB.out HP.out hg hbox hb; clear HB hb hbox hg c1 c5 c6 c7 c8; have HB := n0_; have HP2 := n1_; clear n0_ n1_))
   obtain ⟨w3, hw3, n0_, n1_, n2_, sx0, sx1, sx2, sx3⟩ := tk3 HB.out GT.out BT.out HP2.out GT2.out
   rw [← hw3]
   clear HB BT HP2 hw3 tz0 tz1 tz2 tz3 tf0 tf1 tf2 tf3
   have HB := n0_; have BT := n1_; have HP2 := n2_
   clear n0_ n1_ n2_
   have HQ := HP2
   clear HP2
   have sz0 : w3.cell? ⟨gt, 0, none⟩ = some (.int .i64 t.k) := (blk_cell BT.out 0).trans rfl
   have sz1 : w3.cell? ⟨gt, 1, none⟩ = some (.int .i64 t.a) := (blk_cell BT.out 1).trans rfl
   go_wp2_with (first
    | (go_at_call 100; clear M1; have c_ := advance_walk HQ.out HTK.out; (with_reducible refine c_.mono ?_); rintro e w4 ⟨hF, hP, te, x, rfl⟩; have HB9 := mkA (HB.out.trans hF); have HP9 := mkA hP; clear hF hP))
   go_ret2
   exact ⟨HB9.out, HP9.out, _, te, x, rfl⟩
 | cons u1 r1 =>
   rw [adv_cons HTK.out] at hne ⊢
   simp only [O.bind_ok] at hne ⊢
   cases e_ : pType f (u1 :: r1) with
   | out => rw [e_] at hne; exact absurd rfl hne
   | bad =>
     simp only [O.bind_bad]
     have E1 := mkA e_
     clear hne e_
     go_enter Tryz.func83, Tryz.ntmps83
     go_upto_region 2 with (first
      | ((with_reducible refine gate_dst (N := 4) rfl ?_); refine box_event ?hg (N := 4) ?hd (cs := #[.int .i64 0, .int .i64 0, .int .i64 0, .string ⟨#[]⟩]) (t := 63) ?hr ?_; (case hd => rfl); (case hg => rfl); (case hr => first | (go_simp; done) | (go_simp; rfl)); intro gt hg w2 hbox hb; obtain ⟨n0_, GT, GT2, n1_, BT, NP, tz0, tz1, tz2, tz3, tf0, tf1, tf2, tf3⟩ := tkb OK.out HB.out HP.out hg hbox hb; clear HB hb hbox hg c1 c5 c6 c7 c8; have HB := n0_; have HP2 := n1_; clear n0_ n1_))
     obtain ⟨w3, hw3, n0_, n1_, n2_, sx0, sx1, sx2, sx3⟩ := tk3 HB.out GT.out BT.out HP2.out GT2.out
     rw [← hw3]
     clear HB BT HP2 hw3 tz0 tz1 tz2 tz3 tf0 tf1 tf2 tf3
     have HB := n0_; have BT := n1_; have HP2 := n2_
     clear n0_ n1_ n2_
     have HQ := HP2
     clear HP2
     have sz0 : w3.cell? ⟨gt, 0, none⟩ = some (.int .i64 t.k) := (blk_cell BT.out 0).trans rfl
     have sz1 : w3.cell? ⟨gt, 1, none⟩ = some (.int .i64 t.a) := (blk_cell BT.out 1).trans rfl
     go_wp2_with (first
      | (go_at_call 100; clear M1; have c_ := advance_walk HQ.out HTK.out; (with_reducible refine c_.mono ?_); rintro e w4 ⟨hF, hP, rfl⟩; have n0_ := mkA (HB.out.trans hF); have n1_ := mkA (hF.blk BT.out NP.out.1 NP.out.2); have n2_ := mkA hP; (try (have n3_ := mkA (N.out.fr (PS.keeps OK.out hF LOW.out (Nat.le_refl _))); clear N; have N := n3_; clear n3_)); clear HB BT HQ sz1; have HB := n0_; have BT := n1_; have HQ := n2_; clear n0_ n1_ n2_ hF hP; have sz1 : w4.cell? ⟨gt, 1, none⟩ = some (.int .i64 t.a) := (blk_cell BT.out 1).trans rfl)
      | (go_at_call 83; have c_ := HT.out _ _ _ HQ.out (by rw [E1.out]; exact fun e => by cases e); rw [E1.out] at c_; (with_reducible refine c_.mono ?_); rintro e w5 ⟨hF, hP, v_, te, x, rfl⟩; have HB9 := mkA (HB.out.trans hF); have HP9 := mkA hP; clear hF hP))
     go_ret2
     exact ⟨HB9.out, HP9.out, _, te, x, rfl⟩
   | ok a_ =>
     obtain ⟨rows, l2⟩ := a_
     rw [e_] at hne
     simp only [O.bind_ok] at hne ⊢
     cases l2 with
     | nil => rw [if_neg (by decide)] at hne; exact absurd rfl hne
     | cons u2 r2 =>
       by_cases h11 : u2.k = 11
       ·rw [if_pos (by exact h11)] at hne ⊢
        have H2 := mkA (show u2.k ≠ 1 from by omega)
        have E1 := mkA e_
        clear e_ h11 hne
        cases r2 with
        | nil =>
          rw [adv_nil H2.out]
          simp only [O.bind_bad]
          go_enter Tryz.func83, Tryz.ntmps83
          go_upto_region 2 with (first
           | ((with_reducible refine gate_dst (N := 4) rfl ?_); refine box_event ?hg (N := 4) ?hd (cs := #[.int .i64 0, .int .i64 0, .int .i64 0, .string ⟨#[]⟩]) (t := 63) ?hr ?_; (case hd => rfl); (case hg => rfl); (case hr => first | (go_simp; done) | (go_simp; rfl)); intro gt hg w2 hbox hb; obtain ⟨n0_, GT, GT2, n1_, BT, NP, tz0, tz1, tz2, tz3, tf0, tf1, tf2, tf3⟩ := tkb OK.out HB.out HP.out hg hbox hb; clear HB hb hbox hg c1 c5 c6 c7 c8; have HB := n0_; have HP2 := n1_; clear n0_ n1_))
          obtain ⟨w3, hw3, n0_, n1_, n2_, sx0, sx1, sx2, sx3⟩ := tk3 HB.out GT.out BT.out HP2.out GT2.out
          rw [← hw3]
          clear HB BT HP2 hw3 tz0 tz1 tz2 tz3 tf0 tf1 tf2 tf3
          have HB := n0_; have BT := n1_; have HP2 := n2_
          clear n0_ n1_ n2_
          have HQ := HP2
          clear HP2
          have sz0 : w3.cell? ⟨gt, 0, none⟩ = some (.int .i64 t.k) := (blk_cell BT.out 0).trans rfl
          have sz1 : w3.cell? ⟨gt, 1, none⟩ = some (.int .i64 t.a) := (blk_cell BT.out 1).trans rfl
          go_wp2_with (first
           | (go_at_call 100; clear M1; have c_ := advance_walk HQ.out HTK.out; (with_reducible refine c_.mono ?_); rintro e w4 ⟨hF, hP, rfl⟩; have n0_ := mkA (HB.out.trans hF); have n1_ := mkA (hF.blk BT.out NP.out.1 NP.out.2); have n2_ := mkA hP; (try (have n3_ := mkA (N.out.fr (PS.keeps OK.out hF LOW.out (Nat.le_refl _))); clear N; have N := n3_; clear n3_)); clear HB BT HQ sz1; have HB := n0_; have BT := n1_; have HQ := n2_; clear n0_ n1_ n2_ hF hP; have sz1 : w4.cell? ⟨gt, 1, none⟩ = some (.int .i64 t.a) := (blk_cell BT.out 1).trans rfl)
           | (go_at_call 83; have c_ := HT.out _ _ _ HQ.out (by rw [E1.out]; exact fun e => by cases e); rw [E1.out] at c_; (with_reducible refine c_.mono ?_); rintro e w5 ⟨hF, v5, u5, r5, hl_, hP, hN, rfl⟩; injection hl_ with e1 e2; subst e1 e2; obtain ⟨tx, xx, rfl⟩ := hN.shape; have HS_ := mkA HB.out.size; have n0_ := mkA (HB.out.trans hF); have n1_ := mkA (hF.blk BT.out NP.out.1 NP.out.2); have n2_ := mkA hP; (try (have n3_ := mkA (N.out.fr (PS.keeps OK.out hF LOW.out (Nat.le_refl _))); clear N; have N := n3_; clear n3_)); clear HB BT HQ sz1; have HB := n0_; have BT := n1_; have HQ := n2_; clear n0_ n1_ n2_ hF hP; have N := mkA (hN.fr (keeps_weak HS_.out)); clear HS_ hN; have sz1 : w5.cell? ⟨gt, 1, none⟩ = some (.int .i64 t.a) := (blk_cell BT.out 1).trans rfl)
           | (go_at_call 100; clear M2; have c_ := advance_walk HQ.out H2.out; (with_reducible refine c_.mono ?_); rintro e w6 ⟨hF, hP, te, x, rfl⟩; have HB9 := mkA (HB.out.trans hF); have HP9 := mkA hP; clear hF hP))
          go_ret2
          exact ⟨HB9.out, HP9.out, _, te, x, rfl⟩
        | cons u3 r3 =>
          rw [adv_cons H2.out]
          simp only [O.bind_ok]
          by_cases k2 : u3.k = 2
          ·have HK2 := mkA (kb k2)
           have HT2 := mkA (show u3.k ≠ 1 from by omega)
           cases r3 with
           | nil =>
             rw [show bang (nd 21 e0 e0 e0 0 rows) [u3] = .bad by unfold bang; rw [if_pos (by exact k2), adv_nil HT2.out]; rfl]
             clear k2
             go_enter Tryz.func83, Tryz.ntmps83
             go_upto_region 2 with (first
              | ((with_reducible refine gate_dst (N := 4) rfl ?_); refine box_event ?hg (N := 4) ?hd (cs := #[.int .i64 0, .int .i64 0, .int .i64 0, .string ⟨#[]⟩]) (t := 63) ?hr ?_; (case hd => rfl); (case hg => rfl); (case hr => first | (go_simp; done) | (go_simp; rfl)); intro gt hg w2 hbox hb; obtain ⟨n0_, GT, GT2, n1_, BT, NP, tz0, tz1, tz2, tz3, tf0, tf1, tf2, tf3⟩ := tkb OK.out HB.out HP.out hg hbox hb; clear HB hb hbox hg c1 c5 c6 c7 c8; have HB := n0_; have HP2 := n1_; clear n0_ n1_))
             obtain ⟨w3, hw3, n0_, n1_, n2_, sx0, sx1, sx2, sx3⟩ := tk3 HB.out GT.out BT.out HP2.out GT2.out
             rw [← hw3]
             clear HB BT HP2 hw3 tz0 tz1 tz2 tz3 tf0 tf1 tf2 tf3
             have HB := n0_; have BT := n1_; have HP2 := n2_
             clear n0_ n1_ n2_
             have HQ := HP2
             clear HP2
             have sz0 : w3.cell? ⟨gt, 0, none⟩ = some (.int .i64 t.k) := (blk_cell BT.out 0).trans rfl
             have sz1 : w3.cell? ⟨gt, 1, none⟩ = some (.int .i64 t.a) := (blk_cell BT.out 1).trans rfl
             go_wp2_with (first
              | (go_at_call 100; clear M1; have c_ := advance_walk HQ.out HTK.out; (with_reducible refine c_.mono ?_); rintro e w4 ⟨hF, hP, rfl⟩; have n0_ := mkA (HB.out.trans hF); have n1_ := mkA (hF.blk BT.out NP.out.1 NP.out.2); have n2_ := mkA hP; (try (have n3_ := mkA (N.out.fr (PS.keeps OK.out hF LOW.out (Nat.le_refl _))); clear N; have N := n3_; clear n3_)); clear HB BT HQ sz1; have HB := n0_; have BT := n1_; have HQ := n2_; clear n0_ n1_ n2_ hF hP; have sz1 : w4.cell? ⟨gt, 1, none⟩ = some (.int .i64 t.a) := (blk_cell BT.out 1).trans rfl)
              | (go_at_call 83; have c_ := HT.out _ _ _ HQ.out (by rw [E1.out]; exact fun e => by cases e); rw [E1.out] at c_; (with_reducible refine c_.mono ?_); rintro e w5 ⟨hF, v5, u5, r5, hl_, hP, hN, rfl⟩; injection hl_ with e1 e2; subst e1 e2; obtain ⟨tx, xx, rfl⟩ := hN.shape; have HS_ := mkA HB.out.size; have n0_ := mkA (HB.out.trans hF); have n1_ := mkA (hF.blk BT.out NP.out.1 NP.out.2); have n2_ := mkA hP; (try (have n3_ := mkA (N.out.fr (PS.keeps OK.out hF LOW.out (Nat.le_refl _))); clear N; have N := n3_; clear n3_)); clear HB BT HQ sz1; have HB := n0_; have BT := n1_; have HQ := n2_; clear n0_ n1_ n2_ hF hP; have N := mkA (hN.fr (keeps_weak HS_.out)); clear HS_ hN; have sz1 : w5.cell? ⟨gt, 1, none⟩ = some (.int .i64 t.a) := (blk_cell BT.out 1).trans rfl)
              | (go_at_call 100; clear M2; have c_ := advance_walk HQ.out H2.out; (with_reducible refine c_.mono ?_); rintro e w6 ⟨hF, hP, rfl⟩; have n0_ := mkA (HB.out.trans hF); have n1_ := mkA (hF.blk BT.out NP.out.1 NP.out.2); have n2_ := mkA hP; (try (have n3_ := mkA (N.out.fr (PS.keeps OK.out hF LOW.out (Nat.le_refl _))); clear N; have N := n3_; clear n3_)); clear HB BT HQ sz1; have HB := n0_; have BT := n1_; have HQ := n2_; clear n0_ n1_ n2_ hF hP; have sz1 : w6.cell? ⟨gt, 1, none⟩ = some (.int .i64 t.a) := (blk_cell BT.out 1).trans rfl)
              | (go_at_call 59; clear M3; (with_reducible refine (loc_ps HQ.out _).mono ?_); rintro e wl ⟨⟨gl, rfl, hgl⟩, hB⟩; have HL := mkA (hgl.fr (keeps_weak HB.out.size)); clear hgl; have n0_ := mkA (HB.out.step hB); have n1_ := mkA (blk_below BT.out hB); have n2_ := mkA (HQ.out.below hB); (try (have n3_ := mkA (N.out.fr (keeps_below hB (fun g hg => hg))); clear N; have N := n3_; clear n3_)); clear HB BT HQ sz1; have HB := n0_; have BT := n1_; have HQ := n2_; clear n0_ n1_ n2_ hB; have sz1 : wl.cell? ⟨gt, 1, none⟩ = some (.int .i64 t.a) := (blk_cell BT.out 1).trans rfl)
              | (go_at_call 104; (with_reducible refine (newList (B := wl.heap.size) (heap_alloc_new wl _) (Nat.le_refl _) (below_alloc (Below.refl wl.heap.size wl) _).size).mono ?_); rintro e w7 ⟨⟨g7, k7, rfl, q1, h91⟩, q4⟩; have hB := (below_alloc (Below.refl wl.heap.size wl) _).trans q4; have h90 := Nat.le_trans HB.out.size q1; have hgl := HL.out.fr (keeps_below hB (fun g hg => hg)); clear HL q1 q4; have n0_ := mkA (HB.out.step hB); have n1_ := mkA (blk_below BT.out hB); have n2_ := mkA (HQ.out.below hB); (try (have n3_ := mkA (N.out.fr (keeps_below hB (fun g hg => hg))); clear N; have N := n3_; clear n3_)); clear HB BT HQ sz1; have HB := n0_; have BT := n1_; have HQ := n2_; clear n0_ n1_ n2_ hB; have n3_ := mkA (TypE.lst ⟨h90, h91⟩ hgl N.out); clear N h90 h91 hgl; have N := n3_; clear n3_; have sz1 : w7.cell? ⟨gt, 1, none⟩ = some (.int .i64 t.a) := (blk_cell BT.out 1).trans rfl)
              | (go_at_call 80; have c_ := skip_yes HQ.out 2 HK2.out HT2.out; (with_reducible refine c_.mono ?_); rintro e w8 ⟨hF, hP, te, x, rfl⟩; have HB9 := mkA (HB.out.trans hF); have HP9 := mkA hP; clear hF hP))
             go_ret2
             exact ⟨HB9.out, HP9.out, _, te, x, rfl⟩
           | cons u9 r9 =>
             rw [show bang (nd 21 e0 e0 e0 0 rows) (u3 :: u9 :: r9) = .ok (nd 22 e0 e0 e0 0 (nd 21 e0 e0 e0 0 rows), u9 :: r9) by unfold bang; rw [if_pos (by exact k2), adv_cons HT2.out]; rfl]
             clear k2
             go_enter Tryz.func83, Tryz.ntmps83
             go_upto_region 2 with (first
              | ((with_reducible refine gate_dst (N := 4) rfl ?_); refine box_event ?hg (N := 4) ?hd (cs := #[.int .i64 0, .int .i64 0, .int .i64 0, .string ⟨#[]⟩]) (t := 63) ?hr ?_; (case hd => rfl); (case hg => rfl); (case hr => first | (go_simp; done) | (go_simp; rfl)); intro gt hg w2 hbox hb; obtain ⟨n0_, GT, GT2, n1_, BT, NP, tz0, tz1, tz2, tz3, tf0, tf1, tf2, tf3⟩ := tkb OK.out HB.out HP.out hg hbox hb; clear HB hb hbox hg c1 c5 c6 c7 c8; have HB := n0_; have HP2 := n1_; clear n0_ n1_))
             obtain ⟨w3, hw3, n0_, n1_, n2_, sx0, sx1, sx2, sx3⟩ := tk3 HB.out GT.out BT.out HP2.out GT2.out
             rw [← hw3]
             clear HB BT HP2 hw3 tz0 tz1 tz2 tz3 tf0 tf1 tf2 tf3
             have HB := n0_; have BT := n1_; have HP2 := n2_
             clear n0_ n1_ n2_
             have HQ := HP2
             clear HP2
             have sz0 : w3.cell? ⟨gt, 0, none⟩ = some (.int .i64 t.k) := (blk_cell BT.out 0).trans rfl
             have sz1 : w3.cell? ⟨gt, 1, none⟩ = some (.int .i64 t.a) := (blk_cell BT.out 1).trans rfl
             go_wp2_with (first
              | (go_at_call 100; clear M1; have c_ := advance_walk HQ.out HTK.out; (with_reducible refine c_.mono ?_); rintro e w4 ⟨hF, hP, rfl⟩; have n0_ := mkA (HB.out.trans hF); have n1_ := mkA (hF.blk BT.out NP.out.1 NP.out.2); have n2_ := mkA hP; (try (have n3_ := mkA (N.out.fr (PS.keeps OK.out hF LOW.out (Nat.le_refl _))); clear N; have N := n3_; clear n3_)); clear HB BT HQ sz1; have HB := n0_; have BT := n1_; have HQ := n2_; clear n0_ n1_ n2_ hF hP; have sz1 : w4.cell? ⟨gt, 1, none⟩ = some (.int .i64 t.a) := (blk_cell BT.out 1).trans rfl)
              | (go_at_call 83; have c_ := HT.out _ _ _ HQ.out (by rw [E1.out]; exact fun e => by cases e); rw [E1.out] at c_; (with_reducible refine c_.mono ?_); rintro e w5 ⟨hF, v5, u5, r5, hl_, hP, hN, rfl⟩; injection hl_ with e1 e2; subst e1 e2; obtain ⟨tx, xx, rfl⟩ := hN.shape; have HS_ := mkA HB.out.size; have n0_ := mkA (HB.out.trans hF); have n1_ := mkA (hF.blk BT.out NP.out.1 NP.out.2); have n2_ := mkA hP; (try (have n3_ := mkA (N.out.fr (PS.keeps OK.out hF LOW.out (Nat.le_refl _))); clear N; have N := n3_; clear n3_)); clear HB BT HQ sz1; have HB := n0_; have BT := n1_; have HQ := n2_; clear n0_ n1_ n2_ hF hP; have N := mkA (hN.fr (keeps_weak HS_.out)); clear HS_ hN; have sz1 : w5.cell? ⟨gt, 1, none⟩ = some (.int .i64 t.a) := (blk_cell BT.out 1).trans rfl)
              | (go_at_call 100; clear M2; have c_ := advance_walk HQ.out H2.out; (with_reducible refine c_.mono ?_); rintro e w6 ⟨hF, hP, rfl⟩; have n0_ := mkA (HB.out.trans hF); have n1_ := mkA (hF.blk BT.out NP.out.1 NP.out.2); have n2_ := mkA hP; (try (have n3_ := mkA (N.out.fr (PS.keeps OK.out hF LOW.out (Nat.le_refl _))); clear N; have N := n3_; clear n3_)); clear HB BT HQ sz1; have HB := n0_; have BT := n1_; have HQ := n2_; clear n0_ n1_ n2_ hF hP; have sz1 : w6.cell? ⟨gt, 1, none⟩ = some (.int .i64 t.a) := (blk_cell BT.out 1).trans rfl)
              | (go_at_call 59; clear M3; (with_reducible refine (loc_ps HQ.out _).mono ?_); rintro e wl ⟨⟨gl, rfl, hgl⟩, hB⟩; have HL := mkA (hgl.fr (keeps_weak HB.out.size)); clear hgl; have n0_ := mkA (HB.out.step hB); have n1_ := mkA (blk_below BT.out hB); have n2_ := mkA (HQ.out.below hB); (try (have n3_ := mkA (N.out.fr (keeps_below hB (fun g hg => hg))); clear N; have N := n3_; clear n3_)); clear HB BT HQ sz1; have HB := n0_; have BT := n1_; have HQ := n2_; clear n0_ n1_ n2_ hB; have sz1 : wl.cell? ⟨gt, 1, none⟩ = some (.int .i64 t.a) := (blk_cell BT.out 1).trans rfl)
              | (go_at_call 104; (with_reducible refine (newList (B := wl.heap.size) (heap_alloc_new wl _) (Nat.le_refl _) (below_alloc (Below.refl wl.heap.size wl) _).size).mono ?_); rintro e w7 ⟨⟨g7, k7, rfl, q1, h91⟩, q4⟩; have hB := (below_alloc (Below.refl wl.heap.size wl) _).trans q4; have h90 := Nat.le_trans HB.out.size q1; have hgl := HL.out.fr (keeps_below hB (fun g hg => hg)); clear HL q1 q4; have n0_ := mkA (HB.out.step hB); have n1_ := mkA (blk_below BT.out hB); have n2_ := mkA (HQ.out.below hB); (try (have n3_ := mkA (N.out.fr (keeps_below hB (fun g hg => hg))); clear N; have N := n3_; clear n3_)); clear HB BT HQ sz1; have HB := n0_; have BT := n1_; have HQ := n2_; clear n0_ n1_ n2_ hB; have n3_ := mkA (TypE.lst ⟨h90, h91⟩ hgl N.out); clear N h90 h91 hgl; have N := n3_; clear n3_; have sz1 : w7.cell? ⟨gt, 1, none⟩ = some (.int .i64 t.a) := (blk_cell BT.out 1).trans rfl)
              | (go_at_call 80; have c_ := skip_yes HQ.out 2 HK2.out HT2.out; (with_reducible refine c_.mono ?_); rintro e w8 ⟨hF, hP, rfl⟩; have n0_ := mkA (HB.out.trans hF); have n1_ := mkA (hF.blk BT.out NP.out.1 NP.out.2); have n2_ := mkA hP; (try (have n3_ := mkA (N.out.fr (PS.keeps OK.out hF LOW.out (Nat.le_refl _))); clear N; have N := n3_; clear n3_)); clear HB BT HQ sz1; have HB := n0_; have BT := n1_; have HQ := n2_; clear n0_ n1_ n2_ hF hP; have sz1 : w8.cell? ⟨gt, 1, none⟩ = some (.int .i64 t.a) := (blk_cell BT.out 1).trans rfl)
              | (go_at_call 59; clear M4; (with_reducible refine (loc_ps HQ.out _).mono ?_); rintro e wm ⟨⟨gl, rfl, hgl⟩, hB⟩; have HL := mkA (hgl.fr (keeps_weak HB.out.size)); clear hgl; have n0_ := mkA (HB.out.step hB); have n1_ := mkA (blk_below BT.out hB); have n2_ := mkA (HQ.out.below hB); (try (have n3_ := mkA (N.out.fr (keeps_below hB (fun g hg => hg))); clear N; have N := n3_; clear n3_)); clear HB BT HQ sz1; have HB := n0_; have BT := n1_; have HQ := n2_; clear n0_ n1_ n2_ hB; have sz1 : wm.cell? ⟨gt, 1, none⟩ = some (.int .i64 t.a) := (blk_cell BT.out 1).trans rfl)
              | (go_at_call 106; (with_reducible refine (newNonNull (B := wm.heap.size) (heap_alloc_new wm _) (Nat.le_refl _) (below_alloc (Below.refl wm.heap.size wm) _).size).mono ?_); rintro e w9 ⟨⟨g7, k7, rfl, q1, h91⟩, q4⟩; have hB := (below_alloc (Below.refl wm.heap.size wm) _).trans q4; have h90 := Nat.le_trans HB.out.size q1; have hgl := HL.out.fr (keeps_below hB (fun g hg => hg)); clear HL q1 q4; have n0_ := mkA (HB.out.step hB); have n1_ := mkA (blk_below BT.out hB); have n2_ := mkA (HQ.out.below hB); (try (have n3_ := mkA (N.out.fr (keeps_below hB (fun g hg => hg))); clear N; have N := n3_; clear n3_)); clear HB BT HQ sz1; have HB := n0_; have BT := n1_; have HQ := n2_; clear n0_ n1_ n2_ hB; have n3_ := mkA (TypE.non ⟨h90, h91⟩ hgl N.out); clear N h90 h91 hgl; have N := n3_; clear n3_; have sz1 : w9.cell? ⟨gt, 1, none⟩ = some (.int .i64 t.a) := (blk_cell BT.out 1).trans rfl))
             go_ret2
             exact ⟨HB.out, _, u9, r9, rfl, HQ.out, N.out, rfl⟩
          ·have HK2 := mkA (kn k2)
           rw [show bang (nd 21 e0 e0 e0 0 rows) (u3 :: r3) = .ok (nd 21 e0 e0 e0 0 rows, u3 :: r3) by unfold bang; rw [if_neg (by exact k2)]]
           clear k2
           go_enter Tryz.func83, Tryz.ntmps83
           go_upto_region 2 with (first
            | ((with_reducible refine gate_dst (N := 4) rfl ?_); refine box_event ?hg (N := 4) ?hd (cs := #[.int .i64 0, .int .i64 0, .int .i64 0, .string ⟨#[]⟩]) (t := 63) ?hr ?_; (case hd => rfl); (case hg => rfl); (case hr => first | (go_simp; done) | (go_simp; rfl)); intro gt hg w2 hbox hb; obtain ⟨n0_, GT, GT2, n1_, BT, NP, tz0, tz1, tz2, tz3, tf0, tf1, tf2, tf3⟩ := tkb OK.out HB.out HP.out hg hbox hb; clear HB hb hbox hg c1 c5 c6 c7 c8; have HB := n0_; have HP2 := n1_; clear n0_ n1_))
           obtain ⟨w3, hw3, n0_, n1_, n2_, sx0, sx1, sx2, sx3⟩ := tk3 HB.out GT.out BT.out HP2.out GT2.out
           rw [← hw3]
           clear HB BT HP2 hw3 tz0 tz1 tz2 tz3 tf0 tf1 tf2 tf3
           have HB := n0_; have BT := n1_; have HP2 := n2_
           clear n0_ n1_ n2_
           have HQ := HP2
           clear HP2
           have sz0 : w3.cell? ⟨gt, 0, none⟩ = some (.int .i64 t.k) := (blk_cell BT.out 0).trans rfl
           have sz1 : w3.cell? ⟨gt, 1, none⟩ = some (.int .i64 t.a) := (blk_cell BT.out 1).trans rfl
           go_wp2_with (first
            | (go_at_call 100; clear M1; have c_ := advance_walk HQ.out HTK.out; (with_reducible refine c_.mono ?_); rintro e w4 ⟨hF, hP, rfl⟩; have n0_ := mkA (HB.out.trans hF); have n1_ := mkA (hF.blk BT.out NP.out.1 NP.out.2); have n2_ := mkA hP; (try (have n3_ := mkA (N.out.fr (PS.keeps OK.out hF LOW.out (Nat.le_refl _))); clear N; have N := n3_; clear n3_)); clear HB BT HQ sz1; have HB := n0_; have BT := n1_; have HQ := n2_; clear n0_ n1_ n2_ hF hP; have sz1 : w4.cell? ⟨gt, 1, none⟩ = some (.int .i64 t.a) := (blk_cell BT.out 1).trans rfl)
            | (go_at_call 83; have c_ := HT.out _ _ _ HQ.out (by rw [E1.out]; exact fun e => by cases e); rw [E1.out] at c_; (with_reducible refine c_.mono ?_); rintro e w5 ⟨hF, v5, u5, r5, hl_, hP, hN, rfl⟩; injection hl_ with e1 e2; subst e1 e2; obtain ⟨tx, xx, rfl⟩ := hN.shape; have HS_ := mkA HB.out.size; have n0_ := mkA (HB.out.trans hF); have n1_ := mkA (hF.blk BT.out NP.out.1 NP.out.2); have n2_ := mkA hP; (try (have n3_ := mkA (N.out.fr (PS.keeps OK.out hF LOW.out (Nat.le_refl _))); clear N; have N := n3_; clear n3_)); clear HB BT HQ sz1; have HB := n0_; have BT := n1_; have HQ := n2_; clear n0_ n1_ n2_ hF hP; have N := mkA (hN.fr (keeps_weak HS_.out)); clear HS_ hN; have sz1 : w5.cell? ⟨gt, 1, none⟩ = some (.int .i64 t.a) := (blk_cell BT.out 1).trans rfl)
            | (go_at_call 100; clear M2; have c_ := advance_walk HQ.out H2.out; (with_reducible refine c_.mono ?_); rintro e w6 ⟨hF, hP, rfl⟩; have n0_ := mkA (HB.out.trans hF); have n1_ := mkA (hF.blk BT.out NP.out.1 NP.out.2); have n2_ := mkA hP; (try (have n3_ := mkA (N.out.fr (PS.keeps OK.out hF LOW.out (Nat.le_refl _))); clear N; have N := n3_; clear n3_)); clear HB BT HQ sz1; have HB := n0_; have BT := n1_; have HQ := n2_; clear n0_ n1_ n2_ hF hP; have sz1 : w6.cell? ⟨gt, 1, none⟩ = some (.int .i64 t.a) := (blk_cell BT.out 1).trans rfl)
            | (go_at_call 59; clear M3; (with_reducible refine (loc_ps HQ.out _).mono ?_); rintro e wl ⟨⟨gl, rfl, hgl⟩, hB⟩; have HL := mkA (hgl.fr (keeps_weak HB.out.size)); clear hgl; have n0_ := mkA (HB.out.step hB); have n1_ := mkA (blk_below BT.out hB); have n2_ := mkA (HQ.out.below hB); (try (have n3_ := mkA (N.out.fr (keeps_below hB (fun g hg => hg))); clear N; have N := n3_; clear n3_)); clear HB BT HQ sz1; have HB := n0_; have BT := n1_; have HQ := n2_; clear n0_ n1_ n2_ hB; have sz1 : wl.cell? ⟨gt, 1, none⟩ = some (.int .i64 t.a) := (blk_cell BT.out 1).trans rfl)
            | (go_at_call 104; (with_reducible refine (newList (B := wl.heap.size) (heap_alloc_new wl _) (Nat.le_refl _) (below_alloc (Below.refl wl.heap.size wl) _).size).mono ?_); rintro e w7 ⟨⟨g7, k7, rfl, q1, h91⟩, q4⟩; have hB := (below_alloc (Below.refl wl.heap.size wl) _).trans q4; have h90 := Nat.le_trans HB.out.size q1; have hgl := HL.out.fr (keeps_below hB (fun g hg => hg)); clear HL q1 q4; have n0_ := mkA (HB.out.step hB); have n1_ := mkA (blk_below BT.out hB); have n2_ := mkA (HQ.out.below hB); (try (have n3_ := mkA (N.out.fr (keeps_below hB (fun g hg => hg))); clear N; have N := n3_; clear n3_)); clear HB BT HQ sz1; have HB := n0_; have BT := n1_; have HQ := n2_; clear n0_ n1_ n2_ hB; have n3_ := mkA (TypE.lst ⟨h90, h91⟩ hgl N.out); clear N h90 h91 hgl; have N := n3_; clear n3_; have sz1 : w7.cell? ⟨gt, 1, none⟩ = some (.int .i64 t.a) := (blk_cell BT.out 1).trans rfl)
            | (go_at_call 80; (with_reducible refine (skip_no HQ.out 2 HK2.out).mono ?_); rintro e w8 ⟨rfl, rfl⟩))
           go_ret2
           exact ⟨HB.out, _, u3, r3, rfl, HQ.out, N.out, rfl⟩
       ·rw [if_neg (by exact h11)] at hne; exact absurd rfl hne
theorem typ_named {C : Cx} {f : Nat} {w : World} {t : Tk} {r : List Tk} (h : PS C w t r) (hk : t.k = 15) : Calls Tryz.prog 83 #[ptr C.gp] w (Got C w (pType (f + 1) (t :: r)) TypE) := by
 have HP := mkA h
 have OK := mkA h.ok
 have LOW := mkA h.lo
 have HB := mkA (Fr.refl C.gp C.gc w)
 have M1 := mkA True.intro
 have M2 := mkA True.intro
 have M3 := mkA True.intro
 have M4 := mkA True.intro
 obtain ⟨c1, c5, c6, c7, c8⟩ := h.cells
 have HTK := mkA (show t.k ≠ 1 from by omega)
 clear h
 have q0 : (t.k == 10) = false := kn (by omega)
 have q1 : (t.k == 11) = false := kn (by omega)
 have q2 := kb hk
 rw [show pType (f + 1) (t :: r) = (pName (t :: r)).bind fun n => bang (nd 20 n.1 e0 e0 0 []) n.2 from by
  show (if R.hk (t :: r) = 10 then _ else if R.hk (t :: r) = 15 then _ else _) = _
  rw [if_neg (by show ¬ t.k = 10; omega), if_pos (by exact hk)]]
 clear hk
 have hnm : ((pName (t :: r)).bind fun n => O.ok (n.1, n.2)) = pName (t :: r) := by cases pName (t :: r) <;> rfl
 cases e_ : pName (t :: r) with
 | out => exact absurd e_ (pName_ne _)
 | bad =>
   simp only [O.bind_bad]
   rw [e_] at hnm
   have E1 := mkA (show ((pName (t :: r)).bind fun n => O.ok (n.1, n.2)) = .bad by rw [e_]; rfl)
   clear e_ hnm
   go_enter Tryz.func83, Tryz.ntmps83
   go_upto_region 2 with (first
    | ((with_reducible refine gate_dst (N := 4) rfl ?_); refine box_event ?hg (N := 4) ?hd (cs := #[.int .i64 0, .int .i64 0, .int .i64 0, .string ⟨#[]⟩]) (t := 63) ?hr ?_; (case hd => rfl); (case hg => rfl); (case hr => first | (go_simp; done) | (go_simp; rfl)); intro gt hg w2 hbox hb; obtain ⟨n0_, GT, GT2, n1_, BT, NP, tz0, tz1, tz2, tz3, tf0, tf1, tf2, tf3⟩ := tkb OK.out HB.out HP.out hg hbox hb; clear HB hb hbox hg c1 c5 c6 c7 c8; have HB := n0_; have HP2 := n1_; clear n0_ n1_))
   obtain ⟨w3, hw3, n0_, n1_, n2_, sx0, sx1, sx2, sx3⟩ := tk3 HB.out GT.out BT.out HP2.out GT2.out
   rw [← hw3]
   clear HB BT HP2 hw3 tz0 tz1 tz2 tz3 tf0 tf1 tf2 tf3
   have HB := n0_; have BT := n1_; have HP2 := n2_
   clear n0_ n1_ n2_
   have HQ := HP2
   clear HP2
   have sz0 : w3.cell? ⟨gt, 0, none⟩ = some (.int .i64 t.k) := (blk_cell BT.out 0).trans rfl
   have sz1 : w3.cell? ⟨gt, 1, none⟩ = some (.int .i64 t.a) := (blk_cell BT.out 1).trans rfl
   go_wp2_with (first
    | (go_at_call 105; have c_ := parseNamed_walk HQ.out (by rw [E1.out]; exact fun e => by cases e); rw [E1.out] at c_; (with_reducible refine c_.mono ?_); rintro e w5 ⟨hF, hP, v_, te, x, rfl⟩; have HB9 := mkA (HB.out.trans hF); have HP9 := mkA hP; clear hF hP))
   go_ret2
   exact ⟨HB9.out, HP9.out, _, te, x, rfl⟩
 | ok a_ =>
   obtain ⟨nm_, l2⟩ := a_
   simp only [O.bind_ok]
   have E1 := mkA (show ((pName (t :: r)).bind fun n => O.ok (n.1, n.2)) = .ok (nm_, l2) by rw [e_]; rfl)
   clear hnm
   cases l2 with
   | nil =>
     exfalso
     unfold pName at e_
     split at e_
     ·unfold adv at e_
      repeat' split at e_
      all_goals (first | (cases e_; done) | (simp only [O.bind_ok, O.ok.injEq, Prod.mk.injEq] at e_; cases e_.2))
     ·cases e_
   | cons u3 r3 =>
     clear e_
     by_cases k2 : u3.k = 2
     ·have HK2 := mkA (kb k2)
      have HT2 := mkA (show u3.k ≠ 1 from by omega)
      cases r3 with
      | nil =>
        rw [show bang (nd 20 nm_ e0 e0 0 []) [u3] = .bad by unfold bang; rw [if_pos (by exact k2), adv_nil HT2.out]; rfl]
        clear k2
        go_enter Tryz.func83, Tryz.ntmps83
        go_upto_region 2 with (first
         | ((with_reducible refine gate_dst (N := 4) rfl ?_); refine box_event ?hg (N := 4) ?hd (cs := #[.int .i64 0, .int .i64 0, .int .i64 0, .string ⟨#[]⟩]) (t := 63) ?hr ?_; (case hd => rfl); (case hg => rfl); (case hr => first | (go_simp; done) | (go_simp; rfl)); intro gt hg w2 hbox hb; obtain ⟨n0_, GT, GT2, n1_, BT, NP, tz0, tz1, tz2, tz3, tf0, tf1, tf2, tf3⟩ := tkb OK.out HB.out HP.out hg hbox hb; clear HB hb hbox hg c1 c5 c6 c7 c8; have HB := n0_; have HP2 := n1_; clear n0_ n1_))
        obtain ⟨w3, hw3, n0_, n1_, n2_, sx0, sx1, sx2, sx3⟩ := tk3 HB.out GT.out BT.out HP2.out GT2.out
        rw [← hw3]
        clear HB BT HP2 hw3 tz0 tz1 tz2 tz3 tf0 tf1 tf2 tf3
        have HB := n0_; have BT := n1_; have HP2 := n2_
        clear n0_ n1_ n2_
        have HQ := HP2
        clear HP2
        have sz0 : w3.cell? ⟨gt, 0, none⟩ = some (.int .i64 t.k) := (blk_cell BT.out 0).trans rfl
        have sz1 : w3.cell? ⟨gt, 1, none⟩ = some (.int .i64 t.a) := (blk_cell BT.out 1).trans rfl
        go_wp2_with (first
         | (go_at_call 105; have c_ := parseNamed_walk HQ.out (by rw [E1.out]; exact fun e => by cases e); rw [E1.out] at c_; (with_reducible refine c_.mono ?_); rintro e w5 ⟨hF, v5, u5, r5, hl_, hP, hN, rfl⟩; injection hl_ with e1 e2; subst e1 e2; obtain ⟨gn, rfl⟩ := hN.ptr; have HS_ := mkA HB.out.size; have n0_ := mkA (HB.out.trans hF); have n1_ := mkA (hF.blk BT.out NP.out.1 NP.out.2); have n2_ := mkA hP; (try (have n3_ := mkA (N.out.fr (PS.keeps OK.out hF LOW.out (Nat.le_refl _))); clear N; have N := n3_; clear n3_)); clear HB BT HQ sz1; have HB := n0_; have BT := n1_; have HQ := n2_; clear n0_ n1_ n2_ hF hP; have N := mkA (TypE.named (hN.fr (keeps_weak HS_.out))); clear HS_ hN; have sz1 : w5.cell? ⟨gt, 1, none⟩ = some (.int .i64 t.a) := (blk_cell BT.out 1).trans rfl)
         | (go_at_call 80; have c_ := skip_yes HQ.out 2 HK2.out HT2.out; (with_reducible refine c_.mono ?_); rintro e w8 ⟨hF, hP, te, x, rfl⟩; have HB9 := mkA (HB.out.trans hF); have HP9 := mkA hP; clear hF hP))
        go_ret2
        exact ⟨HB9.out, HP9.out, _, te, x, rfl⟩
      | cons u9 r9 =>
        rw [show bang (nd 20 nm_ e0 e0 0 []) (u3 :: u9 :: r9) = .ok (nd 22 e0 e0 e0 0 (nd 20 nm_ e0 e0 0 []), u9 :: r9) by unfold bang; rw [if_pos (by exact k2), adv_cons HT2.out]; rfl]
        clear k2
        go_enter Tryz.func83, Tryz.ntmps83
        go_upto_region 2 with (first
         | ((with_reducible refine gate_dst (N := 4) rfl ?_); refine box_event ?hg (N := 4) ?hd (cs := #[.int .i64 0, .int .i64 0, .int .i64 0, .string ⟨#[]⟩]) (t := 63) ?hr ?_; (case hd => rfl); (case hg => rfl); (case hr => first | (go_simp; done) | (go_simp; rfl)); intro gt hg w2 hbox hb; obtain ⟨n0_, GT, GT2, n1_, BT, NP, tz0, tz1, tz2, tz3, tf0, tf1, tf2, tf3⟩ := tkb OK.out HB.out HP.out hg hbox hb; clear HB hb hbox hg c1 c5 c6 c7 c8; have HB := n0_; have HP2 := n1_; clear n0_ n1_))
        obtain ⟨w3, hw3, n0_, n1_, n2_, sx0, sx1, sx2, sx3⟩ := tk3 HB.out GT.out BT.out HP2.out GT2.out
        rw [← hw3]
        clear HB BT HP2 hw3 tz0 tz1 tz2 tz3 tf0 tf1 tf2 tf3
        have HB := n0_; have BT := n1_; have HP2 := n2_
        clear n0_ n1_ n2_
        have HQ := HP2
        clear HP2
        have sz0 : w3.cell? ⟨gt, 0, none⟩ = some (.int .i64 t.k) := (blk_cell BT.out 0).trans rfl
        have sz1 : w3.cell? ⟨gt, 1, none⟩ = some (.int .i64 t.a) := (blk_cell BT.out 1).trans rfl
        go_wp2_with (first
         | (go_at_call 105; have c_ := parseNamed_walk HQ.out (by rw [E1.out]; exact fun e => by cases e); rw [E1.out] at c_; (with_reducible refine c_.mono ?_); rintro e w5 ⟨hF, v5, u5, r5, hl_, hP, hN, rfl⟩; injection hl_ with e1 e2; subst e1 e2; obtain ⟨gn, rfl⟩ := hN.ptr; have HS_ := mkA HB.out.size; have n0_ := mkA (HB.out.trans hF); have n1_ := mkA (hF.blk BT.out NP.out.1 NP.out.2); have n2_ := mkA hP; (try (have n3_ := mkA (N.out.fr (PS.keeps OK.out hF LOW.out (Nat.le_refl _))); clear N; have N := n3_; clear n3_)); clear HB BT HQ sz1; have HB := n0_; have BT := n1_; have HQ := n2_; clear n0_ n1_ n2_ hF hP; have N := mkA (TypE.named (hN.fr (keeps_weak HS_.out))); clear HS_ hN; have sz1 : w5.cell? ⟨gt, 1, none⟩ = some (.int .i64 t.a) := (blk_cell BT.out 1).trans rfl)
         | (go_at_call 80; have c_ := skip_yes HQ.out 2 HK2.out HT2.out; (with_reducible refine c_.mono ?_); rintro e w8 ⟨hF, hP, rfl⟩; have n0_ := mkA (HB.out.trans hF); have n1_ := mkA (hF.blk BT.out NP.out.1 NP.out.2); have n2_ := mkA hP; (try (have n3_ := mkA (N.out.fr (PS.keeps OK.out hF LOW.out (Nat.le_refl _))); clear N; have N := n3_; clear n3_)); clear HB BT HQ sz1; have HB := n0_; have BT := n1_; have HQ := n2_; clear n0_ n1_ n2_ hF hP; have sz1 : w8.cell? ⟨gt, 1, none⟩ = some (.int .i64 t.a) := (blk_cell BT.out 1).trans rfl)
         | (go_at_call 59; clear M4; (with_reducible refine (loc_ps HQ.out _).mono ?_); rintro e wm ⟨⟨gl, rfl, hgl⟩, hB⟩; have HL := mkA (hgl.fr (keeps_weak HB.out.size)); clear hgl; have n0_ := mkA (HB.out.step hB); have n1_ := mkA (blk_below BT.out hB); have n2_ := mkA (HQ.out.below hB); (try (have n3_ := mkA (N.out.fr (keeps_below hB (fun g hg => hg))); clear N; have N := n3_; clear n3_)); clear HB BT HQ sz1; have HB := n0_; have BT := n1_; have HQ := n2_; clear n0_ n1_ n2_ hB; have sz1 : wm.cell? ⟨gt, 1, none⟩ = some (.int .i64 t.a) := (blk_cell BT.out 1).trans rfl)
         | (go_at_call 106; (with_reducible refine (newNonNull (B := wm.heap.size) (heap_alloc_new wm _) (Nat.le_refl _) (below_alloc (Below.refl wm.heap.size wm) _).size).mono ?_); rintro e w9 ⟨⟨g7, k7, rfl, q1, h91⟩, q4⟩; have hB := (below_alloc (Below.refl wm.heap.size wm) _).trans q4; have h90 := Nat.le_trans HB.out.size q1; have hgl := HL.out.fr (keeps_below hB (fun g hg => hg)); clear HL q1 q4; have n0_ := mkA (HB.out.step hB); have n1_ := mkA (blk_below BT.out hB); have n2_ := mkA (HQ.out.below hB); (try (have n3_ := mkA (N.out.fr (keeps_below hB (fun g hg => hg))); clear N; have N := n3_; clear n3_)); clear HB BT HQ sz1; have HB := n0_; have BT := n1_; have HQ := n2_; clear n0_ n1_ n2_ hB; have n3_ := mkA (TypE.non ⟨h90, h91⟩ hgl N.out); clear N h90 h91 hgl; have N := n3_; clear n3_; have sz1 : w9.cell? ⟨gt, 1, none⟩ = some (.int .i64 t.a) := (blk_cell BT.out 1).trans rfl))
        go_ret2
        exact ⟨HB.out, _, u9, r9, rfl, HQ.out, N.out, rfl⟩
     ·have HK2 := mkA (kn k2)
      rw [show bang (nd 20 nm_ e0 e0 0 []) (u3 :: r3) = .ok (nd 20 nm_ e0 e0 0 [], u3 :: r3) by unfold bang; rw [if_neg (by exact k2)]]
      clear k2
      go_enter Tryz.func83, Tryz.ntmps83
      go_upto_region 2 with (first
       | ((with_reducible refine gate_dst (N := 4) rfl ?_); refine box_event ?hg (N := 4) ?hd (cs := #[.int .i64 0, .int .i64 0, .int .i64 0, .string ⟨#[]⟩]) (t := 63) ?hr ?_; (case hd => rfl); (case hg => rfl); (case hr => first | (go_simp; done) | (go_simp; rfl)); intro gt hg w2 hbox hb; obtain ⟨n0_, GT, GT2, n1_, BT, NP, tz0, tz1, tz2, tz3, tf0, tf1, tf2, tf3⟩ := tkb OK.out HB.out HP.out hg hbox hb; clear HB hb hbox hg c1 c5 c6 c7 c8; have HB := n0_; have HP2 := n1_; clear n0_ n1_))
      obtain ⟨w3, hw3, n0_, n1_, n2_, sx0, sx1, sx2, sx3⟩ := tk3 HB.out GT.out BT.out HP2.out GT2.out
      rw [← hw3]
      clear HB BT HP2 hw3 tz0 tz1 tz2 tz3 tf0 tf1 tf2 tf3
      have HB := n0_; have BT := n1_; have HP2 := n2_
      clear n0_ n1_ n2_
      have HQ := HP2
      clear HP2
      have sz0 : w3.cell? ⟨gt, 0, none⟩ = some (.int .i64 t.k) := (blk_cell BT.out 0).trans rfl
      have sz1 : w3.cell? ⟨gt, 1, none⟩ = some (.int .i64 t.a) := (blk_cell BT.out 1).trans rfl
      go_wp2_with (first
       | (go_at_call 105; have c_ := parseNamed_walk HQ.out (by rw [E1.out]; exact fun e => by cases e); rw [E1.out] at c_; (with_reducible refine c_.mono ?_); rintro e w5 ⟨hF, v5, u5, r5, hl_, hP, hN, rfl⟩; injection hl_ with e1 e2; subst e1 e2; obtain ⟨gn, rfl⟩ := hN.ptr; have HS_ := mkA HB.out.size; have n0_ := mkA (HB.out.trans hF); have n1_ := mkA (hF.blk BT.out NP.out.1 NP.out.2); have n2_ := mkA hP; (try (have n3_ := mkA (N.out.fr (PS.keeps OK.out hF LOW.out (Nat.le_refl _))); clear N; have N := n3_; clear n3_)); clear HB BT HQ sz1; have HB := n0_; have BT := n1_; have HQ := n2_; clear n0_ n1_ n2_ hF hP; have N := mkA (TypE.named (hN.fr (keeps_weak HS_.out))); clear HS_ hN; have sz1 : w5.cell? ⟨gt, 1, none⟩ = some (.int .i64 t.a) := (blk_cell BT.out 1).trans rfl)
       | (go_at_call 80; (with_reducible refine (skip_no HQ.out 2 HK2.out).mono ?_); rintro e w8 ⟨rfl, rfl⟩))
      go_ret2
      exact ⟨HB.out, _, u3, r3, rfl, HQ.out, N.out, rfl⟩
theorem typ_spec {C : Cx} : ∀ f, TypSpec C f := by
 intro f
 induction f with
 | zero => intro w t r h hne; exact absurd rfl hne
 | succ f ih =>
   intro w t r h hne
   by_cases k10 : t.k = 10
   ·exact typ_list ih h k10 hne
   by_cases k15 : t.k = 15
   ·exact typ_named h k15
   ·exact absurd (show pType (f + 1) (t :: r) = .out by
     show (if R.hk (t :: r) = 10 then _ else if R.hk (t :: r) = 15 then _ else _) = _
     rw [if_neg (by exact k10), if_neg (by exact k15)]) hne
end Go.Proofs.YthgcghpcikbnkaaGreatDoor.R
