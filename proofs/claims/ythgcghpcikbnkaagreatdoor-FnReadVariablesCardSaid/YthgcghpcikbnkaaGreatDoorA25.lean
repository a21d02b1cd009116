/- A part of the proof of the theorem of this claim: Obj, Stl. No condition of its own. -/
import Derived.Test.YthgcghpcikbnkaaGreatDoorA11
set_option maxHeartbeats 16000000
set_option maxRecDepth 100000
namespace Go.Proofs.YthgcghpcikbnkaaGreatDoor.R
open Go.RowKit Go.Proofs.YthgcghpcikbnkaaGreatDoorW.PrintWords Go.Proofs.YthgcghpcikbnkaaGreatDoorW.PrintLast Go.Proofs.YthgcghpcikbnkaaGreatDoorW.PrintMore
set_option linter.unusedVariables false
set_option linter.unusedSimpArgs false
theorem info149' : (Tryz.prog.info? 149).map (fun i => (i.zero, i.size, i.bytes)) = some (some (.pointer none), 1, 8) := by kernel_rfl
def ObjA (ok : Ok) (w : World) (rows : List Row) (p : Value) : Prop := ∃ (g : Nat) (k : ByteArray) (l sl : Value) (r : List Row), p = ptr g ∧ At ok w g #[.string k, l, sl] 148 ∧ LocA ok w l ∧ SlA ok w 149 (FldA ok w (fun v r => ValE ok w r v)) sl r ∧ rows = nd 18 e0 e0 e0 0 r
theorem FldE.fr {ok ok' : Ok} {w w' : World} {r : List Row} {v : Value} (h : FldA ok w (fun v r => ValE ok w r v) v r) (hf : Keeps ok ok' w w') : FldA ok' w' (fun v r => ValE ok' w' r v) v r := FldA.fr h hf (fun v r h => h.fr hf)
theorem FldA.ptr {ok : Ok} {w : World} {X : Value → List Row → Prop} {v : Value} {r : List Row} (h : FldA ok w X v r) : ∃ g, v = R.ptr g := by obtain ⟨g, _, _, _, _, _, _, h, _⟩ := h; exact ⟨g, h⟩
theorem many_step2 {X X' : Value → List Row → Prop} {n : Nat} {w5 w6 : World} {sl sl2 x : Value} {xs : List Value} {rows rw : List Row} (hm : Keeps (okl n sl) (okl n sl2) w5 w6 → ∀ v r, X v r → X' v r)
 (hM : Many X xs rows) (hq : X x rw) (hg : w5.grownBy w6 sl.ownBlock) (hat : sl2.ownBlock = sl.ownBlock ∨ ∃ b, sl2.ownBlock = some b ∧ w5.heap.size ≤ b) : Many X' (xs ++ [x]) (rows ++ rw) :=
 Many.snoc (hM.mono (hm (okl_keeps hg hat))) (hm (okl_keeps hg hat) _ _ hq)
theorem obj_walk {C : Cx} {f : Nat} {c : Bool} (hV0 : ValSpec C f c) (hf : f ≤ 1000000) {w : World} {t : Tk} {r : List Tk} (h : PS C w t r) (hne : rev false (pNV 19 (pVal f c)) 12 14 f (t :: r) ≠ .out) : Calls Tryz.prog 108 #[ptr C.gp, .bool c] w (Got C w ((rev false (pNV 19 (pVal f c)) 12 14 f (t :: r)).bind fun x => .ok (nd 18 e0 e0 e0 0 x.1, x.2)) ObjA) := by
 have HP := mkA h
 have OK := mkA h.ok
 have LOW := mkA h.lo
 have hV := mkA hV0
 have HB := mkA (Fr.refl C.gp C.gc w)
 have HF := mkA hf
 have c6 := h.cells.2.2.1
 obtain ⟨it, hit⟩ : ∃ it, it = pNV 19 (pVal f c) := ⟨_, rfl⟩
 rw [← hit] at hne ⊢
 rw [rev_false] at hne ⊢
 have HIT := mkA hit
 clear h hV0 hf hit
 cases e_ : must 12 (t :: r) with
 | out => rw [e_] at hne; exact absurd rfl hne
 | bad =>
   simp only [O.bind_bad]
   have E0 := mkA e_
   clear e_ hne
   go_enter Tryz.func108, Tryz.ntmps108
   go_wp2_with (first
    | (go_at_call 79; have c_ := expect_walk HP.out 12 (by decide); rw [E0.out] at c_; (with_reducible refine c_.mono ?_); rintro e w1 ⟨hF, hP, te, x, rfl⟩; have n0_ := mkA (HB.out.trans hF); clear HB; have HB := n0_; have HP0 := mkA hP; clear n0_ hF hP)
    | ((with_reducible refine gate_dst (N := 7) rfl ?_); refine box_event ?hg (N := 7) ?hd (cs := #[.int .i64 0, .int .i64 0, .int .i64 0, .string ⟨#[]⟩]) (t := 63) ?hr ?_; (case hd => rfl); (case hg => rfl); (case hr => first | (go_simp; done) | (go_simp; rfl)); intro gt hg w2 hbox hb; have n0_ := mkA (HB.out.step hb); have GT := mkA ((by rw [hg]; exact HB.out.size : w.heap.size ≤ gt)); have GT2 := mkA (show C.lo ≤ gt by rw [hg]; exact Nat.le_trans HP.out.lo HB.out.size); have n1_ := mkA (HP0.out.below hb); have BT := mkA hbox; have NP := mkA (show gt ≠ C.gp from by have := OK.out.pl; have := OK.out.cp; have := GT2.out; omega); clear HB HP0 hb hbox hg; have HB := n0_; have HP0 := n1_; clear n0_ n1_; obtain ⟨tz0, tz1, tz2, tz3, tf0, tf1, tf2, tf3⟩ := tkz BT.out))
   go_ret2
   exact ⟨HB.out.p4 (.inr (.inr GT.out)), HP0.out.p4 NP.out, _, te, x, rfl⟩
 | ok l0 =>
   rw [e_] at hne
   simp only [O.bind_ok] at hne ⊢
   have E0 := mkA e_
   clear e_
   obtain ⟨RES, hR⟩ : ∃ RES, RES = many it 14 f l0 := ⟨_, rfl⟩
   rw [← hR] at hne ⊢
   have HR := mkA hR
   have HNE := mkA hne
   clear hR hne
   go_enter Tryz.func108, Tryz.ntmps108
   go_wp2_with (first
    | (go_at_call 79; have c_ := expect_walk HP.out 12 (by decide); rw [E0.out] at c_; (with_reducible refine c_.mono ?_); rintro e w1 ⟨hF, u0, r0, hl_, hP, rfl⟩; subst hl_; have n0_ := mkA (HB.out.trans hF); clear HB; have HB := n0_; have HP0 := mkA hP; clear n0_ hF hP E0)
    | ((with_reducible refine gate_dst (N := 7) rfl ?_); refine box_event ?hg (N := 7) ?hd (cs := #[.int .i64 0, .int .i64 0, .int .i64 0, .string ⟨#[]⟩]) (t := 63) ?hr ?_; (case hd => rfl); (case hg => rfl); (case hr => first | (go_simp; done) | (go_simp; rfl)); intro gt hg w2 hbox hb; have n0_ := mkA (HB.out.step hb); have GT := mkA ((by rw [hg]; exact HB.out.size : w.heap.size ≤ gt)); have GT2 := mkA (show C.lo ≤ gt by rw [hg]; exact Nat.le_trans HP.out.lo HB.out.size); have n1_ := mkA (HP0.out.below hb); have BT := mkA hbox; have NP := mkA (show gt ≠ C.gp from by have := OK.out.pl; have := OK.out.cp; have := GT2.out; omega); clear HB HP0 hb hbox hg; have HB := n0_; have HP0 := n1_; clear n0_ n1_; obtain ⟨tz0, tz1, tz2, tz3, tf0, tf1, tf2, tf3⟩ := tkz BT.out))
   obtain ⟨w3, hw3⟩ : ∃ w3, w3 = (((w2.setCell ⟨gt, 0, none⟩ (.int .i64 t.k)).setCell ⟨gt, 1, none⟩ (.int .i64 t.a)).setCell ⟨gt, 2, none⟩ (.int .i64 t.z)).setCell ⟨gt, 3, none⟩ (.string t.v) := ⟨_, rfl⟩
   have n0_ := mkA (show FrC C w w3 by rw [hw3]; exact HB.out.p4 (.inr (.inr GT.out)))
   have n2_ := mkA (show PS C w3 u0 r0 by rw [hw3]; exact HP0.out.p4 GT2.out)
   go_simp
   have hsz : ((((w2.setCell ⟨gt, 0, none⟩ (.int .i64 t.k)).setCell ⟨gt, 1, none⟩ (.int .i64 t.a)).setCell ⟨gt, 2, none⟩ (.int .i64 t.z)).setCell ⟨gt, 3, none⟩ (.string t.v)).heap.size = w2.heap.size := by simp
   have HSZ := mkA (show w3.heap.size = w2.heap.size by rw [hw3]; exact hsz)
   clear hsz
   rw [← hw3]
   clear HB BT HP0 hw3 tz0 tz1 tz2 tz3 tf0 tf1 tf2 tf3
   have HB := n0_; have HP0 := n2_
   clear n0_ n2_
   go_loopg [9] f (fun gk v9 wr => ∃ (xs : List Value) (rows : List Row) (t' : Tk) (r' : List Tk), Aside0 (wr.ownsRow w.heap.size 149 1 v9 xs.length xs) ∧ Aside0 (Many (FldA (okl w.heap.size v9) wr (fun v r => ValE (okl w.heap.size v9) wr r v)) xs rows) ∧ Aside0 (PS C wr t' r') ∧ Aside0 (RES = (many it 14 gk (t' :: r')).bind fun y => .ok (rows ++ y.1, y.2)) ∧ Aside0 (FrC C w wr) ∧ Aside0 (xs.length + gk ≤ f))
   case atStart => exact ⟨[], [], u0, r0, ⟨rfl, .inr ⟨w2.heap.size, 0, #[], rfl, by have := HB.out.size; have := HSZ.out; omega, by rw [← HSZ.out]; exact heap_alloc_new w3 _, Nat.le_refl _, Nat.zero_le _, rfl, rfl⟩⟩, ⟨.nil⟩, ⟨HP0.out.alloc _⟩, ⟨by rw [HR.out]; cases many it 14 f (u0 :: r0) <;> rfl⟩, ⟨HB.out.alloc _⟩, ⟨by simp⟩⟩
   case round =>
    obtain ⟨xs, rows, t', r', HO, HM, HPr, HRr, HBr, HN⟩ := hrel
    clear HB HP0
    cases gk with
    | zero => exact absurd HRr.out (fun e => HNE.out (by rw [e]; rfl))
    | succ k1 =>
      by_cases hkc : t'.k = 14
      ·have hb : (t'.k == 14) = true := beq_iff_eq.2 hkc
       have ht : t'.k ≠ 1 := by rw [hkc]; decide
       have CS := mkA (skip_yes HPr.out 14 hb ht)
       have hr := HRr.out
       have e2 : many it 14 (k1 + 1) (t' :: r') = (adv (t' :: r')).bind fun r => .ok ([], r) := by show (if hk (t' :: r') = 14 then _ else _) = _; rw [if_pos (by exact hkc)]
       rw [e2] at hr
       clear HRr e2
       cases r' with
       | nil =>
         rw [adv_nil ht] at hr
         have hR1 : RES = O.bad := hr
         clear hr hb ht hkc
         subst hR1
         go_wp2_with (first
          | (go_at_call 80; (with_reducible refine CS.out.mono ?_); rintro e w4 ⟨hF, hP, te, x, rfl⟩; have HB4 := mkA (HBr.out.trans hF); have HP4 := mkA hP; clear hF hP))
         go_ret2
         exact ⟨HB4.out, HP4.out, _, te, x, rfl⟩
       | cons u5 r5 =>
         rw [adv_cons ht] at hr
         have hR1 : RES = O.ok (rows, u5 :: r5) := by rw [hr]; simp
         clear hr hb ht hkc
         subst hR1
         have hsl : ∃ (A : Option Addr) (cp : Nat), u9 = .slice A xs.length cp := by
          obtain ⟨_, ⟨rfl, h0⟩ | ⟨g9, cap, cur, rfl, _⟩⟩ := HO.out
          ·exact ⟨none, 0, by rw [h0]⟩
          ·exact ⟨_, cap, rfl⟩
         obtain ⟨A, cp, rfl⟩ := hsl
         go_wp2_with (first
          | (go_at_call 80; (with_reducible refine CS.out.mono ?_); rintro e w4 ⟨hF, hP, rfl⟩; have HB4 := mkA (HBr.out.trans hF); have HP4 := mkA hP; have HF4 := mkA hF; clear hF hP)
          | (go_at_call 59; (with_reducible refine (loc_ps HP4.out _).mono ?_); rintro e wl ⟨⟨gl, rfl, hgl⟩, hBl⟩; have HL := mkA hgl; have HBl := mkA hBl; clear hgl hBl)
          | (go_at_call 141; (with_reducible refine (newObj (B := wl.heap.size) (heap_alloc_new wl _) (Nat.le_refl _) (below_alloc (Below.refl wl.heap.size wl) _).size).mono ?_); rintro e w9 ⟨⟨g9, k9, rfl, q1, h91⟩, q4⟩; have HX := mkA ((below_alloc (Below.refl wl.heap.size wl) _).trans q4); have HW := mkA (below_step HBl.out HX.out); have H90 := mkA (Nat.le_trans (Nat.le_trans HB4.out.size HBl.out.size) q1); have H91 := mkA h91; clear q1 q4 h91))
         go_ret2
         have KX := keeps_below (ok := from_ w4.heap.size) (ok' := from_ w.heap.size) HX.out (fun g hg => Nat.le_trans HB4.out.size hg)
         have KW := keeps_below (ok := from_ w.heap.size) HW.out (fun g hg => hg)
         have HS4 : SlA (from_ w.heap.size) w4 149 (FldA (from_ w.heap.size) w4 (fun v r => ValE (from_ w.heap.size) w4 r v)) (.slice A xs.length cp) rows := ⟨xs.length, xs, by have := HN.out; have := HF.out; omega, own_of (own_keep HO.out (fun g o hg hh => HF4.out.blk hh (by have := LOW.out; have := OK.out.pl; omega) (by have := LOW.out; have := OK.out.pl; have := OK.out.cp; omega))), HM.out.mono (fun v r h => FldE.fr h (show Keeps (okl w.heap.size _) (from_ w.heap.size) _ w4 from fun g o h1 h2 => ⟨h1.1, HF4.out.blk h2 (by have := LOW.out; have := OK.out.pl; have := h1.1; omega) (by have := LOW.out; have := OK.out.pl; have := OK.out.cp; have := h1.1; omega)⟩))⟩
         exact ⟨HB4.out.step HW.out, _, u5, r5, rfl, HP4.out.below HW.out, ⟨g9, k9, _, _, rows, rfl, ⟨H90.out, H91.out⟩, HL.out.fr KX, HS4.fr KW (fun v r h => FldE.fr h KW), rfl⟩, rfl⟩
      ·have hb : (t'.k == 14) = false := beq_eq_false_iff_ne.2 hkc
       have CS := mkA (skip_no HPr.out 14 hb)
       have hr := HRr.out
       have e2 : many it 14 (k1 + 1) (t' :: r') = (it (t' :: r')).bind fun x => (many it 14 k1 x.2).bind fun y => .ok (x.1 ++ y.1, y.2) := by show (if hk (t' :: r') = 14 then _ else _) = _; rw [if_neg (by exact hkc)]
       rw [e2] at hr
       clear HRr e2 hb hkc
       cases e_ : it (t' :: r') with
       | out => rw [e_] at hr; exact absurd hr HNE.out
       | bad =>
         rw [e_] at hr
         have E1 := mkA (show pNV 19 (pVal f c) (t' :: r') = O.bad by rw [← HIT.out]; exact e_)
         have hR1 : RES = O.bad := hr
         clear e_ hr
         subst hR1
         go_wp2_with (first
          | (go_at_call 80; (with_reducible refine CS.out.mono ?_); rintro e w4 ⟨rfl, rfl⟩)
          | (go_at_call 140; have c_ := objField_walk hV.out HPr.out (by rw [E1.out]; exact fun e => by cases e); rw [E1.out] at c_; (with_reducible refine c_.mono ?_); rintro e w5 ⟨hF, hP, v_, te, x, rfl⟩; have HB5 := mkA (HBr.out.trans hF); have HP5 := mkA hP; clear hF hP))
         go_ret2
         exact ⟨HB5.out, HP5.out, _, te, x, rfl⟩
       | ok a_ =>
         obtain ⟨rw_, l2⟩ := a_
         rw [e_] at hr
         simp only [O.bind_ok] at hr
         have E1 := mkA (show pNV 19 (pVal f c) (t' :: r') = O.ok (rw_, l2) by rw [← HIT.out]; exact e_)
         have HR1 := mkA hr
         clear e_ hr
         go_wp2_with (first
          | (go_at_call 80; (with_reducible refine CS.out.mono ?_); rintro e w4 ⟨rfl, rfl⟩)
          | (go_at_call 140; have c_ := objField_walk hV.out HPr.out (by rw [E1.out]; exact fun e => by cases e); rw [E1.out] at c_; (with_reducible refine c_.mono ?_); rintro e w5 ⟨hF, v5, u5, r5, hl_, hP, hQ, rfl⟩; subst hl_; obtain ⟨gx, rfl⟩ := hQ.ptr; have HB5 := mkA (HBr.out.trans hF); have HP5 := mkA hP; have HO5 := mkA (own_keep HO.out (fun g o hg hh => hF.blk hh (by have := LOW.out; have := OK.out.pl; omega) (by have := LOW.out; have := OK.out.pl; have := OK.out.cp; omega))); have HM5 := mkA (HM.out.mono (fun v r h => FldE.fr h (show Keeps (okl w.heap.size u9) (okl w.heap.size u9) _ w5 from fun g o h1 h2 => ⟨h1, hF.blk h2 (by have := LOW.out; have := OK.out.pl; have := h1.1; omega) (by have := LOW.out; have := OK.out.pl; have := OK.out.cp; have := h1.1; omega)⟩))); have HN5 := mkA (FldE.fr hQ (show Keeps (from_ wr.heap.size) (okl w.heap.size u9) w5 w5 from fun g o h1 h2 => ⟨⟨Nat.le_trans HBr.out.size h1, fun e => by have := (own_lt HO.out e.symm).1; have : wr.heap.size ≤ g := h1; omega⟩, h2⟩)); clear hF hP hQ)
          | (at_builtin; refine print_append (w0 := w5) w.heap.size rfl (.tmp 46) (.tmp 48) 146 149 (.pointer none) 8 rfl Tryz.underlying146 info149' rfl (by decide) u9 xs (ptr gx) rfl rfl rfl HO5.out (Below.refl _ _) HB5.out.size (by have := HN.out; have := HF.out; omega) ?_; intro v6 w6 ho hb hg hat; have HO6 := mkA ho; have HG6 := mkA hg; have HA6 := mkA hat; clear ho hb hg hat))
         go_roundg k1
         case measure => omega
         case rel => exact ⟨xs ++ [ptr gx], rows ++ rw_, u5, r5, HO6, ⟨many_step2 (fun hK v r h => FldE.fr h hK) HM5.out HN5.out HG6.out HA6.out⟩, ⟨ps_grown HP5.out HG6.out (fun b hb => Nat.le_trans LOW.out (own_lt HO5.out hb).2)⟩, ⟨by rw [HR1.out]; cases many it 14 k1 (u5 :: r5) with | out => rfl | bad => rfl | ok a => simp⟩, ⟨fr_grown HB5.out HG6.out (fun b hb => (own_lt HO5.out hb).2)⟩, ⟨by have := HN.out; simp; omega⟩⟩
def StrA (ok : Ok) (w : World) (p : Value) (v : ByteArray) : Prop := ∃ (g : Nat) (k : ByteArray) (l : Value), p = ptr g ∧ At ok w g #[.string k, l, .string v] 135 ∧ LocA ok w l
theorem strLit_walk {C : Cx} {w : World} {t : Tk} {r : List Tk} (h : PS C w t r) (ht : t.k ≠ 1) : Calls Tryz.prog 111 #[ptr C.gp] w (Got C w ((adv (t :: r)).bind fun l => .ok (t.v, l)) (fun ok w' v p => StrA ok w' p v)) := by
 have HP := mkA h
 have OK := mkA h.ok
 have LOW := mkA h.lo
 have HB := mkA (Fr.refl C.gp C.gc w)
 have HTK := mkA ht
 obtain ⟨c1, c5, c6, c7, c8⟩ := h.cells
 clear h
 cases r with
 | nil =>
   rw [adv_nil ht]
   simp only [O.bind_bad]
   clear ht
   go_enter Tryz.func111, Tryz.ntmps111
   go_upto_region 2 with (first
    | ((with_reducible refine gate_dst (N := 4) rfl ?_); refine box_event ?hg (N := 4) ?hd (cs := #[.int .i64 0, .int .i64 0, .int .i64 0, .string ⟨#[]⟩]) (t := 63) ?hr ?_; (case hd => rfl); (case hg => rfl); (case hr => first | (go_simp; done) | (go_simp; rfl)); intro gt hg w2 hbox hb; obtain ⟨n0_, GT, GT2, n1_, BT, NP, tz0, tz1, tz2, tz3, tf0, tf1, tf2, tf3⟩ := tkb OK.out HB.out HP.out hg hbox hb; clear HB hb hbox hg c1 c5 c6 c7 c8; have HB := n0_; have HP2 := n1_; clear n0_ n1_))
   obtain ⟨w3, hw3, n0_, n1_, n2_, sx0, sx1, sx2, sx3⟩ := tk3 HB.out GT.out BT.out HP2.out GT2.out
   rw [← hw3]
   clear HB BT HP2 hw3 tz0 tz1 tz2 tz3 tf0 tf1 tf2 tf3
   have HB := n0_; have BT := n1_; have HP2 := n2_
   clear n0_ n1_ n2_
   have CA := mkA (advance_walk HP2.out HTK.out)
   go_wp2_with (first
    | (go_at_call 100; (with_reducible refine CA.out.mono ?_); rintro e w4 ⟨hF, hP, te, x, rfl⟩; have n0_ := mkA (HB.out.trans hF); clear HB; have HB := n0_; have HQ := mkA hP; clear n0_ hF hP))
   go_ret2
   exact ⟨HB.out, HQ.out, _, te, x, rfl⟩
 | cons u r =>
   rw [adv_cons ht]
   simp only [O.bind_ok]
   clear ht
   go_enter Tryz.func111, Tryz.ntmps111
   go_upto_region 2 with (first
    | ((with_reducible refine gate_dst (N := 4) rfl ?_); refine box_event ?hg (N := 4) ?hd (cs := #[.int .i64 0, .int .i64 0, .int .i64 0, .string ⟨#[]⟩]) (t := 63) ?hr ?_; (case hd => rfl); (case hg => rfl); (case hr => first | (go_simp; done) | (go_simp; rfl)); intro gt hg w2 hbox hb; obtain ⟨n0_, GT, GT2, n1_, BT, NP, tz0, tz1, tz2, tz3, tf0, tf1, tf2, tf3⟩ := tkb OK.out HB.out HP.out hg hbox hb; clear HB hb hbox hg c1 c5 c6 c7 c8; have HB := n0_; have HP2 := n1_; clear n0_ n1_))
   obtain ⟨w3, hw3, n0_, n1_, n2_, sx0, sx1, sx2, sx3⟩ := tk3 HB.out GT.out BT.out HP2.out GT2.out
   rw [← hw3]
   clear HB BT HP2 hw3 tz0 tz1 tz2 tz3 tf0 tf1 tf2 tf3
   have HB := n0_; have BT := n1_; have HP2 := n2_
   clear n0_ n1_ n2_
   have CA := mkA (advance_walk HP2.out HTK.out)
   go_upto_region 5 with (first
    | (go_at_call 100; (with_reducible refine CA.out.mono ?_); rintro e w4 ⟨hF, hP, rfl⟩; have n0_ := mkA (HB.out.trans hF); clear HB; have HB := n0_; have HQ := mkA hP; have BT4 := mkA (hF.blk BT.out NP.out.1 NP.out.2); clear n0_ hF hP))
   have sx0 : w4.cell? ⟨gt, 3, none⟩ = some (.string t.v) := (blk_cell BT4.out 3).trans rfl
   have sx1 : w4.cell? ⟨gt, 1, none⟩ = some (.int .i64 t.a) := (blk_cell BT4.out 1).trans rfl
   have K0 : ∀ u, Below w4.heap.size w4 u → (u.cell? ⟨gt, 3, none⟩ = some (.string t.v) ∧ u.cell? ⟨gt, 1, none⟩ = some (.int .i64 t.a)) ∧ Below w4.heap.size w4 u := fun u hu => ⟨⟨(hu.cell (World.block_lt_of_cell? _ _ sx0)).trans sx0, (hu.cell (World.block_lt_of_cell? _ _ sx1)).trans sx1⟩, hu⟩
   have cL := mkA (fun (u : World) (hu : Below w4.heap.size w4 u) (a : Int) => (show Calls Tryz.prog 59 #[ptr C.gp, .int .i64 a] u fun e w' => (∃ g' : Nat, e = .returned (ptr g') ∧ LocA (from_ w4.heap.size) w' (ptr g')) ∧ Below w4.heap.size w4 w' from (loc_ps (HQ.out.below hu) a).mono fun e w' q => by obtain ⟨⟨g', q1, q2⟩, q3⟩ := q; exact ⟨⟨g', q1, q2.fr (keeps_weak hu.size)⟩, below_step hu q3⟩))
   have LO := mkA (show w.heap.size ≤ w4.heap.size from HB.out.size)
   go_region_held3 (fun u => (u.cell? ⟨gt, 3, none⟩ = some (.string t.v) ∧ u.cell? ⟨gt, 1, none⟩ = some (.int .i64 t.a)) ∧ Below w4.heap.size w4 u) (first | exact K0 _ (Below.refl _ _) | exact K0 _ (below_drew1 (Below.refl _ _)) | exact K0 _ (below_drew1 (below_alloc (Below.refl _ _) _)) | exact hS9 | exact hS5 | exact hS6 | fail) (first
    | (go_at_call 59; refine (cL.out _ ?_ _).mono ?_; (first | exact below_drew1 (Below.refl _ _) | exact Below.refl _ _); rintro e w5 ⟨⟨gl, rfl, hgl⟩, hW5⟩; have hS5 := K0 _ hW5; have hS6 := K0 _ (below_alloc hW5 (.cells #[.string ⟨#[]⟩, ptr gl, .string t.v] 135)); have cN := (show Calls Tryz.prog 142 #[ptr w5.heap.size] (w5.alloc (.cells #[.string ⟨#[]⟩, ptr gl, .string t.v] 135)) fun e w' => ∃ (g9 : Nat) (k9 : ByteArray), e = .returned (ptr g9) ∧ w.heap.size ≤ g9 ∧ w'.heap[g9]? = some (.cells #[.string k9, ptr gl, .string t.v] 135 (0, 0)) ∧ Below w5.heap.size w5 w' from (newStr (B := w5.heap.size) (heap_alloc_new w5 _) (Nat.le_refl _) (below_alloc (Below.refl w5.heap.size w5) _).size).mono fun e w' q => by obtain ⟨⟨g9, k9, q1, q2, q3⟩, q4⟩ := q; exact ⟨g9, k9, q1, Nat.le_trans (Nat.le_trans LO.out hW5.size) q2, q3, (below_alloc (Below.refl w5.heap.size w5) _).trans q4⟩))
    | (go_at_call 142; refine cN.mono ?_; rintro e w9 ⟨g9, k9, rfl, h90, h91, hX⟩; have hW9 := below_step hW5 hX; have hS9 := K0 _ hW9)
    | fail)
   go_wp2
   go_ret2
   have KX := keeps_below (ok := from_ w4.heap.size) (ok' := from_ w.heap.size) hX (fun g hg => Nat.le_trans HB.out.size hg)
   exact ⟨HB.out.step hW9, _, _, _, rfl, HQ.out.below hW9, ⟨g9, k9, _, rfl, ⟨h90, h91⟩, hgl.fr KX⟩, rfl⟩
end Go.Proofs.YthgcghpcikbnkaaGreatDoor.R
