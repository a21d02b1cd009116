/- A part of the proof of the theorem of this claim: Smt, Smv. No condition of its own. -/
import Derived.Test.YthgcghpcikbnkaaGreatDoorC26
import Derived.Test.YthgcghpcikbnkaaGreatDoorC33
set_option maxHeartbeats 16000000
set_option maxRecDepth 100000
namespace Go.Proofs.YthgcghpcikbnkaaGreatDoor.R
open Go.RowKit Go.Proofs.YthgcghpcikbnkaaGreatDoorW.PrintWords Go.Proofs.YthgcghpcikbnkaaGreatDoorW.PrintLast Go.Proofs.YthgcghpcikbnkaaGreatDoorW.PrintMore
set_option linter.unusedVariables false
set_option linter.unusedSimpArgs false
theorem NdA.weak {ok ok':Ok} {w:World} {rows:List Row} {v:Value} (h:NdA ok w rows v) (hk:∀ g,ok g→ok' g):NdA ok' w rows v:=⟨h.1,fun b hb=>hk b (h.2 b hb)⟩
theorem kids_new {ok:Ok} {w:World} {kss:List (List Row)} {vs:List Value} (h:Kl (NdA ok w) kss vs) {n:Nat} (hn:vs.length=n) (hm:vs.length≤100:=by simp):KidsA (fun _=>True) (w.alloc (.cells vs.toArray 25)) kss (.slice (some ⟨w.heap.size,0,none⟩) n n):=by
 subst hn
 refine ⟨vs,⟨by rw [Nat.mul_one],.inr ⟨w.heap.size,vs.length,_,rfl,Nat.zero_le _,heap_alloc_new w _,Nat.le_refl _,by unfold maxLen;omega,by rw [Nat.mul_one];simp,by rw [Nat.mul_one];simp⟩⟩,fun _ _=>trivial,h.mono fun r v x=>x.fr (fun g o _ hg=>⟨trivial,blk_below hg (below_alloc (Below.refl _ _) _)⟩)⟩
def RN (C:SC) (w:World) (r:List Row) (s':St) (e:Ending) (w':World):Prop:=∃ v,e=.returned v∧NdA (from_ w.heap.size) w' r v∧SP C w' s'∧Fr C.gp C.gp w w'
theorem SP.gp {C:SC} {w:World} {s:St} (h:SP C w s):C.gp < w.heap.size:=by
 obtain ⟨wr,hc⟩:=h.cell;exact blk_lt hc
theorem sp_un {C:SC} {w:World} {s:St} (h:SP C w s) (u:Bool):SP C (w.setCell ⟨C.gp,5,none⟩ (.bool u)) ⟨s.a,s.d,s.bad,u⟩∧Fr C.gp C.gp w (w.setCell ⟨C.gp,5,none⟩ (.bool u)):=by
 obtain ⟨wr,hc⟩:=h.cell
 exact ⟨h.upd ⟨wr,blk_put (cs:=#[.slice C.A C.L.length C.cp,.int .i64 s.a,.int .i64 s.d,.int .i64 wr,.bool s.bad,.bool s.un]) hc 5 _ rfl⟩ ((Fr.refl _ _ _).put (p:=⟨C.gp,5,none⟩) (.inl rfl) _) h.le,(Fr.refl _ _ _).put (p:=⟨C.gp,5,none⟩) (.inl rfl) _⟩
theorem SP.c5 {C:SC} {w:World} {s:St} (h:SP C w s):w.cell? ⟨C.gp,5,none⟩=some (.bool s.un)∧w.frozen? ⟨C.gp,5,none⟩=false:=by
 obtain ⟨wr,hc⟩:=h.cell;exact ⟨(blk_cell hc 5).trans rfl,blk_frozen hc 5⟩
theorem SP.c4 {C:SC} {w:World} {s:St} (h:SP C w s):w.cell? ⟨C.gp,4,none⟩=some (.bool s.bad):=by
 obtain ⟨wr,hc⟩:=h.cell;exact (blk_cell hc 4).trans rfl
theorem info25':(Tryz.prog.info? 25).map (fun i=>(i.zero,i.size,i.bytes))=some (some (.slice none 0 0),1,24):=by kernel_rfl
theorem SP.grown {C:SC} {w w':World} {s:St} (h:SP C w s) {b n q:Nat} {e:TypeId} {v:Value} {xs:List Value} (ho:w.ownsRow b e q v n xs) (he:e=25∨e=55) (hg:w.grownBy w' v.ownBlock):SP C w' s :=
 ⟨h.cell.imp fun _ x=>grown_typ ho hg x (by rcases he with rfl | rfl <;> decide),own_typ h.own (fun g cs x=>grown_typ ho hg x (by rcases he with rfl | rfl <;> decide)),h.le,h.big⟩
theorem NdA.grown {ok:Ok} {w w':World} {rows:List Row} {v:Value} (h:NdA ok w rows v) {b n q:Nat} {v':Value} {xs:List Value} (ho:w.ownsRow b 25 q v' n xs) (hg:w.grownBy w' v'.ownBlock):NdA ok w' rows v :=
 ⟨own_typ h.1 (fun g cs x=>grown_typ ho hg x (by decide)),h.2⟩
theorem sp_at {C:SC} {w:World} {s:St} (h:SP C w s) (hl:s.a < C.L.length):SP C (w.setCell ⟨C.gp,1,none⟩ (.int .i64 (wrap64 ((s.a:Int)+1)))) s.nx∧Fr C.gp C.gp w (w.setCell ⟨C.gp,1,none⟩ (.int .i64 (wrap64 ((s.a:Int)+1)))):=by
 obtain ⟨wr,hc⟩:=h.cell
 have hb:=h.big
 have e:wrap64 ((s.a:Int)+1)=((s.a+1:Nat):Int):=(w64 (by omega) (by omega)).trans (by omega)
 rw [e]
 exact ⟨h.upd ⟨wr,blk_put (cs:=#[.slice C.A C.L.length C.cp,.int .i64 s.a,.int .i64 s.d,.int .i64 wr,.bool s.bad,.bool s.un]) hc 1 _ rfl⟩ ((Fr.refl _ _ _).put (p:=⟨C.gp,1,none⟩) (.inl rfl) _) hl,(Fr.refl _ _ _).put (p:=⟨C.gp,1,none⟩) (.inl rfl) _⟩
theorem SP.c1 {C:SC} {w:World} {s:St} (h:SP C w s):w.cell? ⟨C.gp,1,none⟩=some (.int .i64 s.a)∧w.frozen? ⟨C.gp,1,none⟩=false:=by
 obtain ⟨wr,hc⟩:=h.cell;exact ⟨(blk_cell hc 1).trans rfl,blk_frozen hc 1⟩
theorem SP.c0 {C:SC} {w:World} {s:St} (h:SP C w s):w.cell? ⟨C.gp,0,none⟩=some (.slice C.A C.L.length C.cp):=by
 obtain ⟨wr,hc⟩:=h.cell;exact (blk_cell hc 0).trans rfl
theorem own_fr {C:SC} {w w':World} {s:St} {b n q:Nat} {e:TypeId} {v:Value} {xs:List Value} (h:w.ownsRow b e q v n xs) (he:e≠49) (hP:SP C w s) (hF:Fr C.gp C.gp w w'):w'.ownsRow b e q v n xs:=own_typ h (fun g cs x=>by
 obtain ⟨wr,hc⟩:=hP.cell
 have hne:=blk_ne x hc he
 exact hF.blk x hne hne)
theorem KidsA.fr {ok ok':Ok} {w w':World} {kss:List (List Row)} {v:Value} (h:KidsA ok w kss v) (hf:Keeps ok ok' w w'):KidsA ok' w' kss v:=by
 obtain ⟨xs,⟨h1,h2⟩,h3,h4⟩:=h
 rcases h2 with ⟨rfl,h2⟩ | ⟨g,cap,cur,rfl,hg,hh,r⟩
 ·exact ⟨xs,⟨h1,.inl ⟨rfl,h2⟩⟩,fun b hb=>by simp [Value.ownBlock] at hb,h4.mono fun r v h=>h.fr hf⟩
 ·have hk:=hf g _ (h3 g rfl) hh
  exact ⟨xs,⟨h1,.inr ⟨g,cap,cur,rfl,hg,hk.2,r⟩⟩,fun b hb=>by simp [Value.ownBlock] at hb;rw [← hb];exact hk.1,h4.mono fun r v h=>h.fr hf⟩
theorem KidsA.sl {ok:Ok} {w:World} {kss:List (List Row)} {v:Value} (h:KidsA ok w kss v):∃ (A:Option Addr) (n c:Nat),v=.slice A n c:=by
 obtain ⟨xs,h1,_⟩:=h
 obtain ⟨A,c,e⟩:=own_sl h1
 exact ⟨A,_,c,e⟩
def RecW (C:SC) (fn:Nat) (args:Array Value) (F:St→Option RS):Prop:=∀ {w:World} {s:St} {r:List Row} {s':St},SP C w s→F s=some (r,s')→r.length≤900000→Calls Tryz.prog fn args w (RN C w r s')
theorem here_walk {C:SC} {c:Bool} {rec:St→Option RS} (ih:RecW C 18 #[ptr C.gp,.bool c] rec) {n:Nat} (hnb:n≤1000000) {w:World} {s:St} {r:List Row} {s':St} (h:SP C w s) (H:hereF C.L c rec n s=some (r,s')) (hr:r.length≤900000):Calls Tryz.prog 42 #[ptr C.gp,.bool c] w (RN C w r s'):=by
 have HPc:=mkA h
 have HFc:=mkA (Fr.refl C.gp C.gp w)
 have GP:=mkA h.gp
 have HR:=mkA hr
 have HNB:=mkA hnb
 clear hnb
 have IH:=mkA @ih
 have c0:=h.c0
 have c1:=h.c1.1
 have hle:=h.le
 have hbig:=h.big
 by_cases hl:s.a < C.L.length
 case neg =>
  unfold hereF at H
  rw [if_pos (by omega)] at H
  simp only [Option.some.injEq,Prod.mk.injEq] at H
  obtain ⟨rfl,rfl⟩:=H
  have q1:((C.L.length:Int)≤(s.a:Int))=True:=eq_true (by omega)
  have q2:(C.L.length≤s.a)=True:=eq_true (by omega)
  clear h hr ih hle hbig hl
  go_enter Tryz.func42,Tryz.ntmps42
  go_upto_region 1 with (fail)
  go_quiet (fail)
  replace HPc:=mkA (HPc.out.drewN nq)
  replace HFc:=mkA (HFc.out.drewN nq)
  generalize World.drewN _ nq=w_ at HPc HFc ⊢
  go_wp2_with (first
   | (go_at_call 76;have c_:=fail_walk HPc.out;(with_reducible refine c_.mono ?_);rintro e w_ ⟨rfl,hP,hF⟩;replace HPc:=mkA hP;replace HFc:=mkA (HFc.out.trans hF);clear hP hF))
  go_ret
  exact ⟨_,rfl,NdA.nil _ _,HPc.out,HFc.out⟩
 case pos =>
  have HL:=mkA hl
  have q1:((C.L.length:Int)≤(s.a:Int))=False:=eq_false (by omega)
  have q2:(C.L.length≤s.a)=False:=eq_false (by omega)
  have q3:((s.a:Int) < (C.L.length:Int))=True:=eq_true (by omega)
  have q5:(s.a < C.L.length)=True:=eq_true hl
  have HH:=mkA H
  clear h hr ih hle hbig hl H
  go_enter Tryz.func42,Tryz.ntmps42
  go_upto_region 1 with (fail)
  go_quiet (fail)
  replace HPc:=mkA (HPc.out.drewN nq)
  replace HFc:=mkA (HFc.out.drewN nq)
  generalize World.drewN _ nq=w_ at HPc HFc ⊢
  clear c0 c1
  obtain ⟨g,hA,t0,t1,t2,t3⟩:=HPc.out.tok HL.out
  have c0:=HPc.out.c0
  rw [hA] at c0
  have c1:=HPc.out.c1.1
  have HA:=mkA hA
  generalize (C.L[s.a]'HL.out).a=ta at t2
  generalize (C.L[s.a]'HL.out).z=tz at t3
  clear hA
  go_upto_region 3 with (fail)
  have K0:∀ u,Below w_.heap.size w_ u→(u.cell? ⟨C.gp,0,none⟩=some (.slice (some ⟨g,0,none⟩) C.L.length C.cp)∧u.cell? ⟨C.gp,1,none⟩=some (.int .i64 s.a)∧u.cell? ⟨g,s.a * 4,none⟩=some (.int .i64 (kd C.L s))∧u.cell? ⟨g,s.a * 4+1,none⟩=some (.string (vl C.L s))∧u.cell? ⟨g,s.a * 4+2,none⟩=some (.int .i64 ta)∧u.cell? ⟨g,s.a * 4+3,none⟩=some (.int .i64 tz))∧Below w_.heap.size w_ u:=fun u hu=>⟨⟨(hu.cell (World.block_lt_of_cell? _ _ c0)).trans c0,(hu.cell (World.block_lt_of_cell? _ _ c1)).trans c1,(hu.cell (World.block_lt_of_cell? _ _ t0)).trans t0,(hu.cell (World.block_lt_of_cell? _ _ t1)).trans t1,(hu.cell (World.block_lt_of_cell? _ _ t2)).trans t2,(hu.cell (World.block_lt_of_cell? _ _ t3)).trans t3⟩,hu⟩
  clear c0 c1 t0 t1 t2 t3
  obtain ⟨⟨c0,c1,t0,t1,t2,t3⟩,-⟩:=K0 w_ (Below.refl _ _)
  go_region_held3 (fun u=>(u.cell? ⟨C.gp,0,none⟩=some (.slice (some ⟨g,0,none⟩) C.L.length C.cp)∧u.cell? ⟨C.gp,1,none⟩=some (.int .i64 s.a)∧u.cell? ⟨g,s.a * 4,none⟩=some (.int .i64 (kd C.L s))∧u.cell? ⟨g,s.a * 4+1,none⟩=some (.string (vl C.L s))∧u.cell? ⟨g,s.a * 4+2,none⟩=some (.int .i64 ta)∧u.cell? ⟨g,s.a * 4+3,none⟩=some (.int .i64 tz))∧Below w_.heap.size w_ u) (first | exact K0 _ (Below.refl _ _) | exact K0 _ (below_drew1 (Below.refl _ _)) | exact K0 _ (below_drew1 (below_alloc (Below.refl _ _) _)) | exact K0 _ (below_alloc (below_drew1 (Below.refl _ _)) _) | fail) (fail)
  have hbel:=below_drew1 (below_alloc (Below.refl w_.heap.size w_) (.cells #[.int .i64 (kd C.L s),.string (vl C.L s),.int .i64 ta,.int .i64 tz] 53))
  have n1_:=mkA (HPc.out.below hbel)
  have n2_:=mkA (HFc.out.step hbel)
  have bk_:=mkA (show (w_.alloc (.cells #[.int .i64 (kd C.L s),.string (vl C.L s),.int .i64 ta,.int .i64 tz] 53)).drew.heap[w_.heap.size]?=some (.cells #[.int .i64 (kd C.L s),.string (vl C.L s),.int .i64 ta,.int .i64 tz] 53 (0,0)) from heap_alloc_new w_ _)
  clear HPc HFc K0 c0 c1 t0 t1 t2 t3 hbel HA q1 q2 q3 q5
  generalize w_.heap.size=gk at bk_ ⊢
  generalize World.drew _=w_ at n1_ n2_ bk_ ⊢
  have HPc:=n1_
  have HFc:=n2_
  have BK:=bk_
  clear n1_ n2_ bk_
  have NG:=mkA (show gk≠C.gp from by obtain ⟨wr,hc⟩:=HPc.out.cell;exact blk_ne BK.out hc (by decide))
  have y0:w_.cell? ⟨gk,0,none⟩=some (.int .i64 (kd C.L s)):=(blk_cell BK.out 0).trans rfl
  have H:=HH.out
  unfold hereF at H
  rw [if_neg (by have:=HL.out;omega)] at H
  clear HH
  by_cases k_:kd C.L s=3
  ·rw [if_pos k_] at H
   rw [k_] at y0
   cases c
   ·rw [if_neg (by decide)] at H
    simp only [Option.some.injEq,Prod.mk.injEq] at H
    obtain ⟨hr1,rfl⟩:=H
    have HE:=mkA (show nd 11 (nameF C.L s.nx).1 e0 e0 0 ([]:List (List Row)).flatten=r from hr1)
    clear hr1 k_
    have c1:=HPc.out.c1.1
    have f1:=HPc.out.c1.2
    go_upto_region 9 with (fail)
    have hu:=sp_at HPc.out HL.out
    replace HPc:=mkA hu.1
    replace HFc:=mkA (HFc.out.trans hu.2)
    replace BK:=mkA (hu.2.blk BK.out NG.out NG.out)
    generalize World.setCell _ _ _=w_ at HPc HFc BK ⊢
    clear hu c1 f1 y0
    go_wp2_with (first
     | (go_at_call 40;have c_:=name_walk HPc.out;(with_reducible refine c_.mono ?_);rintro e w_ ⟨rfl,hP,hF⟩;replace HPc:=mkA hP;replace HFc:=mkA (HFc.out.trans hF);clear hP hF)
     | (go_at_call 38;(with_reducible refine (made_walk (KidsA.nil (fun _=>True) _) (by simp) (by simp)).mono ?_);rintro e w_ ⟨v_,rfl,hN,hB⟩;rw [HE.out] at hN;have hA_:=hB;obtain ⟨AN1,cN1,rfl⟩:=hN.shape;have HX_:=mkA HFc.out.size;replace HPc:=mkA (HPc.out.below hA_);replace HFc:=mkA (HFc.out.step hA_);have N1:=mkA (NdA.weak hN (fun g h=>Nat.le_trans HX_.out h));clear hN hB hA_))
    go_ret
    exact ⟨_,rfl,N1.out,HPc.out,HFc.out⟩
   ·rw [if_pos rfl] at H
    simp only [Option.some.injEq,Prod.mk.injEq] at H
    obtain ⟨rfl,rfl⟩:=H
    clear k_
    go_wp2_with (first
     | (go_at_call 76;have c_:=fail_walk HPc.out;(with_reducible refine c_.mono ?_);rintro e w_ ⟨rfl,hP,hF⟩;replace HPc:=mkA hP;replace HFc:=mkA (HFc.out.trans hF);clear hP hF))
    go_ret
    exact ⟨_,rfl,NdA.nil _ _,HPc.out,HFc.out⟩
  rw [if_neg k_] at H
  have p3:=(bnne k_).2
  clear k_
  by_cases k_:kd C.L s=16
  ·rw [if_pos k_] at H
   simp only [Option.some.injEq,Prod.mk.injEq] at H
   obtain ⟨rfl,rfl⟩:=H
   rw [k_] at y0
   have c1:=HPc.out.c1.1
   have f1:=HPc.out.c1.2
   go_upto_region 13 with (fail)
   have hu:=sp_at HPc.out HL.out
   replace HPc:=mkA hu.1
   replace HFc:=mkA (HFc.out.trans hu.2)
   replace BK:=mkA (hu.2.blk BK.out NG.out NG.out)
   generalize World.setCell _ _ _=w_ at HPc HFc BK ⊢
   clear hu c1 f1 y0
   have y0:w_.cell? ⟨gk,0,none⟩=some (.int .i64 16):=by rw [← k_];exact (blk_cell BK.out 0).trans rfl
   have y1:w_.cell? ⟨gk,1,none⟩=some (.string (vl C.L s)):=(blk_cell BK.out 1).trans rfl
   clear k_
   go_wp2_with (first
    | (go_at_call 38;(with_reducible refine (made_walk (KidsA.nil (fun _=>True) _) (by simp) (by simp)).mono ?_);rintro e w_ ⟨v_,rfl,hN,hB⟩;have hA_:=hB;obtain ⟨AN1,cN1,rfl⟩:=hN.shape;have HX_:=mkA HFc.out.size;replace HPc:=mkA (HPc.out.below hA_);replace HFc:=mkA (HFc.out.step hA_);have N1:=mkA (NdA.weak hN (fun g h=>Nat.le_trans HX_.out h));clear hN hB hA_))
   go_ret
   exact ⟨_,rfl,N1.out,HPc.out,HFc.out⟩
  rw [if_neg k_] at H
  have p16:=(bnne k_).2
  clear k_
  by_cases k_:kd C.L s=17
  ·rw [if_pos k_] at H
   simp only [Option.some.injEq,Prod.mk.injEq] at H
   obtain ⟨rfl,rfl⟩:=H
   rw [k_] at y0
   have c1:=HPc.out.c1.1
   have f1:=HPc.out.c1.2
   go_upto_region 13 with (fail)
   have hu:=sp_at HPc.out HL.out
   replace HPc:=mkA hu.1
   replace HFc:=mkA (HFc.out.trans hu.2)
   replace BK:=mkA (hu.2.blk BK.out NG.out NG.out)
   generalize World.setCell _ _ _=w_ at HPc HFc BK ⊢
   clear hu c1 f1 y0
   have y0:w_.cell? ⟨gk,0,none⟩=some (.int .i64 17):=by rw [← k_];exact (blk_cell BK.out 0).trans rfl
   have y1:w_.cell? ⟨gk,1,none⟩=some (.string (vl C.L s)):=(blk_cell BK.out 1).trans rfl
   clear k_
   go_wp2_with (first
    | (go_at_call 38;(with_reducible refine (made_walk (KidsA.nil (fun _=>True) _) (by simp) (by simp)).mono ?_);rintro e w_ ⟨v_,rfl,hN,hB⟩;have hA_:=hB;obtain ⟨AN1,cN1,rfl⟩:=hN.shape;have HX_:=mkA HFc.out.size;replace HPc:=mkA (HPc.out.below hA_);replace HFc:=mkA (HFc.out.step hA_);have N1:=mkA (NdA.weak hN (fun g h=>Nat.le_trans HX_.out h));clear hN hB hA_))
   go_ret
   exact ⟨_,rfl,N1.out,HPc.out,HFc.out⟩
  rw [if_neg k_] at H
  have p17:=(bnne k_).2
  clear k_
  by_cases k_:kd C.L s=18
  ·rw [if_pos k_] at H
   simp only [Option.some.injEq,Prod.mk.injEq] at H
   obtain ⟨rfl,rfl⟩:=H
   rw [k_] at y0
   have c1:=HPc.out.c1.1
   have f1:=HPc.out.c1.2
   go_upto_region 17 with (fail)
   have hu:=sp_at HPc.out HL.out
   replace HPc:=mkA hu.1
   replace HFc:=mkA (HFc.out.trans hu.2)
   replace BK:=mkA (hu.2.blk BK.out NG.out NG.out)
   generalize World.setCell _ _ _=w_ at HPc HFc BK ⊢
   clear hu c1 f1 y0
   have y0:w_.cell? ⟨gk,0,none⟩=some (.int .i64 18):=by rw [← k_];exact (blk_cell BK.out 0).trans rfl
   have y1:w_.cell? ⟨gk,1,none⟩=some (.string (vl C.L s)):=(blk_cell BK.out 1).trans rfl
   clear k_
   go_wp2_with (first
    | (go_at_call 38;(with_reducible refine (made_walk (KidsA.nil (fun _=>True) _) (by simp) (by simp)).mono ?_);rintro e w_ ⟨v_,rfl,hN,hB⟩;have hA_:=hB;obtain ⟨AN1,cN1,rfl⟩:=hN.shape;have HX_:=mkA HFc.out.size;replace HPc:=mkA (HPc.out.below hA_);replace HFc:=mkA (HFc.out.step hA_);have N1:=mkA (NdA.weak hN (fun g h=>Nat.le_trans HX_.out h));clear hN hB hA_))
   go_ret
   exact ⟨_,rfl,N1.out,HPc.out,HFc.out⟩
  rw [if_neg k_] at H
  have p18:=(bnne k_).2
  clear k_
  by_cases k_:kd C.L s=19
  ·rw [if_pos k_] at H
   simp only [Option.some.injEq,Prod.mk.injEq] at H
   obtain ⟨rfl,rfl⟩:=H
   rw [k_] at y0
   have c1:=HPc.out.c1.1
   have f1:=HPc.out.c1.2
   go_upto_region 17 with (fail)
   have hu:=sp_at HPc.out HL.out
   replace HPc:=mkA hu.1
   replace HFc:=mkA (HFc.out.trans hu.2)
   replace BK:=mkA (hu.2.blk BK.out NG.out NG.out)
   generalize World.setCell _ _ _=w_ at HPc HFc BK ⊢
   clear hu c1 f1 y0
   have y0:w_.cell? ⟨gk,0,none⟩=some (.int .i64 19):=by rw [← k_];exact (blk_cell BK.out 0).trans rfl
   have y1:w_.cell? ⟨gk,1,none⟩=some (.string (vl C.L s)):=(blk_cell BK.out 1).trans rfl
   clear k_
   go_wp2_with (first
    | (go_at_call 38;(with_reducible refine (made_walk (KidsA.nil (fun _=>True) _) (by simp) (by simp)).mono ?_);rintro e w_ ⟨v_,rfl,hN,hB⟩;have hA_:=hB;obtain ⟨AN1,cN1,rfl⟩:=hN.shape;have HX_:=mkA HFc.out.size;replace HPc:=mkA (HPc.out.below hA_);replace HFc:=mkA (HFc.out.step hA_);have N1:=mkA (NdA.weak hN (fun g h=>Nat.le_trans HX_.out h));clear hN hB hA_))
   go_ret
   exact ⟨_,rfl,N1.out,HPc.out,HFc.out⟩
  rw [if_neg k_] at H
  have p19:=(bnne k_).2
  clear k_
  by_cases k_:kd C.L s=15
  ·rw [if_pos k_] at H
   rw [k_] at y0
   by_cases hv:vl C.L s=bTrue
   ·rw [if_pos hv] at H
    simp only [Option.some.injEq,Prod.mk.injEq] at H
    obtain ⟨rfl,rfl⟩:=H
    have w1:=(w_yes hv).1
    have w2:=(w_yes hv).2
    clear hv
    have c1:=HPc.out.c1.1
    have f1:=HPc.out.c1.2
    go_upto_region 20 with (fail)
    have hu:=sp_at HPc.out HL.out
    replace HPc:=mkA hu.1
    replace HFc:=mkA (HFc.out.trans hu.2)
    replace BK:=mkA (hu.2.blk BK.out NG.out NG.out)
    generalize World.setCell _ _ _=w_ at HPc HFc BK ⊢
    clear hu c1 f1 y0
    have y1:w_.cell? ⟨gk,1,none⟩=some (.string (vl C.L s)):=(blk_cell BK.out 1).trans rfl
    clear k_
    go_wp2_with (first
     | (go_at_call 38;(with_reducible refine (made_walk (KidsA.nil (fun _=>True) _) (by simp) (by simp)).mono ?_);rintro e w_ ⟨v_,rfl,hN,hB⟩;have hA_:=hB;obtain ⟨AN1,cN1,rfl⟩:=hN.shape;have HX_:=mkA HFc.out.size;replace HPc:=mkA (HPc.out.below hA_);replace HFc:=mkA (HFc.out.step hA_);have N1:=mkA (NdA.weak hN (fun g h=>Nat.le_trans HX_.out h));clear hN hB hA_))
    go_ret
    exact ⟨_,rfl,N1.out,HPc.out,HFc.out⟩
   rw [if_neg hv] at H
   have w1a:=(w_no hv).1
   have w1b:=(w_no hv).2
   clear hv
   by_cases hv:vl C.L s=bFalse
   ·rw [if_pos hv] at H
    simp only [Option.some.injEq,Prod.mk.injEq] at H
    obtain ⟨rfl,rfl⟩:=H
    have w1:=(w_yes hv).1
    have w2:=(w_yes hv).2
    clear hv
    have c1:=HPc.out.c1.1
    have f1:=HPc.out.c1.2
    go_upto_region 20 with (fail)
    have hu:=sp_at HPc.out HL.out
    replace HPc:=mkA hu.1
    replace HFc:=mkA (HFc.out.trans hu.2)
    replace BK:=mkA (hu.2.blk BK.out NG.out NG.out)
    generalize World.setCell _ _ _=w_ at HPc HFc BK ⊢
    clear hu c1 f1 y0
    have y1:w_.cell? ⟨gk,1,none⟩=some (.string (vl C.L s)):=(blk_cell BK.out 1).trans rfl
    clear k_
    go_wp2_with (first
     | (go_at_call 38;(with_reducible refine (made_walk (KidsA.nil (fun _=>True) _) (by simp) (by simp)).mono ?_);rintro e w_ ⟨v_,rfl,hN,hB⟩;have hA_:=hB;obtain ⟨AN1,cN1,rfl⟩:=hN.shape;have HX_:=mkA HFc.out.size;replace HPc:=mkA (HPc.out.below hA_);replace HFc:=mkA (HFc.out.step hA_);have N1:=mkA (NdA.weak hN (fun g h=>Nat.le_trans HX_.out h));clear hN hB hA_))
    go_ret
    exact ⟨_,rfl,N1.out,HPc.out,HFc.out⟩
   rw [if_neg hv] at H
   have w2a:=(w_no hv).1
   have w2b:=(w_no hv).2
   clear hv
   by_cases hv:vl C.L s=bNull
   ·rw [if_pos hv] at H
    have e:(s.nx.unk true).fail=St.fail ⟨s.nx.a,s.nx.d,s.nx.bad,true⟩:=by unfold St.unk;rw [Bool.or_true]
    rw [e] at H
    simp only [Option.some.injEq,Prod.mk.injEq] at H
    obtain ⟨rfl,rfl⟩:=H
    clear e
    have w1:=(w_yes hv).1
    have w2:=(w_yes hv).2
    clear hv
    have c1:=HPc.out.c1.1
    have f1:=HPc.out.c1.2
    go_upto_region 20 with (fail)
    have hu:=sp_at HPc.out HL.out
    replace HPc:=mkA hu.1
    replace HFc:=mkA (HFc.out.trans hu.2)
    replace BK:=mkA (hu.2.blk BK.out NG.out NG.out)
    generalize World.setCell _ _ _=w_ at HPc HFc BK ⊢
    clear hu c1 f1 y0
    have y1:w_.cell? ⟨gk,1,none⟩=some (.string (vl C.L s)):=(blk_cell BK.out 1).trans rfl
    have c5:=HPc.out.c5.1
    have g5:=HPc.out.c5.2
    clear k_
    go_upto_region 27 with (fail)
    have hu:=sp_un HPc.out true
    replace HPc:=mkA hu.1
    replace HFc:=mkA (HFc.out.trans hu.2)
    generalize World.setCell _ _ _=w_ at HPc HFc ⊢
    clear hu c5 g5
    go_wp2_with (first
     | (go_at_call 76;have c_:=fail_walk HPc.out;(with_reducible refine c_.mono ?_);rintro e w_ ⟨rfl,hP,hF⟩;replace HPc:=mkA hP;replace HFc:=mkA (HFc.out.trans hF);clear hP hF))
    go_ret
    exact ⟨_,rfl,NdA.nil _ _,HPc.out,HFc.out⟩
   rw [if_neg hv] at H
   have w3a:=(w_no hv).1
   have w3b:=(w_no hv).2
   clear hv
   simp only [Option.some.injEq,Prod.mk.injEq] at H
   obtain ⟨rfl,rfl⟩:=H
   have c1:=HPc.out.c1.1
   have f1:=HPc.out.c1.2
   go_upto_region 20 with (fail)
   have hu:=sp_at HPc.out HL.out
   replace HPc:=mkA hu.1
   replace HFc:=mkA (HFc.out.trans hu.2)
   replace BK:=mkA (hu.2.blk BK.out NG.out NG.out)
   generalize World.setCell _ _ _=w_ at HPc HFc BK ⊢
   clear hu c1 f1 y0
   have y1:w_.cell? ⟨gk,1,none⟩=some (.string (vl C.L s)):=(blk_cell BK.out 1).trans rfl
   clear k_
   go_wp2_with (first
    | (go_at_call 38;(with_reducible refine (made_walk (KidsA.nil (fun _=>True) _) (by simp) (by simp)).mono ?_);rintro e w_ ⟨v_,rfl,hN,hB⟩;have hA_:=hB;obtain ⟨AN1,cN1,rfl⟩:=hN.shape;have HX_:=mkA HFc.out.size;replace HPc:=mkA (HPc.out.below hA_);replace HFc:=mkA (HFc.out.step hA_);have N1:=mkA (NdA.weak hN (fun g h=>Nat.le_trans HX_.out h));clear hN hB hA_))
   go_ret
   exact ⟨_,rfl,N1.out,HPc.out,HFc.out⟩
  rw [if_neg k_] at H
  have p15:=(bnne k_).2
  clear k_
  by_cases k_:kd C.L s=10
  ·rw [if_pos k_] at H
   rw [k_] at y0
   obtain ⟨z,hz,hz2⟩:=Option.bind_eq_some_iff.1 H
   obtain ⟨z1,z2⟩:=z
   simp only [Option.some.injEq,Prod.mk.injEq] at hz2
   obtain ⟨hr1,rfl⟩:=hz2
   have HZ:=mkA hz
   have HR1:=mkA hr1
   have HZL:=mkA (show z1.length≤900000 by have h1:=HR.out;rw [← hr1,nd_len] at h1;omega)
   clear H hz hr1 k_
   have c1:=HPc.out.c1.1
   have f1:=HPc.out.c1.2
   go_upto_region 31 with (fail)
   have hu:=sp_at HPc.out HL.out
   replace HPc:=mkA hu.1
   replace HFc:=mkA (HFc.out.trans hu.2)
   replace BK:=mkA (hu.2.blk BK.out NG.out NG.out)
   generalize World.setCell _ _ _=w_ at HPc HFc BK ⊢
   clear hu c1 f1 y0 HL NG BK
   go_wp2
   go_loopg [6] n (fun gk_ v6 wr=>∃ (kss:List (List Row)) (st:St) (rest:List Row),Aside0 (loopF C.L rec 11 gk_ st=some (rest,z2))∧Aside0 (kss.flatten++rest=z1)∧Aside0 (KidsA (from_ w.heap.size) wr kss v6)∧Aside0 (SP C wr st)∧Aside0 (Fr C.gp C.gp w wr)∧Aside0 (kss.length+gk_≤n))
   case atStart=>exact ⟨[],s.nx,z1,HZ,⟨rfl⟩,⟨KidsA.nil _ _⟩,HPc,HFc,⟨by simp⟩⟩
   case round =>
   obtain ⟨kss,st,rest,HLo,HCat,K1,HPr,HFw,HNn⟩:=hrel
   clear HPc HFc HZ
   have HPc:=HPr
   have HFc:=HFw
   clear HPr HFw
   cases gk with
   | zero=>exact absurd HLo.out (fun h=>by cases h)
   | succ k1 =>
     have hlo:=HLo.out
     unfold loopF at hlo
     clear HLo
     by_cases hb:st.bad=true
     ·rw [if_pos hb] at hlo
      simp only [Option.some.injEq,Prod.mk.injEq] at hlo
      obtain ⟨rfl,rfl⟩:=hlo
      have c4:=HPc.out.c4
      rw [hb] at c4
      clear hb
      generalize hw_:wr=w_ at *
      clear hw_
      obtain ⟨Au,nu,cu,hu_⟩:=K1.out.sl
      subst hu_
      have hfl:kss.flatten=z1:=by have h:=HCat.out;rw [List.append_nil] at h;exact h
      have HE:=mkA (show nd 17 e0 e0 e0 0 kss.flatten=r by rw [hfl];exact HR1.out)
      have HBD:=mkA (show kss.flatten.length≤900000 by rw [hfl];exact HZL.out)
      have HBN:=mkA (show kss.length≤1000000 by have:=HNn.out;have:=HNB.out;omega)
      clear hfl
      go_wp2_with (first
       | (go_at_call 38;(with_reducible refine (made_walk (K1.out) HBD.out HBN.out).mono ?_);rintro e w_ ⟨v_,rfl,hN,hB⟩;rw [HE.out] at hN;have hA_:=hB;obtain ⟨AN1,cN1,rfl⟩:=hN.shape;have HX_:=mkA HFc.out.size;replace HPc:=mkA (HPc.out.below hA_);replace HFc:=mkA (HFc.out.step hA_);have N1:=mkA (NdA.weak hN (fun g h=>Nat.le_trans HX_.out h));clear hN hB hA_))
      go_ret
      exact ⟨_,rfl,N1.out,HPc.out,HFc.out⟩
     ·rw [if_neg hb] at hlo
      have c4:=HPc.out.c4
      rw [show st.bad=false from by cases e:st.bad with | false=>rfl | true=>exact absurd e hb] at c4
      clear hb
      generalize hw_:wr=w_ at *
      clear hw_
      rcases et:takenF C.L 11 st with ⟨b,s3⟩
      rw [et] at hlo
      have ET:=mkA et
      clear et
      have HBN:=mkA (show kss.length≤1000000 by have:=HNn.out;have:=HNB.out;omega)
      cases b
      ·obtain ⟨x,hx,hy⟩:=Option.bind_eq_some_iff.1 hlo
       obtain ⟨y,hy1,hy2⟩:=Option.bind_eq_some_iff.1 hy
       obtain ⟨x1,s4⟩:=x
       obtain ⟨y1,s5⟩:=y
       simp only [Option.some.injEq,Prod.mk.injEq] at hy2
       obtain ⟨rfl,rfl⟩:=hy2
       have HX:=mkA hx
       have HY:=mkA hy1
       have HXR:=mkA (show x1.length≤900000 by have h1:=congrArg List.length HCat.out;simp only [List.length_append] at h1;have:=HZL.out;omega)
       clear hlo hx hy hy1
       go_wp2_with (first
        | (go_at_call 37;have c_:=taken_walk HPc.out 11 (by decide);rw [ET.out] at c_;(with_reducible refine c_.mono ?_);rintro e w_ ⟨rfl,hP,hF⟩;replace HPc:=mkA hP;replace HFc:=mkA (HFc.out.trans hF);replace K1:=mkA (KidsA.fr K1.out (hF.keeps GP.out GP.out (Nat.le_refl _)));clear hP hF)
        | (go_at_call 18;have c_:=IH.out HPc.out HX.out HXR.out;(with_reducible refine c_.mono ?_);rintro e w_ ⟨v_,rfl,hN,hP,hF⟩;obtain ⟨AN1,cN1,rfl⟩:=hN.shape;have HX_:=mkA HFc.out.size;replace HPc:=mkA hP;replace HFc:=mkA (HFc.out.trans hF);replace K1:=mkA (KidsA.fr K1.out (hF.keeps GP.out GP.out (Nat.le_refl _)));have N1:=mkA (NdA.weak hN (fun g h=>Nat.le_trans HX_.out h));clear hN hP hF;obtain ⟨xs,hO_,hB_,hM_⟩:=K1.out;have HO:=mkA (own_up hO_ hB_);have HKl:=mkA hM_;have HXL:=mkA (show xs.length≤1000000 by rw [← hM_.len];exact HBN.out);clear hO_ hB_ hM_)
        | (at_builtin;refine print_append (w0:=w_) w.heap.size rfl (.tmp 133) (.tmp 137) 106 25 (.slice none 0 0) 24 rfl Tryz.underlying106 info25' rfl (by decide) u6 xs (.slice AN1 x1.length cN1) rfl rfl rfl HO.out (Below.refl _ _) HFc.out.size (by have:=HXL.out;omega) ?_;intro v6 w6 ho hb hg hat;have HO6:=mkA ho;have HG6:=mkA hg;clear ho hb hg hat))
       go_roundg k1
       case measure=>omega
       case rel=>exact ⟨kss++[x1],s4,y1,HY,⟨by rw [← HCat.out];simp⟩,⟨xs++[.slice AN1 x1.length cN1],own_less HO6.out (Nat.zero_le _),fun b hb=>(World.ownsRow.lt HO6.out b hb).1,Kl.snoc (HKl.out.mono fun r v h=>h.grown HO.out HG6.out) (N1.out.grown HO.out HG6.out)⟩,⟨HPc.out.grown HO.out (.inl rfl) HG6.out⟩,⟨fr_grown HFc.out HG6.out (fun b hb=>(World.ownsRow.lt HO.out b hb).1)⟩,⟨by have:=HNn.out;simp;omega⟩⟩
      ·simp only [Option.some.injEq,Prod.mk.injEq] at hlo
       obtain ⟨rfl,rfl⟩:=hlo
       obtain ⟨Au,nu,cu,hu_⟩:=K1.out.sl
       subst hu_
       have hfl:kss.flatten=z1:=by have h:=HCat.out;rw [List.append_nil] at h;exact h
       have HE:=mkA (show nd 17 e0 e0 e0 0 kss.flatten=r by rw [hfl];exact HR1.out)
       have HBD:=mkA (show kss.flatten.length≤900000 by rw [hfl];exact HZL.out)
       clear hfl
       go_wp2_with (first
        | (go_at_call 37;have c_:=taken_walk HPc.out 11 (by decide);rw [ET.out] at c_;(with_reducible refine c_.mono ?_);rintro e w_ ⟨rfl,hP,hF⟩;replace HPc:=mkA hP;replace HFc:=mkA (HFc.out.trans hF);replace K1:=mkA (KidsA.fr K1.out (hF.keeps GP.out GP.out (Nat.le_refl _)));clear hP hF)
        | (go_at_call 38;(with_reducible refine (made_walk (K1.out) HBD.out HBN.out).mono ?_);rintro e w_ ⟨v_,rfl,hN,hB⟩;rw [HE.out] at hN;have hA_:=hB;obtain ⟨AN1,cN1,rfl⟩:=hN.shape;have HX_:=mkA HFc.out.size;replace HPc:=mkA (HPc.out.below hA_);replace HFc:=mkA (HFc.out.step hA_);have N1:=mkA (NdA.weak hN (fun g h=>Nat.le_trans HX_.out h));clear hN hB hA_))
       go_ret
       exact ⟨_,rfl,N1.out,HPc.out,HFc.out⟩
  rw [if_neg k_] at H
  have p10:=(bnne k_).2
  clear k_
  by_cases k_:kd C.L s=12
  ·rw [if_pos k_] at H
   rw [k_] at y0
   obtain ⟨z,hz,hz2⟩:=Option.bind_eq_some_iff.1 H
   obtain ⟨z1,z2⟩:=z
   simp only [Option.some.injEq,Prod.mk.injEq] at hz2
   obtain ⟨hr1,rfl⟩:=hz2
   have HZ:=mkA hz
   have HR1:=mkA hr1
   have HZL:=mkA (show z1.length≤900000 by have h1:=HR.out;rw [← hr1,nd_len] at h1;omega)
   clear H hz hr1 k_
   have c1:=HPc.out.c1.1
   have f1:=HPc.out.c1.2
   go_upto_region 37 with (fail)
   have hu:=sp_at HPc.out HL.out
   replace HPc:=mkA hu.1
   replace HFc:=mkA (HFc.out.trans hu.2)
   replace BK:=mkA (hu.2.blk BK.out NG.out NG.out)
   generalize World.setCell _ _ _=w_ at HPc HFc BK ⊢
   clear hu c1 f1 y0 HL NG BK
   go_wp2
   go_loopg [7] n (fun gk_ v7 wr=>∃ (kss:List (List Row)) (st:St) (rest:List Row),Aside0 (loopF C.L (nvF C.L 19 rec) 14 gk_ st=some (rest,z2))∧Aside0 (kss.flatten++rest=z1)∧Aside0 (KidsA (from_ w.heap.size) wr kss v7)∧Aside0 (SP C wr st)∧Aside0 (Fr C.gp C.gp w wr)∧Aside0 (kss.length+gk_≤n))
   case atStart=>exact ⟨[],s.nx,z1,HZ,⟨rfl⟩,⟨KidsA.nil _ _⟩,HPc,HFc,⟨by simp⟩⟩
   case round =>
   obtain ⟨kss,st,rest,HLo,HCat,K1,HPr,HFw,HNn⟩:=hrel
   clear HPc HFc HZ
   have HPc:=HPr
   have HFc:=HFw
   clear HPr HFw
   cases gk with
   | zero=>exact absurd HLo.out (fun h=>by cases h)
   | succ k1 =>
     have hlo:=HLo.out
     unfold loopF at hlo
     clear HLo
     by_cases hb:st.bad=true
     ·rw [if_pos hb] at hlo
      simp only [Option.some.injEq,Prod.mk.injEq] at hlo
      obtain ⟨rfl,rfl⟩:=hlo
      have c4:=HPc.out.c4
      rw [hb] at c4
      clear hb
      generalize hw_:wr=w_ at *
      clear hw_
      obtain ⟨Au,nu,cu,hu_⟩:=K1.out.sl
      subst hu_
      have hfl:kss.flatten=z1:=by have h:=HCat.out;rw [List.append_nil] at h;exact h
      have HE:=mkA (show nd 18 e0 e0 e0 0 kss.flatten=r by rw [hfl];exact HR1.out)
      have HBD:=mkA (show kss.flatten.length≤900000 by rw [hfl];exact HZL.out)
      have HBN:=mkA (show kss.length≤1000000 by have:=HNn.out;have:=HNB.out;omega)
      clear hfl
      go_wp2_with (first
       | (go_at_call 38;(with_reducible refine (made_walk (K1.out) HBD.out HBN.out).mono ?_);rintro e w_ ⟨v_,rfl,hN,hB⟩;rw [HE.out] at hN;have hA_:=hB;obtain ⟨AN1,cN1,rfl⟩:=hN.shape;have HX_:=mkA HFc.out.size;replace HPc:=mkA (HPc.out.below hA_);replace HFc:=mkA (HFc.out.step hA_);have N1:=mkA (NdA.weak hN (fun g h=>Nat.le_trans HX_.out h));clear hN hB hA_))
      go_ret
      exact ⟨_,rfl,N1.out,HPc.out,HFc.out⟩
     ·rw [if_neg hb] at hlo
      have c4:=HPc.out.c4
      rw [show st.bad=false from by cases e:st.bad with | false=>rfl | true=>exact absurd e hb] at c4
      clear hb
      generalize hw_:wr=w_ at *
      clear hw_
      rcases et:takenF C.L 14 st with ⟨b,s3⟩
      rw [et] at hlo
      have ET:=mkA et
      clear et
      have HBN:=mkA (show kss.length≤1000000 by have:=HNn.out;have:=HNB.out;omega)
      cases b
      ·obtain ⟨x,hx,hy⟩:=Option.bind_eq_some_iff.1 hlo
       obtain ⟨y,hy1,hy2⟩:=Option.bind_eq_some_iff.1 hy
       obtain ⟨x1,s4⟩:=x
       obtain ⟨y1,s5⟩:=y
       simp only [Option.some.injEq,Prod.mk.injEq] at hy2
       obtain ⟨rfl,rfl⟩:=hy2
       have HX:=mkA hx
       have HY:=mkA hy1
       have HXR:=mkA (show x1.length≤900000 by have h1:=congrArg List.length HCat.out;simp only [List.length_append] at h1;have:=HZL.out;omega)
       clear hlo hx hy hy1
       have hv0:=HX.out
       unfold nvF at hv0
       obtain ⟨v,hv,hv2⟩:=Option.bind_eq_some_iff.1 hv0
       obtain ⟨v1,s6⟩:=v
       simp only [Option.some.injEq,Prod.mk.injEq] at hv2
       obtain ⟨hx1,hs4⟩:=hv2
       have HV:=mkA hv
       have HS4:=mkA hs4
       have HE2:=mkA (show nd 19 (nameF C.L s3).1 e0 e0 0 [v1].flatten=x1 by rw [← hx1];simp)
       have HVR:=mkA (show v1.length≤900000 by have h1:=HXR.out;rw [← hx1,nd_len] at h1;omega)
       clear hv0 hv hx1 hs4
       go_upto_region 40 with (first
        | (go_at_call 37;have c_:=taken_walk HPc.out 14 (by decide);rw [ET.out] at c_;(with_reducible refine c_.mono ?_);rintro e w_ ⟨rfl,hP,hF⟩;replace HPc:=mkA hP;replace HFc:=mkA (HFc.out.trans hF);replace K1:=mkA (KidsA.fr K1.out (hF.keeps GP.out GP.out (Nat.le_refl _)));clear hP hF)
        | (go_at_call 40;have c_:=name_walk HPc.out;(with_reducible refine c_.mono ?_);rintro e w_ ⟨rfl,hP,hF⟩;replace HPc:=mkA hP;replace HFc:=mkA (HFc.out.trans hF);replace K1:=mkA (KidsA.fr K1.out (hF.keeps GP.out GP.out (Nat.le_refl _)));clear hP hF))
       replace HPc:=mkA (HPc.out.below (below_alloc (Below.refl _ _) (.cells #[.int .i64 19,.string (nameF C.L s3).1,.string ⟨#[]⟩,.string ⟨#[]⟩,.int .i64 0,.int .i64 0] 55)))
       replace HFc:=mkA (HFc.out.step (below_alloc (Below.refl _ _) (.cells #[.int .i64 19,.string (nameF C.L s3).1,.string ⟨#[]⟩,.string ⟨#[]⟩,.int .i64 0,.int .i64 0] 55)))
       replace K1:=mkA (KidsA.fr K1.out (keeps_below (below_alloc (Below.refl _ _) (.cells #[.int .i64 19,.string (nameF C.L s3).1,.string ⟨#[]⟩,.string ⟨#[]⟩,.int .i64 0,.int .i64 0] 55)) (fun g h=>h)))
       have n4_:=mkA (heap_alloc_new w_ (.cells #[.int .i64 19,.string (nameF C.L s3).1,.string ⟨#[]⟩,.string ⟨#[]⟩,.int .i64 0,.int .i64 0] 55))
       generalize w_.heap.size=gb at n4_ ⊢
       generalize World.alloc _ _=w_ at HPc HFc K1 n4_ ⊢
       have BX:=n4_
       clear n4_
       have NGB:=mkA (show gb≠C.gp from by obtain ⟨wr,hc⟩:=HPc.out.cell;exact blk_ne BX.out hc (by decide))
       go_upto_region 41 with (first
        | (go_at_call 39;have c_:=must_walk HPc.out 7 (by decide);(with_reducible refine c_.mono ?_);rintro e w_ ⟨rfl,hP,hF⟩;replace HPc:=mkA hP;replace HFc:=mkA (HFc.out.trans hF);replace K1:=mkA (KidsA.fr K1.out (hF.keeps GP.out GP.out (Nat.le_refl _)));replace BX:=mkA (hF.blk BX.out NGB.out NGB.out);clear hP hF))
       have SK:∀ u:World,u.heap[gb]?=some (.cells #[.int .i64 19,.string (nameF C.L s3).1,.string ⟨#[]⟩,.string ⟨#[]⟩,.int .i64 0,.int .i64 0] 55 (0,0))→(u.cell? ⟨gb,0,none⟩=some (.int .i64 19)∧u.cell? ⟨gb,1,none⟩=some (.string (nameF C.L s3).1)∧u.cell? ⟨gb,2,none⟩=some (.string ⟨#[]⟩)∧u.cell? ⟨gb,3,none⟩=some (.string ⟨#[]⟩)∧u.cell? ⟨gb,4,none⟩=some (.int .i64 0)∧u.cell? ⟨gb,5,none⟩=some (.int .i64 0)):=fun u hu=>⟨(blk_cell hu 0).trans rfl,(blk_cell hu 1).trans rfl,(blk_cell hu 2).trans rfl,(blk_cell hu 3).trans rfl,(blk_cell hu 4).trans rfl,(blk_cell hu 5).trans rfl⟩
       obtain ⟨xs,hO_,hB_,hM_⟩:=K1.out
       have HO:=mkA (own_up hO_ hB_)
       have HKl:=mkA hM_
       have HXL:=mkA (show xs.length≤1000000 by rw [← hM_.len];exact HBN.out)
       clear hO_ hB_ hM_
       obtain ⟨i0,hi,hz0,hz1,hz2⟩:=inf_parts info25'
       have HBA:=mkA HFc.out.size
       have hS0:=SK w_ BX.out
       go_region_held3 (fun u=>u.cell? ⟨gb,0,none⟩=some (.int .i64 19)∧u.cell? ⟨gb,1,none⟩=some (.string (nameF C.L s3).1)∧u.cell? ⟨gb,2,none⟩=some (.string ⟨#[]⟩)∧u.cell? ⟨gb,3,none⟩=some (.string ⟨#[]⟩)∧u.cell? ⟨gb,4,none⟩=some (.int .i64 0)∧u.cell? ⟨gb,5,none⟩=some (.int .i64 0)) (first | exact hS9 | exact hS8 | exact hS7 | exact hS6 | exact hS5 | exact hS0 | fail) (first | (go_at_call 18;(first | refine (IH.out (HPc.out.below (below_drew1 (Below.refl _ _))) HV.out HVR.out).mono ?_ | refine (IH.out HPc.out HV.out HVR.out).mono ?_);rintro e w5 ⟨v_,rfl,hN,hP,hF⟩;obtain ⟨AN1,cN1,rfl⟩:=hN.shape;have bx5:=mkA (hF.blk BX.out NGB.out NGB.out);have hS5:=SK w5 bx5.out;have bx6:=mkA (blk_below bx5.out (below_alloc (Below.refl _ _) (.cells #[.slice AN1 v1.length cN1] 25)));have hS6:=SK _ bx6.out;have N1:=mkA hN;have P5:=mkA hP;have F5:=mkA (show Fr C.gp C.gp w_ w5 from by first | exact ((Fr.refl C.gp C.gp w_).drew).trans hF | exact hF);clear hN hP hF) | (go_at_call 38;refine (made_walk (kids_new (n:=1) (w:=w5) (.cons N1.out .nil) rfl) (by have:=HVR.out;simp;omega) (by simp)).mono ?_;rintro e w7 ⟨v_,rfl,hN,hB⟩;rw [HE2.out] at hN;obtain ⟨AN2,cN2,rfl⟩:=hN.shape;have B7:=mkA (below_step (below_alloc (Below.refl w5.heap.size w5) _) hB);have bx7:=mkA (blk_below bx5.out B7.out);have hS7:=SK w7 bx7.out;have bx8:=mkA (blk_below bx7.out (below_alloc (Below.refl _ _) (.cells #[.slice AN2 x1.length cN2] 25)));have hS8:=SK _ bx8.out;have N2:=mkA hN;have O7:=mkA (own_typ (own_fr HO.out (by decide) HPc.out F5.out) (fun g cs x=>blk_below x B7.out));have F7:=mkA ((HFc.out.trans F5.out).step B7.out);have NEW:=mkA (World.news_of_block (heap_alloc_new w7 (.cells #[.slice AN2 x1.length cN2] 25)));have H1:=mkA (show ∀ u ∈ [Value.slice AN2 x1.length cN2],u.oneCell'=true by intro u hu;simp only [List.mem_cons,List.not_mem_nil,or_false] at hu;rw [hu];rfl);clear hN hB) | (refine step_append_lies _ (by rfl) (.tmp 166) (.tmp 173) 106 (by rfl) w.heap.size 25 i0 (.slice none 0 0) 1 24 Tryz.underlying106 hi hz0 hz1 hz2 (by rfl) (by omega) u7 xs.length xs (by rfl) (own_alloc O7.out _) ⟨w7.heap.size,0,none⟩ 1 1 [.slice AN2 x1.length cN2] (by rfl) (by rfl) NEW.out H1.out (by omega) (by unfold maxLen;have:=HXL.out;omega) (by have:=HXL.out;omega) (by have:=F7.out.size;simp at this ⊢;omega) _ rfl ?_;intro gd cap w9 hown hgrow hat hlt;have HO9:=mkA hown;have HG9:=mkA hgrow;have bx9:=mkA (grown_typ (own_alloc O7.out _) hgrow bx8.out (by decide));have hS9:=SK w9 bx9.out;clear hown hgrow hat hlt) | fail)
       all_goals (try go_wp2)
       have A8:=mkA (below_alloc (Below.refl w7.heap.size w7) (.cells #[.slice AN2 x1.length cN2] 25))
       have HO6:=mkA (show w9.ownsRow w.heap.size 25 1 (.slice (some ⟨gd,0,none⟩) (xs.length+1) cap) (xs++[Value.slice AN2 x1.length cN2]).length (xs++[Value.slice AN2 x1.length cN2]) by rw [List.length_append];exact HO9.out)
       have n1_:=mkA ((P5.out.below B7.out).below A8.out)
       rw [HS4.out] at n1_
       have n2_:=mkA (F7.out.step A8.out)
       have n3_:=mkA (((HKl.out.mono fun r v h=>h.fr (F5.out.keeps GP.out GP.out (Nat.le_refl _))).mono fun r v h=>NdA.fr h (keeps_below B7.out (fun g h=>h))).mono fun r v h=>NdA.fr h (keeps_below A8.out (fun g h=>h)))
       have n4_:=mkA (NdA.fr (NdA.weak (ok':=from_ w.heap.size) N2.out (fun g h=>Nat.le_trans (Nat.le_trans (HFc.out.trans F5.out).size (by rw [World.size_alloc];exact Nat.le_succ _)) h)) (keeps_below A8.out (fun g h=>h)))
       have n5_:=mkA (own_alloc O7.out (.cells #[.slice AN2 x1.length cN2] 25))
       clear HPc HFc HKl N2 HO
       have HPc:=n1_
       have HFc:=n2_
       have HKl:=n3_
       have N2:=n4_
       have HO:=n5_
       have HG6:=HG9
       clear n1_ n2_ n3_ n4_ n5_
       go_roundg k1
       case measure=>omega
       case rel=>exact ⟨kss++[x1],s4,y1,HY,⟨by rw [← HCat.out];simp⟩,⟨xs++[.slice AN2 x1.length cN2],own_less HO6.out (Nat.zero_le _),fun b hb=>(World.ownsRow.lt HO6.out b hb).1,Kl.snoc (HKl.out.mono fun r v h=>h.grown HO.out HG6.out) (N2.out.grown HO.out HG6.out)⟩,⟨HPc.out.grown HO.out (.inl rfl) HG6.out⟩,⟨fr_grown HFc.out HG6.out (fun b hb=>(World.ownsRow.lt HO.out b hb).1)⟩,⟨by have:=HNn.out;simp;omega⟩⟩
      ·simp only [Option.some.injEq,Prod.mk.injEq] at hlo
       obtain ⟨rfl,rfl⟩:=hlo
       obtain ⟨Au,nu,cu,hu_⟩:=K1.out.sl
       subst hu_
       have hfl:kss.flatten=z1:=by have h:=HCat.out;rw [List.append_nil] at h;exact h
       have HE:=mkA (show nd 18 e0 e0 e0 0 kss.flatten=r by rw [hfl];exact HR1.out)
       have HBD:=mkA (show kss.flatten.length≤900000 by rw [hfl];exact HZL.out)
       clear hfl
       go_wp2_with (first
        | (go_at_call 37;have c_:=taken_walk HPc.out 14 (by decide);rw [ET.out] at c_;(with_reducible refine c_.mono ?_);rintro e w_ ⟨rfl,hP,hF⟩;replace HPc:=mkA hP;replace HFc:=mkA (HFc.out.trans hF);replace K1:=mkA (KidsA.fr K1.out (hF.keeps GP.out GP.out (Nat.le_refl _)));clear hP hF)
        | (go_at_call 38;(with_reducible refine (made_walk (K1.out) HBD.out HBN.out).mono ?_);rintro e w_ ⟨v_,rfl,hN,hB⟩;rw [HE.out] at hN;have hA_:=hB;obtain ⟨AN1,cN1,rfl⟩:=hN.shape;have HX_:=mkA HFc.out.size;replace HPc:=mkA (HPc.out.below hA_);replace HFc:=mkA (HFc.out.step hA_);have N1:=mkA (NdA.weak hN (fun g h=>Nat.le_trans HX_.out h));clear hN hB hA_))
       go_ret
       exact ⟨_,rfl,N1.out,HPc.out,HFc.out⟩
  rw [if_neg k_] at H
  have p12:=(bnne k_).2
  clear k_
  simp only [Option.some.injEq,Prod.mk.injEq] at H
  obtain ⟨rfl,rfl⟩:=H
  go_wp2_with (first
   | (go_at_call 76;have c_:=fail_walk HPc.out;(with_reducible refine c_.mono ?_);rintro e w_ ⟨rfl,hP,hF⟩;replace HPc:=mkA hP;replace HFc:=mkA (HFc.out.trans hF);clear hP hF))
  go_ret
  exact ⟨_,rfl,NdA.nil _ _,HPc.out,HFc.out⟩
theorem value_walk {C:SC} (c:Bool):∀ f,f≤1000000→RecW C 18 #[ptr C.gp,.bool c] (valueF C.L c f):=by
 intro f
 induction f with
 | zero=>intro _ w s r s' h H hr;cases H
 | succ f ih =>
 intro hf w s r s' h H hr
 have IH:=mkA (@here_walk C c _ (ih (by omega)) f (by omega))
 have CE:=mkA (enter_walk h)
 have HPc:=mkA h
 have HFc:=mkA (Fr.refl C.gp C.gp w)
 have GP:=mkA h.gp
 have HR:=mkA hr
 clear h ih hr hf
 unfold valueF at H
 generalize enterF s=s1 at H CE
 cases hb:s1.bad with
 | true =>
   rw [if_pos hb] at H
   simp only [Option.some.injEq,Prod.mk.injEq] at H
   obtain ⟨rfl,rfl⟩:=H
   rw [hb] at CE
   clear hb
   go_enter Tryz.func18,Tryz.ntmps18
   go_wp2_with (first
    | (go_at_call 35;have c_:=CE.out;(with_reducible refine c_.mono ?_);rintro e w_ ⟨rfl,hP,hF⟩;replace HPc:=mkA hP;replace HFc:=mkA (HFc.out.trans hF);clear hP hF))
   go_ret
   exact ⟨_,rfl,NdA.nil _ _,HPc.out,HFc.out⟩
 | false =>
   rw [if_neg (by rw [hb];exact fun h=>by cases h)] at H
   rw [hb] at CE
   obtain ⟨x,hx,hx2⟩:=Option.bind_eq_some_iff.1 H
   obtain ⟨x1,s2⟩:=x
   simp only [Option.some.injEq,Prod.mk.injEq] at hx2
   obtain ⟨rfl,rfl⟩:=hx2
   have HX:=mkA hx
   clear H hx hb
   go_enter Tryz.func18,Tryz.ntmps18
   go_wp2_with (first
    | (go_at_call 35;have c_:=CE.out;(with_reducible refine c_.mono ?_);rintro e w_ ⟨rfl,hP,hF⟩;replace HPc:=mkA hP;replace HFc:=mkA (HFc.out.trans hF);clear hP hF)
    | (go_at_call 42;have c_:=IH.out HPc.out HX.out HR.out;(with_reducible refine c_.mono ?_);rintro e w_ ⟨v_,rfl,hN,hP,hF⟩;obtain ⟨AN1,cN1,rfl⟩:=hN.shape;have HX_:=mkA HFc.out.size;replace HPc:=mkA hP;replace HFc:=mkA (HFc.out.trans hF);have N1:=mkA (NdA.weak hN (fun g h=>Nat.le_trans HX_.out h));clear hN hP hF)
    | (go_at_call 41;have c_:=leave_walk HPc.out;(with_reducible refine c_.mono ?_);rintro e w_ ⟨rfl,hP,hF⟩;replace HPc:=mkA hP;replace HFc:=mkA (HFc.out.trans hF);replace N1:=mkA (NdA.fr N1.out (hF.keeps GP.out GP.out (Nat.le_refl _)));clear hP hF))
   go_ret
   exact ⟨_,rfl,N1.out,HPc.out,HFc.out⟩
end Go.Proofs.YthgcghpcikbnkaaGreatDoor.R
