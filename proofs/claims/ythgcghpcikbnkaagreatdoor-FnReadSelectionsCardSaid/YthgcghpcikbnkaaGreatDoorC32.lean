/- A part of the proof of the theorem of this claim: Lxo, Lxl. No condition of its own. -/
import Derived.Test.YthgcghpcikbnkaaGreatDoorC31
set_option maxHeartbeats 16000000
set_option maxRecDepth 100000
namespace Go.Proofs.YthgcghpcikbnkaaGreatDoor.R
open Go.RowKit Go.Proofs.YthgcghpcikbnkaaGreatDoorW.PrintWords Go.Proofs.YthgcghpcikbnkaaGreatDoorW.PrintLast Go.Proofs.YthgcghpcikbnkaaGreatDoorW.PrintMore
set_option linter.unusedVariables false
set_option linter.unusedSimpArgs false
theorem ln_below {C:LC} {t:LS} {w u:World} (h:LX C w t) (hu:Below w.heap.size w u) {e:Ending} {w':World} (q:LN C t u e w'):LN C t w e w':=by
 obtain ⟨h1,t',h2,h3,h4⟩:=q
 refine ⟨h1,t',h2,(bel_le hu ?_).trans h3,h4⟩
 obtain ⟨A,cp,hc,_⟩:=h.cell
 exact Nat.le_trans h.lo (Nat.le_of_lt (blk_lt hc))
theorem ln_of {C:LC} {t:LS} {w:World} {e:Ending} {w':World} (hs:Sc C.s false t.a=some t.a) (ha:t.a < C.s.size) (q:LP BVal C t w e w'):LN C t w e w':=by
 obtain ⟨h1,t',h2,h3,h4⟩:=q
 exact ⟨h1,t',h2,h3,tn_of h4 hs ha⟩
theorem ln_add {C:LC} {t:LS} {w:World} {e:Ending} {w':World} {k:Int} {z:Nat} {v:ByteArray} (hb:t.bad=false) (hs:Sc C.s false t.a=some t.a) (ha:t.a < C.s.size) (hz:t.a < z) (hk:Tok BVal C.s t.a ⟨k,t.a,z,v⟩ z) (q:e=.returned (.tuple #[])∧LX C w' ⟨z,t.out++[⟨k,t.a,z,v⟩],t.bad,t.un⟩∧Below C.B w w'):LN C t w e w' :=
 ⟨q.1,_,q.2.1,q.2.2,tn_of ⟨fun x=>x,Nat.le_of_lt hz,.inr hz,.inr (.inr ⟨hb,_,hk,rfl⟩)⟩ hs ha⟩
theorem ln_bad {C:LC} {t:LS} {w:World} {e:Ending} {w':World} (hs:Sc C.s false t.a=some t.a) (ha:t.a < C.s.size) (hk:TokBad C.s t.a) (q:e=.returned (.tuple #[])∧LX C w' ⟨t.a,t.out,true,t.un⟩∧Below C.B w w'):LN C t w e w' :=
 ⟨q.1,_,q.2.1,q.2.2,tn_of ⟨fun x=>x,Nat.le_refl _,.inl rfl,.inr (.inl ⟨rfl,rfl,hk⟩)⟩ hs ha⟩
theorem ln_skip {C:LC} {t:LS} {w w':World} (h:LX C w t) {u:World} (hu:Below w.heap.size w u) (hb:t.bad=false) (z:Nat) (hz:t.a < z∧z≤C.s.size) (hs:Sc C.s false t.a=Sc C.s false z) (hw:w'=u.setCell ⟨C.gx,1,none⟩ (.int .i64 z)):LN C t w (.returned (.tuple #[])) w':=by
 have q:=(h.below hu).go z (Nat.le_of_lt hz.1) hz.2
 rw [← hw] at q
 exact ln_below h hu ⟨rfl,_,q.1,q.2,tn_skip (fun x=>x) hz.1 (.inr ⟨hb,rfl,hs⟩)⟩
theorem ln_bom {C:LC} {t:LS} {w w':World} (h:LX C w t) {u:World} (hu:Below w.heap.size w u) (z:Nat) (hz:t.a < z∧z≤C.s.size) (hw:w'=(u.setCell ⟨C.gx,4,none⟩ (.bool true)).setCell ⟨C.gx,1,none⟩ (.int .i64 z)):LN C t w (.returned (.tuple #[])) w':=by
 have q0:=(h.below hu).un true
 have q:=q0.1.go z (Nat.le_of_lt hz.1) hz.2
 rw [← hw] at q
 exact ln_below h hu ⟨rfl,_,q.1,q0.2.trans q.2,tn_skip (fun _=>rfl) hz.1 (.inl rfl)⟩
theorem ite_nn {p:Prop} [Decidable p] {a b:Int} (ha:0≤a) (hb:0≤b):0≤(if p then a else b):=by split <;> assumption
theorem sg_nn (c:Int):0≤sg c:=by
 unfold sg
 repeat (refine ite_nn (by decide) ?_)
 decide
theorem nm_end {s:ByteArray} {a p:Nat} (h:nm s p=nm s a) (hn:isN (nx s p)=false):nm s a=p:=by rw [← h,nm_no s p hn]
theorem isn_of (c:Int):isN c=(isB c || isD c):=rfl
theorem token_walk (HK:BlkH) {C:LC} {w:World} {t:LS} (h:LX C w t) (hb:t.bad=false) (ha:t.a < C.s.size):Calls Tryz.prog 34 #[ptr C.gx] w (LN C t w):=by
 have HP:=mkA h
 have SZ:=mkA h.sz
 have HA:=mkA ha
 have HB:=mkA hb
 have HKK:=mkA HK
 have c0:=h.c.1
 have c1:=h.c.2.1
 have c4:=h.c.2.2.2
 have f1:=h.fz 1
 have f4:=h.fz 4
 have q1:((t.a:Int) < (C.s.size:Int))=True:=eq_true (by omega)
 have q2:(t.a < C.s.size)=True:=eq_true ha
 have hbt:=bt_nat C.s t.a ha
 have hlo:=bt_lo C.s t.a
 obtain ⟨b,hbv⟩:∃ b,b=bt C.s t.a:=⟨_,rfl⟩
 rw [← hbv] at hbt hlo
 have HBV:=mkA hbv
 have HLO:=mkA hlo
 clear h hb HK hbv hlo
 by_cases hbl:b=32∨b=9∨b=10∨b=13∨b=44
 case pos =>
  have HS:=mkA (show Sc C.s false t.a=Sc C.s false (t.a+1) from sc_blank HA.out (by rw [← HBV.out];rcases hbl with h | h | h | h | h <;> (rw [h];rfl)))
  have W1:wrap64 ((t.a:Int)+1)=((t.a+1:Nat):Int):=by have:=SZ.out;exact (w64 (by omega) (by omega)).trans (by omega)
  obtain ⟨j,hj⟩:∃ j:Nat,j=t.a+1:=⟨_,rfl⟩
  rw [← hj] at W1 HS
  have HJ:=mkA (show t.a < j∧j≤C.s.size by omega)
  clear hj
  rcases hbl with rfl | rfl | rfl | rfl | rfl
  all_goals
   go_enter Tryz.func34,Tryz.ntmps34
   go_upto_region 0 with (fail)
   go_quiet (fail)
   go_wp2
   go_end0
   exact ln_skip HP.out (pw_below_drewN (Below.refl _ _) _) HB.out j HJ.out HS.out (by first | rfl | rw [W1])
 case neg =>
 have p32:=(bnne (a:=b) (b:=32) (by omega)).2
 have p9:=(bnne (a:=b) (b:=9) (by omega)).2
 have p10:=(bnne (a:=b) (b:=10) (by omega)).2
 have p13:=(bnne (a:=b) (b:=13) (by omega)).2
 have p44:=(bnne (a:=b) (b:=44) (by omega)).2
 have HBL:=mkA (show isBl (bt C.s t.a)=false by rw [← HBV.out];unfold isBl;rw [p32,p9,p10,p13,p44];rfl)
 clear hbl
 have S1:=mkA (fun u:World=>starts_q C.s ⟨#[239,187,191]⟩ t.a (Nat.le_of_lt HA.out) SZ.out (by decide) u)
 have HBO:=mkA (show stB C.s t.a ⟨#[239,187,191]⟩=bomAt C.s t.a from rfl)
 rw [HBO.out] at S1
 go_enter Tryz.func34,Tryz.ntmps34
 go_upto_region 0 with (fail)
 go_quiet (fail)
 go_upto_region 4 with (fail)
 cases hbo:bomAt C.s t.a
 case true =>
  rw [hbo] at S1
  have W3:wrap64 ((t.a:Int)+3)=((t.a+3:Nat):Int):=by have:=SZ.out;have:=HA.out;exact (w64 (by omega) (by omega)).trans (by omega)
  obtain ⟨j,hj⟩:∃ j:Nat,j=t.a+3:=⟨_,rfl⟩
  rw [← hj] at W3
  have HJ:=mkA (show t.a < j∧j≤C.s.size by unfold bomAt at hbo;rw [Bool.and_eq_true,decide_eq_true_eq] at hbo;have:=hbo.1;omega)
  clear hj hbo
  go_quiet (first | (go_at_call 65;(with_reducible refine (S1.out _).mono ?_);rintro e w_ ⟨rfl,rfl⟩;(first | exact ⟨rfl,_,World.drewN_drewN _ _ _⟩ | exact ⟨rfl,_,rfl⟩)))
  go_wp2
  go_end0
  exact ln_bom HP.out (pw_below_drewN (Below.refl _ _) _) j HJ.out (by first | rfl | rw [W3])
 case false =>
 rw [hbo] at S1
 have HBO:=mkA hbo
 clear hbo
 go_quiet (first | (go_at_call 65;(with_reducible refine (S1.out _).mono ?_);rintro e w_ ⟨rfl,rfl⟩;(first | exact ⟨rfl,_,World.drewN_drewN _ _ _⟩ | exact ⟨rfl,_,rfl⟩)))
 clear S1
 by_cases h35:b=35
 case pos =>
  have p35:(b == 35)=true:=beq_iff_eq.2 h35
  have CC:=mkA (fun (u:World) (hu:Below w.heap.size w u)=>(comment_walk (HP.out.below hu) HB.out HA.out (by rw [← HBV.out,h35])).mono (fun e w' q=>(ln_below HP.out hu q:LN C t w e w')))
  clear h35
  go_wp2_with (first
   | (go_at_call 66;refine (CC.out _ ?_).mono ?_;(first | exact Below.refl _ _ | exact pw_below_drewN (Below.refl _ _) _ | exact below_drew1 (pw_below_drewN (Below.refl _ _) _) | exact below_drew1 (Below.refl _ _));rintro e w_ ⟨rfl,hq⟩;have HQ:=mkA hq;clear hq))
  go_end0
  exact ⟨rfl,HQ.out⟩
 case neg =>
 have p35:(b == 35)=false:=beq_eq_false_iff_ne.mpr h35
 have HSC:=mkA (sc_self HA.out HBL.out (by rw [← HBV.out];exact h35) HBO.out)
 have S2:=mkA (fun u:World=>starts_q C.s ⟨#[46,46,46]⟩ t.a (Nat.le_of_lt HA.out) SZ.out (by decide) u)
 clear h35
 go_upto_region 9 with (fail)
 cases hd:stB C.s t.a ⟨#[46,46,46]⟩
 case true =>
  rw [hd] at S2
  have HD:=(stB_dots _ _).1 hd
  have W3:wrap64 ((t.a:Int)+3)=((t.a+3:Nat):Int):=by have:=SZ.out;have:=HA.out;exact (w64 (by omega) (by omega)).trans (by omega)
  have CA:=mkA (fun (u:World) (hu:Below w.heap.size w u)=>(add_walk (HP.out.below hu) 6 (t.a+3) e0 (by omega) HD.1 (tk_e0 (by decide))).mono (fun e w' q=>(ln_below HP.out hu (ln_add HB.out HSC.out HA.out (by omega) (.spread HD.1 HD.2.1 HD.2.2.1 HD.2.2.2) q):LN C t w e w')))
  obtain ⟨j,hj⟩:∃ j:Nat,j=t.a+3:=⟨_,rfl⟩
  rw [← hj] at W3 CA
  clear hj HD hd
  go_quiet (first | (go_at_call 65;(with_reducible refine (S2.out _).mono ?_);rintro e w_ ⟨rfl,rfl⟩;(first | exact ⟨rfl,_,World.drewN_drewN _ _ _⟩ | exact ⟨rfl,_,rfl⟩)))
  go_wp2_with (first
   | (go_at_call 67;refine (CA.out _ ?_).mono ?_;(first | exact Below.refl _ _ | exact pw_below_drewN (Below.refl _ _) _ | exact below_drew1 (pw_below_drewN (Below.refl _ _) _) | exact below_drew1 (Below.refl _ _));rintro e w_ ⟨rfl,hq⟩;have HQ:=mkA hq;clear hq))
  go_end0
  exact ⟨rfl,HQ.out⟩
 case false =>
 rw [hd] at S2
 have HD:=mkA (fun hx=>(Bool.eq_false_iff.1 hd) ((stB_dots _ _).2 hx))
 clear hd
 go_quiet (first | (go_at_call 65;(with_reducible refine (S2.out _).mono ?_);rintro e w_ ⟨rfl,rfl⟩;(first | exact ⟨rfl,_,World.drewN_drewN _ _ _⟩ | exact ⟨rfl,_,rfl⟩)))
 clear S2
 have SG:=mkA (fun u:World=>sign_q b u)
 have HSG0:=mkA (sg_nn b)
 obtain ⟨k,hk⟩:∃ k,k=sg b:=⟨_,rfl⟩
 rw [← hk] at SG HSG0
 have HSG:=mkA (show sg (bt C.s t.a)=k by rw [← HBV.out,hk])
 clear hk
 by_cases hk0:k=0
 case neg =>
  have r1:(0 < k)=True:=eq_true (by have:=HSG0.out;omega)
  have r2:decide (0 < k)=true:=decide_eq_true (by have:=HSG0.out;omega)
  have W1:wrap64 ((t.a:Int)+1)=((t.a+1:Nat):Int):=by have:=SZ.out;have:=HA.out;exact (w64 (by omega) (by omega)).trans (by omega)
  have W1':IntKind.i64.wrap ((t.a:Int)+1)=((t.a+1:Nat):Int):=by have:=SZ.out;have:=HA.out;exact (IntWalk.i64_in _ (by omega)).trans (by omega)
  have CA:=mkA (fun (u:World) (hu:Below w.heap.size w u)=>(add_walk (HP.out.below hu) k (t.a+1) e0 (by omega) HA.out (tk_e0 (by rw [← HSG.out];exact sg_ne1 _))).mono (fun e w' q=>(ln_below HP.out hu (ln_add HB.out HSC.out HA.out (by omega) (.sign HA.out HSG.out hk0) q):LN C t w e w')))
  obtain ⟨j,hj⟩:∃ j:Nat,j=t.a+1:=⟨_,rfl⟩
  rw [← hj] at W1 W1' CA
  clear hj hk0
  go_upto_region 12 with (first
   | (go_at_call 68;(with_reducible refine (SG.out _).mono ?_);rintro e w_ ⟨rfl,hw_⟩;subst w_))
  generalize hu:w.drewN _=u
  have HU:=mkA (show Below w.heap.size w u from hu ▸ pw_below_drewN (Below.refl _ _) _)
  have d0:=(HP.out.below HU.out).c.1
  have d1:=(HP.out.below HU.out).c.2.1
  clear c0 c1 c4 f1 f4 hu
  go_still_tail 8,(by kernel_rfl)
  still_call (SG.out _)
  repeat still_step
  refine wpStill_nil ?_
  go_wp2_with (first
   | (go_at_call 67;refine (CA.out _ ?_).mono ?_;(first | exact below_drew1 HU.out | exact HU.out);rintro e w_ ⟨rfl,hq⟩;have HQ:=mkA hq;clear hq))
  go_end0
  exact ⟨rfl,HQ.out⟩
 case pos =>
 subst hk0
 go_upto_region 13 with (first
  | (go_at_call 68;(with_reducible refine (SG.out _).mono ?_);rintro e w_ ⟨rfl,hw_⟩;subst w_))
 clear SG
 have IB:=mkA (fun u:World=>isBegin_q b u)
 have ID:=mkA (fun u:World=>isDigit_q b u)
 cases hib:isB b
 case true =>
  rw [hib] at IB
  have HNM:=mkA (show isB (bt C.s t.a)=true by rw [← HBV.out];exact hib)
  have HNX:=mkA (show nx C.s t.a=b by rw [HBV.out];unfold nx;rw [if_pos HA.out])
  clear hib ID
  have NQ:=mkA (fun (p:Nat) (u:World) (hu:Below w.heap.size w u)=>next_q (HP.out.below hu) p)
  have HIN:=mkA (show isN (nx C.s t.a)=true by rw [HNX.out,isn_of,HBV.out,HNM.out];rfl)
  clear q1 q2 hbt
  go_wp2_with (first
   | (go_at_call 69;(with_reducible refine (IB.out _).mono ?_);rintro e w_ ⟨rfl,hw_⟩;subst w_))
  clear IB
  go_loop [3] (fun v3=>∃ p:Nat,v3=.int .i64 p∧Aside0 (t.a≤p∧p≤C.s.size∧nm C.s p=nm C.s t.a)) (fun v3=>C.s.size - (intOf v3).toNat)
  case atStart=>exact ⟨t.a,rfl,⟨Nat.le_refl _,Nat.le_of_lt HA.out,rfl⟩⟩
  case round =>
   obtain ⟨p,rfl,HR⟩:=hrel
   have NP:=mkA (NQ.out p)
   obtain ⟨c,hc⟩:∃ c,c=nx C.s p:=⟨_,rfl⟩
   rw [← hc] at NP
   have HC:=mkA hc
   have JB:=mkA (fun u:World=>isBegin_q c u)
   have JD:=mkA (fun u:World=>isDigit_q c u)
   clear hc
   have W1:wrap64 ((p:Int)+1)=((p+1:Nat):Int):=by have:=SZ.out;have:=HR.out.2.1;exact (w64 (by omega) (by omega)).trans (by omega)
   obtain ⟨j,hj⟩:∃ j:Nat,j=p+1:=⟨_,rfl⟩
   rw [← hj] at W1
   have HJ:=mkA hj
   clear hj
   cases hn:(isB c || isD c)
   case true =>
    have HNC:=mkA (show isN (nx C.s p)=true by rw [← HC.out,isn_of];exact hn)
    have hn2:isB c=true∨(isB c=false∧isD c=true):=by
     cases h1:isB c
     ·rw [h1] at hn;exact .inr ⟨rfl,by simpa using hn⟩
     ·exact .inl rfl
    clear hn
    rcases hn2 with pb | ⟨pb,pd⟩
    ·rw [pb] at JB
     go_wp2_with (first
      | (go_at_call 70;refine (NP.out _ ?_).mono ?_;(first | exact Below.refl _ _ | exact pw_below_drewN (Below.refl _ _) _ | exact below_drew1 (pw_below_drewN (Below.refl _ _) _) | exact below_drew1 (Below.refl _ _));rintro e w_ ⟨rfl,hw_⟩;subst w_)
      | (go_at_call 69;(with_reducible refine (JB.out _).mono ?_);rintro e w_ ⟨rfl,hw_⟩;subst w_))
     go_round
     case rel=>exact ⟨j,congrArg (Value.int .i64) W1,⟨by have:=HR.out.1;have:=HJ.out;omega,by have:=HJ.out;have:=nx_in C.s p (by intro e;have:=HNC.out;rw [e] at this;cases this);omega,by rw [HJ.out,← nm_yes _ _ HNC.out];exact HR.out.2.2⟩⟩
     case measure=>rw [W1];have:=HJ.out;have:=nx_in C.s p (by intro e;have:=HNC.out;rw [e] at this;cases this);simp only [intOf];omega
    ·rw [pb] at JB
     rw [pd] at JD
     go_wp2_with (first
      | (go_at_call 70;refine (NP.out _ ?_).mono ?_;(first | exact Below.refl _ _ | exact pw_below_drewN (Below.refl _ _) _ | exact below_drew1 (pw_below_drewN (Below.refl _ _) _) | exact below_drew1 (Below.refl _ _));rintro e w_ ⟨rfl,hw_⟩;subst w_)
      | (go_at_call 69;(with_reducible refine (JB.out _).mono ?_);rintro e w_ ⟨rfl,hw_⟩;subst w_)
      | (go_at_call 71;(with_reducible refine (JD.out _).mono ?_);rintro e w_ ⟨rfl,hw_⟩;subst w_))
     go_round
     case rel=>exact ⟨j,congrArg (Value.int .i64) W1,⟨by have:=HR.out.1;have:=HJ.out;omega,by have:=HJ.out;have:=nx_in C.s p (by intro e;have:=HNC.out;rw [e] at this;cases this);omega,by rw [HJ.out,← nm_yes _ _ HNC.out];exact HR.out.2.2⟩⟩
     case measure=>rw [W1];have:=HJ.out;have:=nx_in C.s p (by intro e;have:=HNC.out;rw [e] at this;cases this);simp only [intOf];omega
   case false =>
    have HNC:isN (nx C.s p)=false:=by rw [← HC.out,isn_of];exact hn
    obtain ⟨pb,pd⟩:isB c=false∧isD c=false:=by
     cases h1:isB c
     ·rw [h1] at hn;exact ⟨rfl,by simpa using hn⟩
     ·rw [h1] at hn;cases hn
    rw [pb] at JB
    rw [pd] at JD
    have hpe:nm C.s (t.a+1)=p:=by rw [← nm_yes _ _ HIN.out];exact nm_end HR.out.2.2 HNC
    have hpl:t.a < p:=by
     rcases Nat.lt_or_ge t.a p with h | h
     ·exact h
     ·have e:p=t.a:=Nat.le_antisymm h HR.out.1
      rw [e,HIN.out] at HNC;cases HNC
    have TK:Tok BVal C.s t.a ⟨15,t.a,(p:Nat),C.s.extract t.a p⟩ p:=by have q:=Tok.name (BV:=BVal) HA.out HNM.out;rw [hpe] at q;exact q
    have CA:=mkA (fun (u:World) (hu:Below w.heap.size w u)=>(add_walk (HP.out.below hu) 15 p (C.s.extract t.a p) hpl HR.out.2.1 ⟨(show (15:Int)≠1 by decide),fun _=>.inl rfl⟩).mono (fun e w' q=>(ln_below HP.out hu (ln_add HB.out HSC.out HA.out hpl TK q):LN C t w e w')))
    have s1:((t.a:Int)≤(p:Int))=True:=eq_true (by omega)
    have s2:((p:Int)≤(C.s.size:Int))=True:=eq_true (by have:=HR.out.2.1;omega)
    have s3:(t.a≤p)=True:=eq_true (Nat.le_of_lt hpl)
    have s4:(p≤C.s.size)=True:=eq_true HR.out.2.1
    clear hn HNC pb pd hpe hpl TK W1
    go_upto_region 17 with (first
     | (go_at_call 70;refine (NP.out _ ?_).mono ?_;(first | exact Below.refl _ _ | exact pw_below_drewN (Below.refl _ _) _ | exact below_drew1 (pw_below_drewN (Below.refl _ _) _) | exact below_drew1 (Below.refl _ _));rintro e w_ ⟨rfl,hw_⟩;subst w_)
     | (go_at_call 69;(with_reducible refine (JB.out _).mono ?_);rintro e w_ ⟨rfl,hw_⟩;subst w_)
     | (go_at_call 71;(with_reducible refine (JD.out _).mono ?_);rintro e w_ ⟨rfl,hw_⟩;subst w_))
    generalize hu:w.drewN _=u
    have HU:=mkA (show Below w.heap.size w u from hu ▸ pw_below_drewN (Below.refl _ _) _)
    have d0:=(HP.out.below HU.out).c.1
    have d1:=(HP.out.below HU.out).c.2.1
    clear c0 c1 c4 f1 f4 hu
    go_still_tail 12,(by kernel_rfl)
    go_wp2_with (first
     | (go_at_call 67;refine (CA.out _ ?_).mono ?_;(first | exact below_drew1 HU.out | exact HU.out);rintro e w_ ⟨rfl,hq⟩;have HQ:=mkA hq;clear hq))
    go_end0
    exact ⟨rfl,HQ.out⟩
 case false =>
 rw [hib] at IB
 have HIB:=mkA (show isB (bt C.s t.a)=false by rw [← HBV.out];exact hib)
 clear hib
 cases hid:((b == 45) || isD b)
 case true =>
  have HD45:bt C.s t.a=45∨isD (bt C.s t.a)=true:=by
   rw [← HBV.out]
   rcases (Bool.or_eq_true _ _).mp hid with h | h
   ·exact .inl (eq_of_beq h)
   ·exact .inr h
  have CN:=mkA (fun (u:World) (hu:Below w.heap.size w u)=>(number_walk (BV:=BVal) (HP.out.below hu) HB.out HA.out HD45).mono (fun e w' q=>(ln_below HP.out hu (ln_of HSC.out HA.out q):LN C t w e w')))
  clear HD45
  have hid2:(b == 45)=true∨((b == 45)=false∧isD b=true):=by
   cases h1:(b == 45)
   ·rw [h1] at hid;exact .inr ⟨rfl,by simpa using hid⟩
   ·exact .inl rfl
  clear hid
  rcases hid2 with p45 | ⟨p45,pd⟩
  ·go_wp2_with (first
    | (go_at_call 69;(with_reducible refine (IB.out _).mono ?_);rintro e w_ ⟨rfl,hw_⟩;subst w_)
    | (go_at_call 72;refine (CN.out _ ?_).mono ?_;(first | exact Below.refl _ _ | exact pw_below_drewN (Below.refl _ _) _ | exact below_drew1 (pw_below_drewN (Below.refl _ _) _) | exact below_drew1 (Below.refl _ _));rintro e w_ ⟨rfl,hq⟩;have HQ:=mkA hq;clear hq))
   go_end0
   exact ⟨rfl,HQ.out⟩
  ·rw [pd] at ID
   go_wp2_with (first
    | (go_at_call 69;(with_reducible refine (IB.out _).mono ?_);rintro e w_ ⟨rfl,hw_⟩;subst w_)
    | (go_at_call 71;(with_reducible refine (ID.out _).mono ?_);rintro e w_ ⟨rfl,hw_⟩;subst w_)
    | (go_at_call 72;refine (CN.out _ ?_).mono ?_;(first | exact Below.refl _ _ | exact pw_below_drewN (Below.refl _ _) _ | exact below_drew1 (pw_below_drewN (Below.refl _ _) _) | exact below_drew1 (Below.refl _ _));rintro e w_ ⟨rfl,hq⟩;have HQ:=mkA hq;clear hq))
   go_end0
   exact ⟨rfl,HQ.out⟩
 case false =>
 obtain ⟨p45,pd⟩:(b == 45)=false∧isD b=false:=by
  cases h1:(b == 45)
  ·rw [h1] at hid;exact ⟨rfl,by simpa using hid⟩
  ·rw [h1] at hid;cases hid
 rw [pd] at ID
 have HPD:=mkA (show bt C.s t.a≠45∧isD (bt C.s t.a)=false by rw [← HBV.out];exact ⟨fun h=>(by rw [h] at p45;cases p45),pd⟩)
 clear hid pd
 go_upto_region 20 with (first
  | (go_at_call 69;(with_reducible refine (IB.out _).mono ?_);rintro e w_ ⟨rfl,hw_⟩;subst w_)
  | (go_at_call 71;(with_reducible refine (ID.out _).mono ?_);rintro e w_ ⟨rfl,hw_⟩;subst w_))
 clear IB ID
 have S3:=mkA (fun u:World=>starts_q C.s ⟨#[34,34,34]⟩ t.a (Nat.le_of_lt HA.out) SZ.out (by decide) u)
 rw [stB_tri] at S3
 cases ht:tri (dr C.s t.a)
 case true =>
  rw [ht] at S3
  have CB:=mkA (fun (u:World) (hu:Below w.heap.size w u)=>(block_walk HKK.out (HP.out.below hu) ⟨HB.out,HA.out,ht⟩).mono (fun e w' q=>(ln_below HP.out hu (ln_of HSC.out HA.out q):LN C t w e w')))
  clear ht
  go_quiet (first | (go_at_call 65;(with_reducible refine (S3.out _).mono ?_);rintro e w_ ⟨rfl,rfl⟩;(first | exact ⟨rfl,_,World.drewN_drewN _ _ _⟩ | exact ⟨rfl,_,rfl⟩)))
  go_wp2_with (first
   | (go_at_call 73;refine (CB.out _ ?_).mono ?_;(first | exact Below.refl _ _ | exact pw_below_drewN (Below.refl _ _) _ | exact below_drew1 (pw_below_drewN (Below.refl _ _) _) | exact below_drew1 (Below.refl _ _));rintro e w_ ⟨rfl,hq⟩;have HQ:=mkA hq;clear hq))
  go_end0
  exact ⟨rfl,HQ.out⟩
 case false =>
 rw [ht] at S3
 have HT:=mkA ht
 clear ht
 go_quiet (first | (go_at_call 65;(with_reducible refine (S3.out _).mono ?_);rintro e w_ ⟨rfl,rfl⟩;(first | exact ⟨rfl,_,World.drewN_drewN _ _ _⟩ | exact ⟨rfl,_,rfl⟩)))
 by_cases h34:b=34
 case pos =>
  have p34:(b == 34)=true:=beq_iff_eq.2 h34
  have CT:=mkA (fun (u:World) (hu:Below w.heap.size w u)=>(ltext_walk (BV:=BVal) (HP.out.below hu) ⟨HB.out,HA.out,by rw [← HBV.out,h34],HT.out⟩).mono (fun e w' q=>(ln_below HP.out hu (ln_of HSC.out HA.out q):LN C t w e w')))
  clear h34
  go_wp2_with (first
   | (go_at_call 74;refine (CT.out _ ?_).mono ?_;(first | exact Below.refl _ _ | exact pw_below_drewN (Below.refl _ _) _ | exact below_drew1 (pw_below_drewN (Below.refl _ _) _) | exact below_drew1 (Below.refl _ _));rintro e w_ ⟨rfl,hq⟩;have HQ:=mkA hq;clear hq))
  go_end0
  exact ⟨rfl,HQ.out⟩
 case neg =>
 have p34:(b == 34)=false:=beq_eq_false_iff_ne.mpr h34
 have CF:=mkA (fun (u:World) (hu:Below w.heap.size w u)=>(lfail_walk (HP.out.below hu)).mono (fun e w' q=>(ln_below HP.out hu (ln_bad HSC.out HA.out (by
  by_cases h46:bt C.s t.a=46
  ·exact .dot HA.out h46 (fun hx=>HD.out ⟨hx.1,h46,hx.2.1,hx.2.2⟩)
  ·exact .other HA.out HSG.out HIB.out HPD.out.1 HPD.out.2 (by rw [← HBV.out];exact h34) h46) q):LN C t w e w')))
 clear h34
 go_wp2_with (first
  | (go_at_call 75;refine (CF.out _ ?_).mono ?_;(first | exact Below.refl _ _ | exact pw_below_drewN (Below.refl _ _) _ | exact below_drew1 (pw_below_drewN (Below.refl _ _) _) | exact below_drew1 (Below.refl _ _));rintro e w_ ⟨rfl,hq⟩;have HQ:=mkA hq;clear hq))
 go_end0
 exact ⟨rfl,HQ.out⟩
def LexP (s:ByteArray) (w:World) (e:Ending) (w':World):Prop:=∃ (out:List Tk) (A:Option Addr) (cp:Nat) (ok sure:Bool),e=.returned (.tuple #[.slice A out.length cp,.bool ok,.bool sure])∧Below w.heap.size w w'∧w'.ownsRow w.heap.size 53 4 (.slice A out.length cp) out.length (tflat out)∧out.length≤2000∧(∀ x ∈ out,TkOk x)∧(sure=true→Lexes BVal s 0 (out++(if ok=true then [eofT s] else [])))
def badN (g:Nat) (w:World):Nat:=match w.cell? ⟨g,3,none⟩ with
 | some (.bool true)=>0
 | _=>1
def mlx (C:LC) (w:World):Nat:=2 * (C.s.size - latN C.gx w)+badN C.gx w
theorem LX.mlx {C:LC} {w:World} {t:LS} (h:LX C w t):mlx C w=2 * (C.s.size - t.a)+(if t.bad=true then 0 else 1):=by
 unfold R.mlx badN
 rw [h.lat,h.c.2.2.1]
 cases t.bad <;> rfl
def LdR (C:LC) (w wr:World) (t:LS):Prop:=LX C wr t∧Below C.B w wr∧Lw BVal C.s t
theorem LdR.lx {C:LC} {w wr:World} {t:LS} (h:LdR C w wr t):LX C wr t:=h.1
theorem ld_end {C:LC} {w wr:World} {t:LS} {A:Option Addr} {cp n:Nat} (hB:C.B=w.heap.size) (h:LdR C w wr t) (he:t.bad=true∨C.s.size≤t.a) (ho:wr.ownsRow C.B 53 4 (.slice A t.out.length cp) t.out.length (tflat t.out)) {b u:Bool} (h1:b=!t.bad) (h2:u=!t.un):LexP C.s w (.returned (.tuple #[.slice A t.out.length cp,.bool b,.bool u])) (wr.drewN n):=by
 obtain ⟨hl,hb,hw⟩:=h
 refine ⟨t.out,A,cp,b,u,rfl,hB ▸ pw_below_drewN hb n,?_,Nat.le_trans hl.ol.1 (Nat.le_trans hl.le hl.sz),hl.ol.2,fun hu=>?_⟩
 ·rw [← hB];exact own_typ ho (fun g cs x=>x)
 ·rcases lw_end hw hl.le he with h | h
  ·rw [h2,h] at hu;cases hu
  ·rw [h1]
   cases hbad:t.bad
   ·rw [hbad] at h;exact h
   ·rw [hbad] at h;exact h
theorem lexed_walk (HK:BlkH) {s:ByteArray} (hs:s.size≤2000) (w:World):Calls Tryz.prog 16 #[.string s] w (LexP s w):=by
 have HKK:=mkA HK
 have HS:=mkA hs
 clear HK hs
 go_enter Tryz.func16,Tryz.ntmps16
 go_wp2_with (first
  | ((with_reducible refine gate_dst (N:=8) rfl ?_);refine bxe (cs:=#[.string s,.int .i64 0,.slice none 0 0,.bool false,.bool false]) (t:=99) ?hr ?_;(case hr=>first | (go_simp;done) | (go_simp;rfl));intro gx hg w2 hbox hb;have HP:=mkA (show LX ⟨gx,w.heap.size,s⟩ w2 ⟨0,[],false,false⟩ from ⟨⟨none,0,hbox,World.ownsRow_nil _ _ _ _⟩,Nat.zero_le _,HS.out,⟨Nat.le_refl _,fun x hx=>by cases hx⟩,by show w.heap.size≤gx;rw [hg];exact Nat.le_refl _⟩);have HB:=mkA hb;clear hg hbox hb))
 obtain ⟨C,hC⟩:∃ C:LC,C=⟨gx,w.heap.size,s⟩:=⟨_,rfl⟩
 rw [← hC] at HP
 have HCB:=mkA (show C.B=w.heap.size by rw [hC])
 have HCS:=mkA (show C.s=s by rw [hC])
 have HCG:=show gx=C.gx by rw [hC]
 clear hC
 subst HCG
 go_loopw [9] (fun v9 wr=>∃ t:LS,Aside0 (LdR C w wr t)) (fun _ wr=>mlx C wr)
 case atStart=>exact ⟨_,⟨HP.out,HCB.out ▸ HB.out,lw_zero _⟩⟩
 case round =>
  obtain ⟨t,HR⟩:=hrel
  obtain ⟨a,out,bad,un⟩:=t
  have c1:=HR.out.lx.c.2.1
  have c3:=HR.out.lx.c.2.2.1
  have c4:=HR.out.lx.c.2.2.2
  obtain ⟨A,cp,hc,ho⟩:=HR.out.lx.cell
  have c2:wr.cell? ⟨C.gx,2,none⟩=some (.slice A out.length cp):=(blk_cell hc 2).trans rfl
  have HO:=mkA ho
  have HLE:=mkA (show a≤s.size from HCS.out ▸ HR.out.lx.le)
  clear hc ho
  cases bad
  case true =>
   go_upto_region 4 with (fail)
   go_quiet (fail)
   go_wp2
   go_ret3
   rw [← HCS.out]
   exact ld_end HCB.out HR.out (.inl rfl) HO.out rfl rfl
  case false =>
   by_cases ha:a < s.size
   case pos =>
    have q1:((a:Int) < (s.size:Int))=True:=eq_true (by omega)
    have q2:(a < s.size)=True:=eq_true ha
    have CT:=mkA (token_walk HKK.out HR.out.lx rfl (show a < C.s.size by rw [HCS.out];exact ha))
    clear ha
    go_wp2_with (first
     | (go_at_call 34;(with_reducible refine CT.out.mono ?_);rintro e w1 ⟨rfl,t',h1,h2,h3⟩;have H1:=mkA h1;have H2:=mkA h2;have H3:=mkA h3;clear h1 h2 h3))
    go_roundw
    case rel=>exact ⟨t',⟨H1.out,HR.out.2.1.trans H2.out,HR.out.2.2.step rfl H3.out⟩⟩
    case measure =>
     rw [H1.out.mlx,HR.out.lx.mlx]
     obtain ⟨_,k1,k2,_⟩:=H3.out
     have k3:=H1.out.le
     have k4:a≤t'.a:=k1
     have k5:t'.bad=true∨a < t'.a:=k2
     show 2 * (C.s.size - t'.a)+(if t'.bad=true then 0 else 1) < 2 * (C.s.size - a)+1
     rcases k5 with k | k
     ·rw [if_pos k];omega
     ·split <;> omega
   case neg =>
    have q1:((a:Int) < (s.size:Int))=False:=eq_false (by omega)
    have q2:(a < s.size)=False:=eq_false ha
    have HE:=mkA (show C.s.size≤a by rw [HCS.out];omega)
    clear ha
    go_upto_region 4 with (fail)
    go_quiet (fail)
    go_wp2
    go_ret3
    rw [← HCS.out]
    exact ld_end HCB.out HR.out (.inr HE.out) HO.out rfl rfl
end Go.Proofs.YthgcghpcikbnkaaGreatDoor.R
