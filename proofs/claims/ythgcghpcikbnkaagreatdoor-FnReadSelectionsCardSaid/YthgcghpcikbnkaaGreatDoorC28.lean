/- A part of the proof of the theorem of this claim: Lxe, Lxn, Lxh, Lxc. No condition of its own. -/
import Derived.Laws.Cover4
import Derived.Test.YthgcghpcikbnkaaGreatDoorC27
import Derived.Test.YthgcghpcikbnkaaGreatDoorC14
import Derived.Test.YthgcghpcikbnkaaGreatDoorB6
set_option maxHeartbeats 16000000
set_option maxRecDepth 100000
namespace Go.Proofs.YthgcghpcikbnkaaGreatDoor.R
open Go.RowKit Go.Proofs.YthgcghpcikbnkaaGreatDoorW.PrintWords Go.Proofs.YthgcghpcikbnkaaGreatDoorW.PrintLast Go.Proofs.YthgcghpcikbnkaaGreatDoorW.PrintMore
set_option linter.unusedVariables false
set_option linter.unusedSimpArgs false
def NuR (o:Option (Int × Nat)) (K z:Int):Prop:=(o=none∧K=0∧z=0)∨∃ q:Nat,o=some (K,q)∧z=q
def NuP (s:ByteArray) (p:Nat) (w:World) (e:Ending) (w':World):Prop:=∃ K z:Int,e=.returned (.tuple #[.int .i64 K,.int .i64 z])∧w'=w∧NuR (numAt s p) K z
theorem nu_none {s:ByteArray} {p:Nat} {w:World} (h:numAt s p=none):NuP s p w (.returned (.tuple #[.int .i64 0,.int .i64 0])) w:=⟨0,0,rfl,rfl,.inl ⟨h,rfl,rfl⟩⟩
theorem nu_some {s:ByteArray} {p q:Nat} {w:World} {K z:Int} (h:numAt s p=some (K,q)) (hz:z=q):NuP s p w (.returned (.tuple #[.int .i64 K,.int .i64 z])) w:=⟨K,z,rfl,rfl,.inr ⟨q,h,hz⟩⟩
theorem numeral_q {C:LC} {w:World} {t:LS} (h:LX C w t) (p:Nat) (hp:p < C.s.size) (hd:nx C.s p=45∨isD (nx C.s p)=true):Calls Tryz.prog 92 #[ptr C.gx,.int .i64 p] w (NuP C.s p w):=by
 have HP:=mkA h
 have SZ:=mkA h.sz
 have HI:=mkA hp
 have HD:=mkA hd
 have N0:=mkA (next_q h p)
 obtain ⟨x0,hx0⟩:∃ x,x=nx C.s p:=⟨_,rfl⟩
 rw [← hx0] at N0
 have HX0:=mkA hx0
 have W0:=mkA (show wrap64 ((p:Int)+1)=((p+1:Nat):Int) from by have:=SZ.out;exact (w64 (by omega) (by omega)).trans (by omega))
 clear h hp hd hx0
 go_enter Tryz.func92,Tryz.ntmps92
 go_upto_if 11 with (first
  | (go_at_call 70;(with_reducible refine N0.out.mono ?_);rintro e w_ ⟨rfl,hw_⟩;subst w_))
 go_cut [1] (fun v1 wc=>∃ a:Nat,v1=.int .i64 a∧Aside0 (a=if nx C.s p=45 then p+1 else p)∧Aside0 (wc=w))
 case first =>
  by_cases h45:x0=45
  ·have q:=show (x0 == 45)=true from by rw [h45];rfl
   have H:=mkA h45
   clear h45
   go_wp2
   go_meet
   exact ⟨p+1,congrArg (Value.int .i64) W0.out,⟨by rw [← HX0.out,if_pos H.out]⟩,⟨rfl⟩⟩
  ·have q:=show (x0 == 45)=false from by simpa using h45
   have H:=mkA h45
   clear h45
   go_wp2
   go_meet
   exact ⟨p,rfl,⟨by rw [← HX0.out,if_neg H.out]⟩,⟨rfl⟩⟩
 case rest =>
  obtain ⟨a,rfl,HA,HW⟩:=hcut
  have hw:=HW.out
  clear HW
  subst wc
  have hnum:numAt C.s p=num1 C.s a:=by unfold numAt;rw [HA.out]
  have hal:a≤C.s.size:=by have:=HI.out;rw [HA.out];split <;> omega
  have HN:=mkA hnum
  have c0:w.cell? ⟨C.gx,0,none⟩=some (.string C.s):=by
   obtain ⟨A,cp,hc,_⟩:=HP.out.cell
   exact (blk_cell hc 0).trans rfl
  have HL:=mkA hal
  have NA:=mkA (digits_q HP.out a (by omega))
  obtain ⟨z,hz⟩:∃ z:Nat,z=dg C.s a:=⟨_,rfl⟩
  have hzl:z≤C.s.size:=by rw [hz];exact dg_le _ _ hal
  have hza:a≤z:=by rw [hz];exact dg_ge _ _
  rw [← hz] at NA
  have HZ:=mkA hz
  have HZL:=mkA hzl
  clear hnum hz
  by_cases hzz:z=a
  ·have q:=show ((z:Int) == (a:Int))=true from by rw [hzz];exact beq_self_eq_true _
   have q2:=show (z == a)=true from by rw [hzz];exact beq_self_eq_true _
   have H:=mkA hzz
   clear hzz hal hzl hza
   go_wp2_with (first
    | (go_at_call 121;(with_reducible refine NA.out.mono ?_);rintro e w_ ⟨rfl,hw_⟩;subst w_))
   go_ret2
   exact nu_none (by rw [HN.out];unfold num1;rw [if_pos (.inl (by rw [← HZ.out];exact H.out))])
  ·have q:=show ((z:Int) == (a:Int))=false from beq_eq_false_iff_ne.mpr (by omega)
   have q2:=show (z == a)=false from beq_eq_false_iff_ne.mpr hzz
   have has:a < C.s.size:=by omega
   have q3:(a < C.s.size)=True:=eq_true has
   have q4:((a:Int) < (C.s.size:Int))=True:=eq_true (by omega)
   have hx:=bt_nat C.s a has
   obtain ⟨x,hxx⟩:∃ x,x=bt C.s a:=⟨_,rfl⟩
   rw [← hxx] at hx
   have hxn:nx C.s a=x:=by rw [hxx];unfold nx;rw [if_pos has]
   have HX:=mkA hxn
   have HZZ:=mkA hzz
   have wa:wrap64 ((a:Int)+1)=((a+1:Nat):Int):=by have:=SZ.out;exact (w64 (by omega) (by omega)).trans (by omega)
   have HAZ:=mkA hza
   clear hxn hxx hzz hal hzl hza
   by_cases h0:x=48∧a+1 < z
   ·have q5:=show (x == 48)=true from by rw [h0.1];rfl
    have q8:((a:Int)+1 < (z:Int))=True:=eq_true (by omega)
    have H:=mkA h0
    clear h0
    go_wp2_with (first
     | (go_at_call 121;(with_reducible refine NA.out.mono ?_);rintro e w_ ⟨rfl,hw_⟩;subst w_))
    go_ret2
    exact nu_none (by rw [HN.out];unfold num1;rw [if_pos (.inr ⟨by rw [HX.out];exact H.out.1,by rw [← HZ.out];exact H.out.2⟩)])
   ·have HNF:=mkA (show numAt C.s p=frac C.s z from by rw [HN.out];unfold num1;rw [if_neg (by rw [← HZ.out,HX.out];intro hh;rcases hh with hh | hh;exact HZZ.out hh;exact h0 hh),← HZ.out])
    have NZ:=mkA (next_q HP.out z)
    obtain ⟨y,hy⟩:∃ y,y=nx C.s z:=⟨_,rfl⟩
    rw [← hy] at NZ
    have HY:=mkA hy
    clear hy
    by_cases hb:x=48
    case' neg =>
     have q5:=show (x == 48)=false from by simpa using hb
     clear h0 hb
     go_upto_if 38 with (first
      | (go_at_call 121;(with_reducible refine NA.out.mono ?_);rintro e w_ ⟨rfl,hw_⟩;subst w_)
      | (go_at_call 70;(with_reducible refine NZ.out.mono ?_);rintro e w_ ⟨rfl,hw_⟩;subst w_))
    case' pos =>
     have q5:=show (x == 48)=true from by rw [hb];rfl
     have q8:((a:Int)+1 < (z:Int))=False:=eq_false (fun hh=>h0 ⟨hb,by omega⟩)
     clear h0 hb
     go_upto_if 38 with (first
      | (go_at_call 121;(with_reducible refine NA.out.mono ?_);rintro e w_ ⟨rfl,hw_⟩;subst w_)
      | (go_at_call 70;(with_reducible refine NZ.out.mono ?_);rintro e w_ ⟨rfl,hw_⟩;subst w_))
    all_goals
     go_cut [1,4,5] (fun v1 v4 v5 wc=>∃ (a:Nat) (K:Int) (q:Nat),v1=.int .i64 a∧v4=.int .i64 K∧v5=.int .i64 q∧Aside0 (numAt C.s p=expo C.s K q)∧Aside0 (q≤C.s.size)∧Aside0 (wc=w))
     case first =>
      by_cases h46:y=46
      ·have hzs:z < C.s.size:=nx_in C.s z (by rw [← HY.out,h46];decide)
       have q:=show (y == 46)=true from by rw [h46];rfl
       have H:=mkA (HY.out.symm.trans h46)
       have wz:wrap64 ((z:Int)+1)=((z+1:Nat):Int):=by have:=SZ.out;exact (w64 (by omega) (by omega)).trans (by omega)
       have NB:=mkA (show Calls Tryz.prog 121 #[ptr C.gx,.int .i64 ((z:Int)+1)] w (Qv (.int .i64 (dg C.s (z+1))) w) from digits_q HP.out (z+1) (by omega))
       obtain ⟨z2,hz2⟩:∃ z2:Nat,z2=dg C.s (z+1):=⟨_,rfl⟩
       have hzl2:z2≤C.s.size:=by rw [hz2];exact dg_le _ _ hzs
       rw [← hz2] at NB
       have HZ2:=mkA hz2
       have HZL2:=mkA hzl2
       clear h46 hz2 hzl2 hzs
       by_cases he:z2=z+1
       ·have q2:=show ((z2:Int) == ((z+1:Nat):Int))=true from by rw [he];exact beq_self_eq_true _
        have q3:=show (z2 == z+1)=true from by rw [he];exact beq_self_eq_true _
        have q4:=show ((z2:Int) == (z:Int)+1)=true from by rw [he];exact beq_self_eq_true _
        have H2:=mkA he
        clear he
        go_wp2_with (first
         | (go_at_call 121;(with_reducible refine NB.out.mono ?_);rintro e w_ ⟨rfl,hw_⟩;subst w_))
        go_ret2
        exact nu_none (by rw [HNF.out];unfold frac;rw [if_pos H.out,if_pos (by rw [← HZ2.out];exact H2.out)])
       ·have q2:=show ((z2:Int) == ((z+1:Nat):Int))=false from beq_eq_false_iff_ne.mpr (by omega)
        have q3:=show (z2 == z+1)=false from beq_eq_false_iff_ne.mpr he
        have q4:=show ((z2:Int) == (z:Int)+1)=false from beq_eq_false_iff_ne.mpr (by omega)
        have H2:=mkA he
        clear he
        go_wp2_with (first
         | (go_at_call 121;(with_reducible refine NB.out.mono ?_);rintro e w_ ⟨rfl,hw_⟩;subst w_))
        go_meet
        exact ⟨z+1,17,z2,congrArg (Value.int .i64) (by first | rfl | exact wz),rfl,rfl,⟨by rw [HNF.out];unfold frac;rw [if_pos H.out,if_neg (by rw [← HZ2.out];exact H2.out),← HZ2.out]⟩,HZL2,⟨rfl⟩⟩
      ·have q:=show (y == 46)=false from by simpa using h46
       have H:=mkA h46
       clear h46
       go_wp2
       go_meet
       exact ⟨a,16,z,rfl,rfl,rfl,⟨by rw [HNF.out];exact frac_no _ _ (by rw [← HY.out];exact H.out)⟩,HZL,⟨rfl⟩⟩
     case rest =>
      obtain ⟨a,K,q,rfl,rfl,rfl,HE,HQ,HW⟩:=hcut
      have hw:=HW.out
      clear HW
      subst wc
      clear N0 NA NZ HX0 HX HY HZZ HAZ HZ HZL HNF HN HL HA
      have N1:=mkA (next_q HP.out q)
      obtain ⟨c,hc⟩:∃ c,c=nx C.s q:=⟨_,rfl⟩
      rw [← hc] at N1
      have HCC:=mkA hc
      clear hc
      by_cases he:c=101∨c=69
      case neg =>
       have p1:=show (c == 101)=false from beq_eq_false_iff_ne.mpr (fun h=>he (.inl h))
       have p2:=show (c == 69)=false from beq_eq_false_iff_ne.mpr (fun h=>he (.inr h))
       have H:=mkA he
       clear he
       go_wp2_with (first
        | (go_at_call 70;(with_reducible refine N1.out.mono ?_);rintro e w_ ⟨rfl,hw_⟩;subst w_))
       go_ret2
       exact nu_some (by rw [HE.out];exact expo_no _ _ _ (by rw [← HCC.out];exact fun h=>H.out (.inl h)) (by rw [← HCC.out];exact fun h=>H.out (.inr h))) rfl
      case pos =>
       have hqs:q < C.s.size:=nx_in C.s q (by rw [← HCC.out];omega)
       have HX:=mkA (show nx C.s q=101∨nx C.s q=69 by rw [← HCC.out];exact he)
       have W1:wrap64 ((q:Int)+1)=((q+1:Nat):Int):=by have:=SZ.out;exact (w64 (by omega) (by omega)).trans (by omega)
       have W2:wrap64 (((q+1:Nat):Int)+1)=((q+2:Nat):Int):=by have:=SZ.out;exact (w64 (by omega) (by omega)).trans (by omega)
       have N2:=mkA (next_q HP.out (q+1))
       have N3:=mkA (digits_q HP.out (q+1) (by omega))
       have N4:=mkA (digits_q HP.out (q+2) (by omega))
       obtain ⟨q1,h1⟩:∃ q1:Int,q1=((q+1:Nat):Int):=⟨_,rfl⟩
       obtain ⟨q2,h2⟩:∃ q2:Int,q2=((q+2:Nat):Int):=⟨_,rfl⟩
       obtain ⟨d,hd⟩:∃ d,d=nx C.s (q+1):=⟨_,rfl⟩
       obtain ⟨z3,h3⟩:∃ z3:Int,z3=dg C.s (q+1):=⟨_,rfl⟩
       obtain ⟨z4,h4⟩:∃ z4:Int,z4=dg C.s (q+2):=⟨_,rfl⟩
       rw [← h1] at W1 W2 N2 N3
       rw [← h2] at W2 N4
       rw [← hd] at N2
       rw [← h3] at N3
       rw [← h4] at N4
       have H1:=mkA h1
       have H2:=mkA h2
       have H3:=mkA h3
       have H4:=mkA h4
       have HDD:=mkA hd
       have hcs:(c == 101)=true∨((c == 101)=false∧(c == 69)=true):=by
        rcases he with h | h
        ·exact .inl (by rw [h];rfl)
        ·exact .inr ⟨by rw [h];rfl,by rw [h];rfl⟩
       clear h1 h2 h3 h4 hd he hqs
       by_cases hs:d=43∨d=45
       case neg =>
        have p1:=show (d == 43)=false from beq_eq_false_iff_ne.mpr (fun h=>hs (.inl h))
        have p2:=show (d == 45)=false from beq_eq_false_iff_ne.mpr (fun h=>hs (.inr h))
        have HS:=mkA (show ¬ (nx C.s (q+1)=43∨nx C.s (q+1)=45) by rw [← HDD.out];exact hs)
        clear hs
        by_cases hz:z3=q1
        case pos =>
         have p3:=show (z3 == q1)=true from by rw [hz];exact beq_self_eq_true _
         have HZ:=mkA (show dg C.s (q+1)=q+1 by rw [H3.out,H1.out] at hz;omega)
         clear hz
         rcases hcs with p5 | ⟨p5,p6⟩
         all_goals
          go_wp2_with (first
           | (go_at_call 70;(with_reducible refine N1.out.mono ?_);rintro e w_ ⟨rfl,hw_⟩;subst w_)
           | (go_at_call 70;(with_reducible refine N2.out.mono ?_);rintro e w_ ⟨rfl,hw_⟩;subst w_)
           | (go_at_call 121;(with_reducible refine N3.out.mono ?_);rintro e w_ ⟨rfl,hw_⟩;subst w_))
          go_ret2
          exact nu_none (by rw [HE.out];unfold expo;rw [if_pos HX.out,if_neg HS.out,if_pos HZ.out])
        case neg =>
         have p3:=show (z3 == q1)=false from beq_eq_false_iff_ne.mpr hz
         have HZ:=mkA (show ¬ dg C.s (q+1)=q+1 by rw [H3.out,H1.out] at hz;omega)
         clear hz
         rcases hcs with p5 | ⟨p5,p6⟩
         all_goals
          go_wp2_with (first
           | (go_at_call 70;(with_reducible refine N1.out.mono ?_);rintro e w_ ⟨rfl,hw_⟩;subst w_)
           | (go_at_call 70;(with_reducible refine N2.out.mono ?_);rintro e w_ ⟨rfl,hw_⟩;subst w_)
           | (go_at_call 121;(with_reducible refine N3.out.mono ?_);rintro e w_ ⟨rfl,hw_⟩;subst w_))
          go_ret2
          exact nu_some (by rw [HE.out];unfold expo;rw [if_pos HX.out,if_neg HS.out,if_neg HZ.out]) H3.out
       case pos =>
        have hds:(d == 43)=true∨((d == 43)=false∧(d == 45)=true):=by
         rcases hs with h | h
         ·exact .inl (by rw [h];rfl)
         ·exact .inr ⟨by rw [h];rfl,by rw [h];rfl⟩
        have HS:=mkA (show nx C.s (q+1)=43∨nx C.s (q+1)=45 by rw [← HDD.out];exact hs)
        clear hs
        by_cases hz:z4=q2
        case pos =>
         have p3:=show (z4 == q2)=true from by rw [hz];exact beq_self_eq_true _
         have HZ:=mkA (show dg C.s (q+2)=q+2 by rw [H4.out,H2.out] at hz;omega)
         clear hz
         rcases hcs with p5 | ⟨p5,p6⟩ <;> rcases hds with p7 | ⟨p7,p8⟩
         all_goals
          go_wp2_with (first
           | (go_at_call 70;(with_reducible refine N1.out.mono ?_);rintro e w_ ⟨rfl,hw_⟩;subst w_)
           | (go_at_call 70;(with_reducible refine N2.out.mono ?_);rintro e w_ ⟨rfl,hw_⟩;subst w_)
           | (go_at_call 121;(with_reducible refine N4.out.mono ?_);rintro e w_ ⟨rfl,hw_⟩;subst w_))
          go_ret2
          exact nu_none (by rw [HE.out];unfold expo;rw [if_pos HX.out,if_pos HS.out,if_pos HZ.out])
        case neg =>
         have p3:=show (z4 == q2)=false from beq_eq_false_iff_ne.mpr hz
         have HZ:=mkA (show ¬ dg C.s (q+2)=q+2 by rw [H4.out,H2.out] at hz;omega)
         clear hz
         rcases hcs with p5 | ⟨p5,p6⟩ <;> rcases hds with p7 | ⟨p7,p8⟩
         all_goals
          go_wp2_with (first
           | (go_at_call 70;(with_reducible refine N1.out.mono ?_);rintro e w_ ⟨rfl,hw_⟩;subst w_)
           | (go_at_call 70;(with_reducible refine N2.out.mono ?_);rintro e w_ ⟨rfl,hw_⟩;subst w_)
           | (go_at_call 121;(with_reducible refine N4.out.mono ?_);rintro e w_ ⟨rfl,hw_⟩;subst w_))
          go_ret2
          exact nu_some (by rw [HE.out];unfold expo;rw [if_pos HX.out,if_pos HS.out,if_neg HZ.out]) H4.out
def TR (BV:List UInt8→ByteArray→Prop) (s:ByteArray) (t t':LS):Prop :=
 (t.un=true→t'.un=true)∧t.a≤t'.a∧(t'.bad=true∨t.a < t'.a) ∧
 (t'.un=true∨(t'.bad=true∧t'.out=t.out∧TokBad s t.a)∨(t'.bad=false∧∃ k,Tok BV s t.a k t'.a∧t'.out=t.out++[k]))
def LP (BV:List UInt8→ByteArray→Prop) (C:LC) (t:LS) (w:World) (e:Ending) (w':World):Prop:=e=.returned (.tuple #[])∧∃ t',LX C w' t'∧Below C.B w w'∧TR BV C.s t t'
theorem bel_le {B B':Nat} {w w':World} (h:Below B w w') (hb:B'≤B):Below B' w w':=⟨h.os,h.tape,h.output,h.size,fun k hk=>h.block k (Nat.lt_of_lt_of_le hk hb)⟩
theorem LX.c {C:LC} {w:World} {t:LS} (h:LX C w t):w.cell? ⟨C.gx,0,none⟩=some (.string C.s)∧w.cell? ⟨C.gx,1,none⟩=some (.int .i64 t.a)∧w.cell? ⟨C.gx,3,none⟩=some (.bool t.bad)∧w.cell? ⟨C.gx,4,none⟩=some (.bool t.un):=by
 obtain ⟨A,cp,hc,_⟩:=h.cell
 exact ⟨(blk_cell hc 0).trans rfl,(blk_cell hc 1).trans rfl,(blk_cell hc 3).trans rfl,(blk_cell hc 4).trans rfl⟩
theorem LX.fz {C:LC} {w:World} {t:LS} (h:LX C w t) (j:Nat):w.frozen? ⟨C.gx,j,none⟩=false:=by
 obtain ⟨A,cp,hc,_⟩:=h.cell
 exact blk_frozen hc j
theorem LX.un {C:LC} {w:World} {t:LS} (h:LX C w t) (b:Bool):LX C (w.setCell ⟨C.gx,4,none⟩ (.bool b)) ⟨t.a,t.out,t.bad,b⟩∧Below C.B w (w.setCell ⟨C.gx,4,none⟩ (.bool b)):=by
 obtain ⟨A,cp,hc,ho⟩:=h.cell
 exact ⟨⟨⟨A,cp,blk_put (cs:=#[.string C.s,.int .i64 t.a,.slice A t.out.length cp,.bool t.bad,.bool t.un]) hc 4 _ rfl,own_typ ho (fun g cs x=>blk_far (p:=⟨C.gx,4,none⟩) x (blk_ne x hc (by decide)) _)⟩,h.le,h.sz,h.ol,h.lo⟩,(Below.refl _ _).setCell (p:=⟨C.gx,4,none⟩) h.lo _⟩
theorem num_on {s:ByteArray} {a q:Nat} (ha:a < s.size) (hq:a < q) (hd:bt s a=45∨isD (bt s a)=true):s.extract a q≠bOn:=by
 intro e
 have h0:=congrArg (fun x:ByteArray=>x.data.toList[0]?) e
 have h1:(s.extract a q).data.toList[0]?=some (s[a]'ha):=by
  rw [ByteArray.data_extract,Array.toList_extract,List.extract_eq_take_drop]
  rw [List.getElem?_take_of_lt (by omega),List.getElem?_drop,Nat.add_zero]
  exact List.getElem?_eq_getElem (by simpa using ha)
 have h2:(some (s[a]'ha):Option UInt8)=some 111:=h1.symm.trans h0
 injection h2 with h2
 have h3:=bt_nat s a ha
 rw [h2] at h3
 have h4:bt s a=111:=h3.symm
 rw [h4] at hd
 rcases hd with hd | hd
 ·cases hd
 ·cases hd
theorem number_walk {BV:List UInt8→ByteArray→Prop} {C:LC} {w:World} {t:LS} (h:LX C w t) (hb:t.bad=false) (ha:t.a < C.s.size) (hd:bt C.s t.a=45∨isD (bt C.s t.a)=true):Calls Tryz.prog 72 #[ptr C.gx] w (LP BV C t w):=by
 have hxa:nx C.s t.a=bt C.s t.a:=by unfold nx;rw [if_pos ha]
 have N0:=mkA (numeral_q h t.a ha (by rw [hxa];exact hd))
 have HP:=mkA h
 have HD:=mkA hd
 have HA:=mkA ha
 have HB:=mkA hb
 have c1:=h.c.2.1
 have SZ:=mkA h.sz
 cases hn:numAt C.s t.a with
 | none =>
   have HN:=mkA hn
   clear h hb ha hd hxa hn
   go_enter Tryz.func72,Tryz.ntmps72
   go_wp2_with (first
    | (go_at_call 92;(with_reducible refine N0.out.mono ?_);rintro e w_ ⟨K_,z_,rfl,hw_,hr_⟩;rw [HN.out] at hr_;subst w_;obtain ⟨rfl,rfl⟩:K_=0∧z_=0:=(by rcases hr_ with ⟨_,r1,r2⟩ | ⟨q,r1,_⟩;exact ⟨r1,r2⟩;cases r1);clear hr_)
    | (go_at_call 75;(with_reducible refine (lfail_walk HP.out).mono ?_);rintro e w_ ⟨rfl,hP,hF⟩;have HP2:=mkA hP;have HF2:=mkA hF;clear hP hF))
   go_end0
   exact ⟨rfl,_,HP2.out,HF2.out,fun x=>x,Nat.le_refl _,.inl rfl,.inr (.inl ⟨rfl,rfl,.numb HA.out HD.out HN.out⟩)⟩
 | some kq =>
   obtain ⟨k,q⟩:=kq
   have HN:=mkA hn
   have HK:=mkA (num_le _ _ _ _ hn)
   have HG:=mkA (num_gt _ _ _ _ hn)
   have hk0:k≠0:=by rcases HK.out.1 with h | h <;> omega
   have p0:=show (k == 0)=false from beq_eq_false_iff_ne.mpr hk0
   have N1:=mkA (next_q h q)
   obtain ⟨c,hc⟩:∃ c,c=nx C.s q:=⟨_,rfl⟩
   rw [← hc] at N1
   have NI:=mkA (isBegin_q c w)
   obtain ⟨b,hbb⟩:∃ b,b=isB c:=⟨_,rfl⟩
   rw [← hbb] at NI
   have f4:=h.fz 4
   have c4:=h.c.2.2.2
   have c0:=h.c.1
   clear h hb ha hd hxa hn hc hbb hk0
   by_cases hz:(c == 46)=true∨b=true
   ·have hz2:(c == 46)=true∨((c == 46)=false∧b=true):=by
     cases h1:(c == 46)
     ·rw [h1] at hz
      exact .inr ⟨rfl,by simpa using hz⟩
     ·exact .inl rfl
    clear hz
    rcases hz2 with p1 | ⟨p1,rfl⟩
    all_goals
     go_enter Tryz.func72,Tryz.ntmps72
     go_wp2_with (first
      | (go_at_call 92;(with_reducible refine N0.out.mono ?_);rintro e w_ ⟨K_,z_,rfl,hw_,hr_⟩;rw [HN.out] at hr_;subst w_;obtain ⟨rfl,rfl⟩:K_=k∧z_=(q:Int):=(by rcases hr_ with ⟨r1,_,_⟩ | ⟨q',r1,r2⟩;cases r1;cases r1;exact ⟨rfl,r2⟩);clear hr_)
      | (go_at_call 70;(with_reducible refine N1.out.mono ?_);rintro e w_ ⟨rfl,hw_⟩;subst w_)
      | (go_at_call 69;(with_reducible refine NI.out.mono ?_);rintro e w_ ⟨rfl,hw_⟩;subst w_)
      | (go_at_call 75;(with_reducible refine (lfail_walk (HP.out.un true).1).mono ?_);rintro e w_ ⟨rfl,hP,hF⟩;have HP2:=mkA hP;have HF2:=mkA ((HP.out.un true).2.trans hF);clear hP hF))
     go_end0
     exact ⟨rfl,_,HP2.out,HF2.out,fun _=>rfl,Nat.le_refl _,.inl rfl,.inl rfl⟩
   ·have p1:(c == 46)=false:=by
     cases h1:(c == 46)
     ·rfl
     ·exact absurd (.inl h1) hz
    have p2:b=false:=by
     cases b
     ·rfl
     ·exact absurd (.inr rfl) hz
    subst b
    clear hz
    have LO:=mkA (show C.B≤w.heap.size from Nat.le_trans HP.out.lo (by obtain ⟨A,cp,hc,_⟩:=HP.out.cell;exact Nat.le_of_lt (blk_lt hc)))
    have CP:=mkA (fun (u:World) (hu:Below w.heap.size w u)=>(add_walk (HP.out.below hu) k q (C.s.extract t.a q) HG.out HK.out.2 ⟨(by have:=HK.out.1;show k≠1;omega),fun e=>absurd e (num_on HA.out HG.out HD.out)⟩).mono (fun e w' q_=>(show e=.returned (.tuple #[])∧LX C w' ⟨q,t.out++[⟨k,t.a,q,C.s.extract t.a q⟩],t.bad,t.un⟩∧Below C.B w w' from ⟨q_.1,q_.2.1,(bel_le hu LO.out).trans q_.2.2⟩)))
    have s1:((t.a:Int)≤(q:Int))=True:=eq_true (by have:=HG.out;omega)
    have s2:((q:Int)≤(C.s.size:Int))=True:=eq_true (by have:=HK.out.2;omega)
    have s3:(t.a≤q)=True:=eq_true (Nat.le_of_lt HG.out)
    have s4:(q≤C.s.size)=True:=eq_true HK.out.2
    go_enter Tryz.func72,Tryz.ntmps72
    go_upto_region 7 with (first
     | (go_at_call 92;(with_reducible refine N0.out.mono ?_);rintro e w_ ⟨K_,z_,rfl,hw_,hr_⟩;rw [HN.out] at hr_;subst w_;obtain ⟨rfl,rfl⟩:K_=k∧z_=(q:Int):=(by rcases hr_ with ⟨r1,_,_⟩ | ⟨q',r1,r2⟩;cases r1;cases r1;exact ⟨rfl,r2⟩);clear hr_)
     | (go_at_call 70;(with_reducible refine N1.out.mono ?_);rintro e w_ ⟨rfl,hw_⟩;subst w_)
     | (go_at_call 69;(with_reducible refine NI.out.mono ?_);rintro e w_ ⟨rfl,hw_⟩;subst w_))
    go_still_tail 13,(by kernel_rfl)
    go_wp2_with (first
     | (go_at_call 67;refine (CP.out _ ?_).mono ?_;(first | exact Below.refl _ _ | exact below_drew1 (Below.refl _ _));rintro e w5 ⟨rfl,q1,q2⟩;have Q1:=mkA q1;have Q2:=mkA q2;clear q1 q2))
    go_end0
    exact ⟨rfl,_,Q1.out,Q2.out,fun x=>x,Nat.le_of_lt HG.out,.inr HG.out,.inr (.inr ⟨HB.out,_,.numb HA.out HD.out HN.out,rfl⟩)⟩
def hxv (c:Int):Int:=if Dg c then hx c else -1
theorem hxv_of {c v:Int} (h1:Dg c→v=hx c) (h2:¬ Dg c→v=-1):v=hxv c:=by
 unfold hxv
 split
 ·exact h1 ‹_›
 ·exact h2 ‹_›
theorem hex_q (c:Int) (h0:0≤c) (h9:c < 256) (w:World):Calls Tryz.prog 125 #[.int .u8 c] w (Qv (.int .i64 (hxv c)) w):=by
 have w1:wrap64 (c - 48)=c - 48:=w64 (by omega) (by omega)
 have w2:wrap64 (c - 97)=c - 97:=w64 (by omega) (by omega)
 have w3:wrap64 (c - 65)=c - 65:=w64 (by omega) (by omega)
 have w4:wrap64 (c - 97+10)=c - 97+10:=w64 (by omega) (by omega)
 have w5:wrap64 (c - 65+10)=c - 65+10:=w64 (by omega) (by omega)
 go_enter Tryz.func125,Tryz.ntmps125
 go_wp2
 all_goals go_ret
 all_goals
  refine ret_eq (congrArg (Value.int .i64) ?_)
  refine hxv_of (fun hd=>?_) (fun hd=>?_)
  all_goals (unfold Dg at hd)
  all_goals first
   | omega
   | (unfold hx;(repeat' split) <;> omega)
theorem enc_conv (c:Int) (u:World) (g:Nat) (h:u.cell? ⟨g,0,none⟩=some (.int .i32 c)):(convert 256 9 (.slice (some ⟨g,0,none⟩) 1 1)).run Tryz.prog u=.ok (.string (runesBytes [c])) u:=by
 refine run_convert_runes u 256 9 21 _ 1 1 [c] (Nat.le_refl 1) Tryz.underlying256 Tryz.underlying21 Tryz.underlying9 ?_
 intro j hj
 have e:j=0:=by simpa using hj
 subst e
 exact h
theorem enc_walk (c:Int) (h0:0≤c) (h9:c < 65536) (w:World):Calls Tryz.prog 126 #[.int .i64 c] w (fun e w'=>e=.returned (.string (runesBytes [c]))∧Below w.heap.size w w'):=by
 have w1:wrap32 c=c:=by unfold wrap32;omega
 have hcv:=fun (u:World) (g:Nat) (h:u.cell? ⟨g,0,none⟩=some (.int .i32 c))=>enc_conv c u g h
 go_enter Tryz.func126,Tryz.ntmps126
 go_wp2
 go_ret
 exact ⟨rfl,below_alloc (Below.refl _ _) _⟩
end Go.Proofs.YthgcghpcikbnkaaGreatDoor.R
