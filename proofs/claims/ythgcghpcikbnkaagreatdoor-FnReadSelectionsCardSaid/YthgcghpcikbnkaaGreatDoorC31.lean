/- A part of the proof of the theorem of this claim: Lxb, Lxk. No condition of its own. -/
import Derived.Test.YthgcghpcikbnkaaGreatDoorC30
set_option maxHeartbeats 16000000
set_option maxRecDepth 100000
namespace Go.Proofs.YthgcghpcikbnkaaGreatDoor.R
open Go.RowKit Go.Proofs.YthgcghpcikbnkaaGreatDoorW.PrintWords Go.Proofs.YthgcghpcikbnkaaGreatDoorW.PrintLast Go.Proofs.YthgcghpcikbnkaaGreatDoorW.PrintMore
set_option linter.unusedVariables false
set_option linter.unusedSimpArgs false
def BlR (o:ByteArray) (p:Bool) (r:ByteArray):Prop:=(∀ w:World,Calls Tryz.prog 93 #[.string o] w fun e w'=>e=.returned (.bool p)∧Below w.heap.size w w')∧(∀ w:World,Calls Tryz.prog 94 #[.string o] w fun e w'=>e=.returned (.string r)∧Below w.heap.size w w')∧(p=true→BVal o.data.toList r)
def BlkH:Prop:=∀ o:ByteArray,o.size≤2002→∃ p r,BlR o p r
def BxR (C:LC) (t:LS) (w:World) (i:Nat) (o:ByteArray) (un:Bool) (wr:World):Prop :=
 LX C wr ⟨t.a,t.out,t.bad,un⟩∧Below C.B w wr∧(t.un=true→un=true)∧(un=true∨Bw C.s (t.a+3) i o.data.toList)∧t.a+3≤i∧i≤C.s.size∧o.size≤i
def BxH (C:LC) (t:LS):Prop:=t.bad=false∧t.a < C.s.size∧tri (dr C.s t.a)=true
theorem BxR.lx {C:LC} {t:LS} {w:World} {i:Nat} {o:ByteArray} {un:Bool} {wr:World} (h:BxR C t w i o un wr):LX C wr ⟨t.a,t.out,t.bad,un⟩:=h.1
theorem BxR.sz {C:LC} {t:LS} {w:World} {i:Nat} {o:ByteArray} {un:Bool} {wr:World} (h:BxR C t w i o un wr):o.size≤i:=h.2.2.2.2.2.2
theorem BxR.lt {C:LC} {t:LS} {w:World} {i:Nat} {o:ByteArray} {un:Bool} {wr:World} (h:BxR C t w i o un wr):t.a < i:=Nat.lt_of_lt_of_le (Nat.lt_add_of_pos_right (by decide)) h.2.2.2.2.1
theorem bx_fail {BV:List UInt8→ByteArray→Prop} {C:LC} {t:LS} {w wr w':World} {i:Nat} {o:ByteArray} {un un':Bool} (H:BxH C t) (h:BxR C t w i o un wr) (hun:un=true→un'=true) (hq:un'=true∨Bb (dr C.s i)) (hl:LX C w' ⟨t.a,t.out,true,un'⟩) (hb:Below C.B wr w'):LP BV C t w (.returned (.tuple #[])) w':=by
 obtain ⟨h1,h2,h3,h4,h5,h6⟩:=h
 refine ⟨rfl,_,hl,h2.trans hb,fun e=>hun (h3 e),Nat.le_refl _,.inl rfl,?_⟩
 cases un' with
 | true=>exact .inl rfl
 | false =>
   rcases hq with hq | hq
   ·cases hq
   rcases h4 with h4 | h4
   ·exact .inl (hun h4)
   ·exact .inr (.inl ⟨rfl,rfl,.block H.2.1 H.2.2 (h4.2 hq)⟩)
theorem bx_done {C:LC} {t:LS} {w wr w':World} {i:Nat} {o r:ByteArray} {un un':Bool} (H:BxH C t) (h:BxR C t w i o un wr) (h3:tri (dr C.s i)=true) (hun:un=true→un'=true) (hv:un'=true∨BVal o.data.toList r) (hl:LX C w' ⟨i+3,t.out++[⟨19,t.a,(i+3:Nat),r⟩],t.bad,un'⟩) (hb:Below C.B wr w'):LP BVal C t w (.returned (.tuple #[])) w':=by
 obtain ⟨h1,h2,h3',h4,h5,h6⟩:=h
 refine ⟨rfl,_,hl,h2.trans hb,fun e=>hun (h3' e),by show t.a≤i+3;omega,.inr (by show t.a < i+3;omega),?_⟩
 rcases hv with hv | hv
 ·exact .inl hv
 rcases h4 with h4 | h4
 ·exact .inl (hun h4)
 ·have hk:=h4.1 _ _ (bk_end h3)
  rw [List.append_nil] at hk
  exact .inr (.inr ⟨H.1,_,.block H.2.1 H.2.2 hk (tri_head h3).1 hv,rfl⟩)
theorem bx_next {C:LC} {t:LS} {w wr w':World} {i j:Nat} {o v:ByteArray} {un un':Bool} (h:BxR C t w i o un wr) (hun:un=true→un'=true) (hj:i≤j∧j≤C.s.size) (hs:v.size≤j - i) (hq:un'=true∨Bw C.s i j v.data.toList) (hl:LX C w' ⟨t.a,t.out,t.bad,un'⟩) (hb:Below C.B wr w'):BxR C t w j (o++v) un' w':=by
 obtain ⟨h1,h2,h3,h4,h5,h6,h7⟩:=h
 refine ⟨hl,h2.trans hb,fun e=>hun (h3 e),?_,by omega,hj.2,by rw [ByteArray.size_append];omega⟩
 rcases hq with hq | hq
 ·exact .inl hq
 rcases h4 with h4 | h4
 ·exact .inl (hun h4)
 ·refine .inr ?_
  rw [show (o++v).data.toList=o.data.toList++v.data.toList from by simp]
  exact h4.trans hq
theorem block_walk (HK:BlkH) {C:LC} {w:World} {t:LS} (h:LX C w t) (H:BxH C t):Calls Tryz.prog 73 #[ptr C.gx] w (LP BVal C t w):=by
 have HP:=mkA h
 have SZ:=mkA h.sz
 have HH:=mkA H
 have HKK:=mkA HK
 have c1:=h.c.2.1
 have W1:wrap64 ((t.a:Int)+3)=((t.a+3:Nat):Int):=by have:=SZ.out;have:=h.le;exact (w64 (by omega) (by omega)).trans (by omega)
 obtain ⟨i1,h1⟩:∃ i1:Nat,i1=t.a+3:=⟨_,rfl⟩
 rw [← h1] at W1
 have H1:=mkA h1
 clear h H h1 HK
 go_enter Tryz.func73,Tryz.ntmps73
 go_wp2
 go_loopw [2,3] (fun v2 v3 wr=>∃ (i:Nat) (o:ByteArray) (un:Bool),v2=.string o∧v3=.int .i64 i∧Aside0 (BxR C t w i o un wr)) (fun _ v3 _=>C.s.size - (intOf v3).toNat)
 case atStart=>exact ⟨i1,⟨#[]⟩,t.un,rfl,by first | rfl | exact congrArg (Value.int .i64) W1,⟨HP.out,Below.refl _ _,fun x=>x,.inr (by rw [H1.out];exact bw_refl _ _),by have:=H1.out;omega,by have:=H1.out;have:=(tri_head HH.out.2.2).1;omega,Nat.zero_le _⟩⟩
 case round =>
  obtain ⟨i,o,un,rfl,rfl,HR⟩:=hrel
  clear c1 W1 H1
  have c0:=HR.out.lx.c.1
  by_cases hi:i < C.s.size
  case neg =>
   have q1:((i:Int) < (C.s.size:Int))=False:=eq_false (by omega)
   have q2:(i < C.s.size)=False:=eq_false hi
   have HE:=mkA (Nat.le_of_not_lt hi)
   clear hi
   go_wp2_with (first
    | (go_at_call 75;(with_reducible refine (lfail_walk HR.out.lx).mono ?_);rintro e w_ ⟨rfl,hP,hF⟩;have HP2:=mkA hP;have HF2:=mkA hF;clear hP hF))
   go_end0
   exact bx_fail HH.out HR.out (fun x=>x) (.inr (bb_fin HE.out)) HP2.out HF2.out
  case pos =>
   have q1:((i:Int) < (C.s.size:Int))=True:=eq_true (by omega)
   have q2:(i < C.s.size)=True:=eq_true hi
   have HI:=mkA hi
   have N3:=mkA (starts_q C.s ⟨#[34,34,34]⟩ i (Nat.le_of_lt hi) SZ.out (by decide) wr)
   have N4:=mkA (starts_q C.s ⟨#[92,34,34,34]⟩ i (Nat.le_of_lt hi) SZ.out (by decide) wr)
   rw [stB_tri] at N3
   rw [stB_etri] at N4
   clear hi
   cases h3:tri (dr C.s i)
   case true =>
    rw [h3] at N3
    have H3:=mkA h3
    have W2:wrap64 ((i:Int)+3)=((i+3:Nat):Int):=by have:=SZ.out;have:=HI.out;exact (w64 (by omega) (by omega)).trans (by omega)
    obtain ⟨j1,hj1⟩:∃ j1:Nat,j1=i+3:=⟨_,rfl⟩
    rw [← hj1] at W2
    have HJ1:=mkA hj1
    obtain ⟨p,r,hp,hr,hv⟩:=HKK.out o (by have:=HR.out.2.2.2.2.2.2;have:=HI.out;have:=SZ.out;omega)
    have K1:=mkA hp
    have K2:=mkA hr
    have HV:=mkA hv
    have LO:=mkA (show C.B≤wr.heap.size from Nat.le_trans HR.out.lx.lo (by obtain ⟨A,cp,hc,_⟩:=HR.out.lx.cell;exact Nat.le_of_lt (blk_lt hc)))
    have c4:=HR.out.lx.c.2.2.2
    have f4:=HR.out.lx.fz 4
    clear h3 hj1 hp hr hv
    cases un
    case true =>
     go_wp2_with (first
      | (go_at_call 65;(with_reducible refine N3.out.mono ?_);rintro e w_ ⟨rfl,hw_⟩;subst w_)
      | (go_at_call 94;(with_reducible refine (K2.out _).mono ?_);rintro e w1 ⟨rfl,hb⟩;have HL1:=mkA ((HR.out.lx.un true).1.below hb);have HB1:=mkA ((HR.out.lx.un true).2.trans (bel_le hb (Nat.le_trans LO.out (HR.out.lx.un true).2.size)));clear hb)
      | (go_at_call 67;(with_reducible refine (add_walk HL1.out 19 j1 r (by have:=HJ1.out;have:=HR.out.lt;exact (show t.a < j1 by omega)) (by have:=HJ1.out;have:=(tri_head H3.out).1;omega) tk_blk).mono ?_);rintro e w_ ⟨rfl,hP,hF⟩;have HP2:=mkA hP;have HF2:=mkA hF;clear hP hF))
     go_end0
     exact bx_done HH.out HR.out H3.out (fun _=>rfl) (.inl rfl) (by rw [← HJ1.out];exact HP2.out) (HB1.out.trans HF2.out)
    case false =>
     cases p
     all_goals
      go_wp2_with (first
       | (go_at_call 65;(with_reducible refine N3.out.mono ?_);rintro e w_ ⟨rfl,hw_⟩;subst w_)
       | (go_at_call 93;(with_reducible refine (K1.out _).mono ?_);rintro e w1 ⟨rfl,hb⟩;have HL1:=mkA (HR.out.lx.below hb);have HB1:=mkA (bel_le hb LO.out);clear hb c4 f4;have c4:=HL1.out.c.2.2.2;have f4:=HL1.out.fz 4)
       | (go_at_call 94;(with_reducible refine (K2.out _).mono ?_);rintro e w2 ⟨rfl,hb⟩;have HL2:=mkA ((HL1.out.un _).1.below hb);have HB2:=mkA (HB1.out.trans ((HL1.out.un _).2.trans (bel_le hb (Nat.le_trans LO.out (HB1.out.trans (HL1.out.un _).2).size))));clear hb)
       | (go_at_call 67;(with_reducible refine (add_walk HL2.out 19 j1 r (by have:=HJ1.out;have:=HR.out.lt;exact (show t.a < j1 by omega)) (by have:=HJ1.out;have:=(tri_head H3.out).1;omega) tk_blk).mono ?_);rintro e w_ ⟨rfl,hP,hF⟩;have HP2:=mkA hP;have HF2:=mkA hF;clear hP hF))
      go_end0
      first
       | exact bx_done (r:=r) (un':=false) HH.out HR.out H3.out (fun x=>by cases x) (.inr (HV.out rfl)) (by rw [← HJ1.out];exact HP2.out) (HB2.out.trans HF2.out)
       | exact bx_done (r:=r) (un':=false) HH.out HR.out H3.out (fun x=>by cases x) (.inr (HV.out trivial)) (by rw [← HJ1.out];exact HP2.out) (HB2.out.trans HF2.out)
       | exact bx_done (r:=r) (un':=true) HH.out HR.out H3.out (fun x=>by cases x) (.inl rfl) (by rw [← HJ1.out];exact HP2.out) (HB2.out.trans HF2.out)
   case false =>
   rw [h3] at N3
   have H3:=mkA h3
   clear h3
   cases h4:etri (dr C.s i)
   case true =>
    rw [h4] at N4
    have H4:=mkA h4
    have W2:wrap64 ((i:Int)+4)=((i+4:Nat):Int):=by have:=SZ.out;have:=HI.out;exact (w64 (by omega) (by omega)).trans (by omega)
    obtain ⟨j1,hj1⟩:∃ j1:Nat,j1=i+4:=⟨_,rfl⟩
    rw [← hj1] at W2
    have HJ1:=mkA hj1
    have c4:=HR.out.lx.c.2.2.2
    have f4:=HR.out.lx.fz 4
    have z1:(9223372036854775807 < o.size+3)=False:=eq_false (by have:=HR.out.sz;have:=HI.out;have:=SZ.out;omega)
    have z2:(9223372036854775807 < o.size+(ByteArray.mk #[34,34,34]).size)=False:=z1
    clear h4 hj1
    go_wp2_with (first
     | (go_at_call 65;(with_reducible refine N3.out.mono ?_);rintro e w_ ⟨rfl,hw_⟩;subst w_)
     | (go_at_call 65;(with_reducible refine N4.out.mono ?_);rintro e w_ ⟨rfl,hw_⟩;subst w_))
    go_roundw
    case rel=>exact ⟨j1,o++⟨#[34,34,34]⟩,true,rfl,congrArg (Value.int .i64) W2,⟨bx_next HR.out (fun _=>rfl) (by have:=HJ1.out;have:=(etri_head H4.out).1;omega) (by have:=HJ1.out;show 3≤j1 - i;omega) (.inl rfl) (HR.out.lx.un true).1 (HR.out.lx.un true).2⟩⟩
    case measure=>rw [W2];have:=HJ1.out;have:=HI.out;simp only [intOf];omega
   case false =>
    rw [h4] at N4
    have H4:=mkA h4
    clear h4
    have HPt:=mkA (ptF_ok C.s i)
    have HP0:=mkA (point_d C.s i HI.out SZ.out wr)
    obtain ⟨c,hc⟩:∃ c,c=(ptF C.s i).1:=⟨_,rfl⟩
    obtain ⟨n,hn⟩:∃ n,n=(ptF C.s i).2:=⟨_,rfl⟩
    rw [← hc,← hn] at HPt HP0
    have HS0:=mkA (source_q c wr)
    obtain ⟨is,his⟩:∃ is,is=decide (c=9∨c=10∨c=13∨32≤c):=⟨_,rfl⟩
    obtain ⟨su,hsu⟩:∃ su,su=decide (c≤65535):=⟨_,rfl⟩
    rw [← his,← hsu] at HS0
    have HIS:=mkA his
    clear hc hn his hsu
    go_upto_region 5 with (first
     | (go_at_call 65;(with_reducible refine N3.out.mono ?_);rintro e w_ ⟨rfl,hw_⟩;subst w_)
     | (go_at_call 65;(with_reducible refine N4.out.mono ?_);rintro e w_ ⟨rfl,hw_⟩;subst w_)
     | (go_at_call 33;(with_reducible refine HP0.out.mono ?_);rintro e w_ ⟨rfl,hw_⟩;subst w_)
     | (go_at_call 91;(with_reducible refine HS0.out.mono ?_);rintro e w_ ⟨rfl,hw_⟩;subst w_))
    have c4:=HR.out.lx.c.2.2.2
    have f4:=HR.out.lx.fz 4
    by_cases hn:n=0
    ·subst hn
     cases un
     all_goals
      go_wp2_with (first
       | (go_at_call 75;(with_reducible refine (lfail_walk (HR.out.lx.un true).1).mono ?_);rintro e w_ ⟨rfl,hP,hF⟩;have HP2:=mkA hP;have HF2:=mkA hF;clear hP hF))
      go_end0
      exact bx_fail HH.out HR.out (fun _=>rfl) (.inl rfl) HP2.out ((HR.out.lx.un true).2.trans HF2.out)
    ·have hq:=pt_block HI.out HPt.out hn H3.out H4.out
     have p0:(n == 0)=false:=beq_eq_false_iff_ne.mpr hn
     rcases hq with ⟨hc,m,hm,hm1,hm2,hq⟩ | ⟨hc,hq⟩
     ·have e1:is=true:=by rw [HIS.out];exact decide_eq_true hc
      subst e1
      subst hm
      have HQ:=mkA hq
      have HM:=mkA (And.intro hm1 hm2)
      have W3:wrap64 ((i:Int)+(m:Int))=((i+m:Nat):Int):=by have:=SZ.out;exact (w64 (by omega) (by omega)).trans (by omega)
      obtain ⟨j2,hj2⟩:∃ j2:Nat,j2=i+m:=⟨_,rfl⟩
      rw [← hj2] at W3
      have HJ2:=mkA hj2
      have s1:((i:Int)≤(j2:Int))=True:=eq_true (by omega)
      have s2:((j2:Int)≤(C.s.size:Int))=True:=eq_true (by omega)
      have s3:(i≤j2)=True:=eq_true (by omega)
      have s4:(j2≤C.s.size)=True:=eq_true (by omega)
      clear hc hm1 hm2 hq hj2 hn
      have HX:=mkA (show (C.s.extract i j2).data.toList=(dr C.s i).take m by rw [HJ2.out];exact ext_list _ _ _)
      have HXS:=mkA (show (C.s.extract i j2).size≤j2 - i by rw [ByteArray.size_extract];omega)
      have z1:(9223372036854775807 < o.size+(C.s.extract i j2).size)=False:=eq_false (by have:=HR.out.sz;have:=HI.out;have:=SZ.out;have:=HXS.out;have:=HJ2.out;have:=HM.out;omega)
      have z2:(9223372036854775807 < o.size+(j2 - i))=False:=eq_false (by have:=HR.out.sz;have:=HI.out;have:=SZ.out;have:=HJ2.out;have:=HM.out;omega)
      cases un <;> cases su
      all_goals
       go_wp2
       go_roundw
       case rel=>first
        | exact ⟨j2,o++C.s.extract i j2,true,rfl,congrArg (Value.int .i64) W3,⟨bx_next HR.out (fun _=>rfl) (by have:=HJ2.out;have:=HM.out;omega) HXS.out (.inl rfl) (HR.out.lx.un true).1 (HR.out.lx.un true).2⟩⟩
        | exact ⟨j2,o++C.s.extract i j2,false,rfl,congrArg (Value.int .i64) W3,⟨bx_next HR.out (fun x=>x) (by have:=HJ2.out;have:=HM.out;omega) HXS.out (.inr (by rw [HX.out,HJ2.out];exact HQ.out)) (HR.out.lx.un false).1 (HR.out.lx.un false).2⟩⟩
       case measure=>rw [W3];have:=HJ2.out;have:=HI.out;have:=HM.out;simp only [intOf];omega
     ·have e1:is=false:=by rw [HIS.out];exact decide_eq_false hc
      subst e1
      have HQ:=mkA hq
      clear hc hq hn
      cases un
      all_goals
       go_wp2_with (first
        | (go_at_call 75;(with_reducible refine (lfail_walk (HR.out.lx.un _).1).mono ?_);rintro e w_ ⟨rfl,hP,hF⟩;have HP2:=mkA hP;have HF2:=mkA hF;clear hP hF))
       go_end0
       exact bx_fail HH.out HR.out (fun x=>x) (.inr HQ.out) HP2.out ((HR.out.lx.un _).2.trans HF2.out)
theorem LX.bd {C:LC} {w:World} {t:LS} (h:LX C w t) (b:Bool):LX C (w.setCell ⟨C.gx,3,none⟩ (.bool b)) ⟨t.a,t.out,b,t.un⟩∧Below C.B w (w.setCell ⟨C.gx,3,none⟩ (.bool b)):=by
 obtain ⟨A,cp,hc,ho⟩:=h.cell
 exact ⟨⟨⟨A,cp,blk_put (cs:=#[.string C.s,.int .i64 t.a,.slice A t.out.length cp,.bool t.bad,.bool t.un]) hc 3 _ rfl,own_typ ho (fun g cs x=>blk_far (p:=⟨C.gx,3,none⟩) x (blk_ne x hc (by decide)) _)⟩,h.le,h.sz,h.ol,h.lo⟩,(Below.refl _ _).setCell (p:=⟨C.gx,3,none⟩) h.lo _⟩
theorem LX.go {C:LC} {w:World} {t:LS} (h:LX C w t) (j:Nat) (h1:t.a≤j) (h2:j≤C.s.size):LX C (w.setCell ⟨C.gx,1,none⟩ (.int .i64 j)) ⟨j,t.out,t.bad,t.un⟩∧Below C.B w (w.setCell ⟨C.gx,1,none⟩ (.int .i64 j)):=by
 obtain ⟨A,cp,hc,ho⟩:=h.cell
 exact ⟨⟨⟨A,cp,blk_put (cs:=#[.string C.s,.int .i64 t.a,.slice A t.out.length cp,.bool t.bad,.bool t.un]) hc 1 _ rfl,own_typ ho (fun g cs x=>blk_far (p:=⟨C.gx,1,none⟩) x (blk_ne x hc (by decide)) _)⟩,h2,h.sz,⟨Nat.le_trans h.ol.1 h1,h.ol.2⟩,h.lo⟩,(Below.refl _ _).setCell (p:=⟨C.gx,1,none⟩) h.lo _⟩
def latN (g:Nat) (w:World):Nat:=match w.cell? ⟨g,1,none⟩ with
 | some v=>(intOf v).toNat
 | none=>0
theorem LX.lat {C:LC} {w:World} {t:LS} (h:LX C w t):latN C.gx w=t.a:=by
 unfold latN
 rw [h.c.2.1]
 simp [intOf]
theorem lat_lt {C:LC} {w w':World} {t t':LS} (h:LX C w t) (h':LX C w' t') (hl:t.a < t'.a):C.s.size - latN C.gx w' < C.s.size - latN C.gx w:=by
 rw [h.lat,h'.lat]
 have:=h'.le
 omega
def CmR (C:LC) (t:LS) (w:World) (i:Nat) (un:Bool) (wr:World):Prop :=
 LX C wr ⟨i,t.out,t.bad,un⟩∧Below C.B w wr∧(t.un=true→un=true)∧(un=true∨Cw C.s t.a i)∧t.a≤i
theorem CmR.lx {C:LC} {t:LS} {w:World} {i:Nat} {un:Bool} {wr:World} (h:CmR C t w i un wr):LX C wr ⟨i,t.out,t.bad,un⟩:=h.1
def LN (C:LC) (t:LS) (w:World) (e:Ending) (w':World):Prop:=e=.returned (.tuple #[])∧∃ t',LX C w' t'∧Below C.B w w'∧Tn BVal C.s t t'
theorem cw_more {s:ByteArray} {p i:Nat} {c n:Int} {un:Bool} (h:un=true∨Cw s p i) (hi:i < s.size) (hl:bt s i≠10∧bt s i≠13) (hp:PtR s i c n) (hn:n≠0) :
 ∃ m:Nat,n=m∧1≤m∧i+m≤s.size∧(un=true∨¬ (c=9∨c=10∨c=13∨32≤c)∨128≤c∨Cw s p (i+m)):=by
 rcases h with h | h
 ·rcases hp with h0 | ⟨h1,h2,h3⟩ | ⟨m,h1,h2,h3,h4,h5⟩
  ·exact absurd h0 hn
  ·exact ⟨1,h1,Nat.le_refl _,hi,.inl h⟩
  ·exact ⟨m,h1,by omega,h3,.inl h⟩
 ·obtain ⟨m,h1,h2,h3,h4⟩:=cw_step h hi hl hp hn
  exact ⟨m,h1,h2,h3,.inr h4⟩
theorem cm_bad {C:LC} {t:LS} {w wr w':World} {i:Nat} {un:Bool} (h:CmR C t w i un wr) (hl:LX C w' ⟨i,t.out,true,true⟩) (hb:Below C.B wr w'):LN C t w (.returned (.tuple #[])) w' :=
 ⟨rfl,_,hl,h.2.1.trans hb,fun _=>rfl,h.2.2.2.2,.inl rfl,.inl rfl⟩
theorem cm_end {C:LC} {t:LS} {w wr:World} {i n:Nat} {un:Bool} (h:CmR C t w i un wr) (hb:t.bad=false) (h35:bt C.s t.a=35) (hlt:t.a < C.s.size) (hi:i≤C.s.size) (he:C.s.size≤i∨bt C.s i=10∨bt C.s i=13):LN C t w (.returned (.tuple #[])) (wr.drewN n):=by
 obtain ⟨h1,h2,h3,h4,h5⟩:=h
 have hne:t.a≠i:=by intro e;rw [← e] at he;omega
 refine ⟨rfl,_,h1.drewN n,pw_below_drewN h2 n,tn_skip h3 (by show t.a < i;omega) ?_⟩
 rcases h4 with h4 | h4
 ·exact .inl h4
 ·exact .inr ⟨hb,rfl,(sc_hash hlt h35).trans (cw_end h4 hi he)⟩
theorem cm_next {C:LC} {t:LS} {w wr w':World} {i j:Nat} {un un':Bool} (h:CmR C t w i un wr) (hun:un=true→un'=true) (hj:i≤j) (hq:un'=true∨Cw C.s t.a j) (hl:LX C w' ⟨j,t.out,t.bad,un'⟩) (hb:Below C.B wr w'):CmR C t w j un' w' :=
 ⟨hl,h.2.1.trans hb,fun e=>hun (h.2.2.1 e),hq,Nat.le_trans h.2.2.2.2 hj⟩
theorem comment_walk {C:LC} {w:World} {t:LS} (h:LX C w t) (hb:t.bad=false) (ha:t.a < C.s.size) (h35:bt C.s t.a=35):Calls Tryz.prog 66 #[ptr C.gx] w (LN C t w):=by
 have HP:=mkA h
 have SZ:=mkA h.sz
 have HA:=mkA ha
 have HB:=mkA hb
 have H35:=mkA h35
 clear h hb ha h35
 go_enter Tryz.func66,Tryz.ntmps66
 go_wp2
 go_loopw [2] (fun v2 wr=>∃ (i:Nat) (un:Bool),Aside0 (CmR C t w i un wr)) (fun _ wr=>C.s.size - latN C.gx wr)
 case atStart=>exact ⟨t.a,t.un,⟨HP.out,Below.refl _ _,fun x=>x,.inr rfl,Nat.le_refl _⟩⟩
 case round =>
  obtain ⟨i,un,HR⟩:=hrel
  have c0:=HR.out.lx.c.1
  have c1:=HR.out.lx.c.2.1
  have HLE:=mkA HR.out.lx.le
  by_cases hi:i < C.s.size
  case neg =>
   have q1:((i:Int) < (C.s.size:Int))=False:=eq_false (by omega)
   have q2:(i < C.s.size)=False:=eq_false hi
   have HE:=mkA (Nat.le_of_not_lt hi)
   clear hi
   go_upto_region 0 with (fail)
   go_quiet (fail)
   go_wp2
   go_end0
   exact cm_end HR.out HB.out H35.out HA.out HLE.out (.inl HE.out)
  case pos =>
   have q1:((i:Int) < (C.s.size:Int))=True:=eq_true (by omega)
   have q2:(i < C.s.size)=True:=eq_true hi
   have hbt:=bt_nat C.s i hi
   obtain ⟨b,hbv⟩:∃ b,b=bt C.s i:=⟨_,rfl⟩
   rw [← hbv] at hbt
   have HBV:=mkA hbv
   have HI:=mkA hi
   clear hbv
   by_cases bnl:b=10∨b=13
   case pos =>
    have HE:=mkA (show bt C.s i=10∨bt C.s i=13 by rw [← HBV.out];exact bnl)
    have bnl2:(b == 10)=true∨((b == 10)=false∧(b == 13)=true):=by
     rcases bnl with h | h
     ·exact .inl (by rw [h];rfl)
     ·exact .inr ⟨by rw [h];rfl,by rw [h];rfl⟩
    have bnl3:(b != 10)=false∨((b != 10)=true∧(b != 13)=false):=by
     rcases bnl with h | h
     ·exact .inl (by rw [h];rfl)
     ·exact .inr ⟨by rw [h];rfl,by rw [h];rfl⟩
    clear bnl bnl2
    rcases bnl3 with p1 | ⟨p1,p2⟩
    all_goals
     go_upto_region 0 with (fail)
     go_quiet (fail)
     go_wp2
     go_end0
     exact cm_end HR.out HB.out H35.out HA.out HLE.out (.inr HE.out)
   case neg =>
    have p10:(b != 10)=true:=bne_iff_ne.2 (fun h=>bnl (.inl h))
    have p13:(b != 13)=true:=bne_iff_ne.2 (fun h=>bnl (.inr h))
    have HNL:=mkA (show bt C.s i≠10∧bt C.s i≠13 by rw [← HBV.out];omega)
    have HPt:=mkA (ptF_ok C.s i)
    have HP0:=fun u:World=>point_d C.s i hi SZ.out u
    obtain ⟨c,hc⟩:∃ c,c=(ptF C.s i).1:=⟨_,rfl⟩
    obtain ⟨n,hn⟩:∃ n,n=(ptF C.s i).2:=⟨_,rfl⟩
    rw [← hc,← hn] at HPt HP0
    have HP0:=mkA HP0
    clear bnl hc hn
    go_upto_region 0 with (fail)
    go_quiet (fail)
    go_upto_region 1 with (fail)
    go_quiet (first | (go_at_call 33;(with_reducible refine (HP0.out _).mono ?_);rintro e w_ ⟨rfl,rfl⟩;(first | exact ⟨rfl,_,World.drewN_drewN _ _ _⟩ | exact ⟨rfl,_,rfl⟩)))
    have c3:=HR.out.lx.c.2.2.1
    have c4:=HR.out.lx.c.2.2.2
    have f1:=HR.out.lx.fz 1
    have f3:=HR.out.lx.fz 3
    have f4:=HR.out.lx.fz 4
    clear hbt p10 p13
    by_cases hn:n=0
    case pos =>
     subst hn
     go_wp2
     go_end0
     exact cm_bad HR.out (((HR.out.lx.drewN _).bd true).1.un true).1 ((pw_below_drewN (Below.refl _ _) _).trans (((HR.out.lx.drewN _).bd true).2.trans (((HR.out.lx.drewN _).bd true).1.un true).2))
    case neg =>
     obtain ⟨m,hm,hm1,hm2,hq⟩:=cw_more HR.out.2.2.2.1 HI.out HNL.out HPt.out hn
     have p0:(n == 0)=false:=beq_eq_false_iff_ne.mpr hn
     have HQ:=mkA hq
     have HS0:=mkA (fun u:World=>source_q c u)
     obtain ⟨is,his⟩:∃ is,is=decide (c=9∨c=10∨c=13∨32≤c):=⟨_,rfl⟩
     obtain ⟨su,hsu⟩:∃ su,su=decide (c≤65535):=⟨_,rfl⟩
     rw [← his,← hsu] at HS0
     have HIS:=mkA his
     subst hm
     have W3:wrap64 ((i:Int)+(m:Int))=((i+m:Nat):Int):=by have:=SZ.out;exact (w64 (by omega) (by omega)).trans (by omega)
     obtain ⟨j2,hj2⟩:∃ j2:Nat,j2=i+m:=⟨_,rfl⟩
     rw [← hj2] at W3 HQ
     have HJ2:=mkA (show i≤j2∧i < j2∧j2≤C.s.size by omega)
     clear hn hm1 hm2 hq his hsu hj2 q1 q2
     obtain ⟨b8,hb8⟩:∃ b8,b8=decide (128≤c):=⟨_,rfl⟩
     have p8:decide (128≤c)=b8:=hb8.symm
     have H8:=mkA hb8
     clear hb8
     cases un <;> cases su <;> cases is <;> cases b8
     case false.true.true.false =>
      go_wp2_with (first
       | (go_at_call 91;(with_reducible refine (HS0.out _).mono ?_);rintro e w_ ⟨rfl,hw_⟩;subst w_))
      go_roundw
      case rel =>
       exact ⟨j2,false,⟨cm_next HR.out (fun x=>x) HJ2.out.1 (by
        refine .inr ?_
        rcases HQ.out with h | h | h | h
        ·cases h
        ·exact absurd (of_decide_eq_true HIS.out.symm) h
        ·exact absurd h (of_decide_eq_false H8.out.symm)
        ·exact h) (((HR.out.lx.drewN _).un false).1.go j2 HJ2.out.1 HJ2.out.2.2).1 ((pw_below_drewN (Below.refl _ _) _).trans (((HR.out.lx.drewN _).un false).2.trans (((HR.out.lx.drewN _).un false).1.go j2 HJ2.out.1 HJ2.out.2.2).2))⟩⟩
      case measure=>exact lat_lt HR.out.lx (((HR.out.lx.drewN _).un false).1.go j2 HJ2.out.1 HJ2.out.2.2).1 HJ2.out.2.1
     all_goals
      go_wp2_with (first
       | (go_at_call 91;(with_reducible refine (HS0.out _).mono ?_);rintro e w_ ⟨rfl,hw_⟩;subst w_))
      go_roundw
      case rel =>
       exact ⟨j2,true,⟨cm_next HR.out (fun _=>rfl) HJ2.out.1 (.inl rfl) (((HR.out.lx.drewN _).un true).1.go j2 HJ2.out.1 HJ2.out.2.2).1 ((pw_below_drewN (Below.refl _ _) _).trans (((HR.out.lx.drewN _).un true).2.trans (((HR.out.lx.drewN _).un true).1.go j2 HJ2.out.1 HJ2.out.2.2).2))⟩⟩
      case measure=>exact lat_lt HR.out.lx (((HR.out.lx.drewN _).un true).1.go j2 HJ2.out.1 HJ2.out.2.2).1 HJ2.out.2.1
end Go.Proofs.YthgcghpcikbnkaaGreatDoor.R
