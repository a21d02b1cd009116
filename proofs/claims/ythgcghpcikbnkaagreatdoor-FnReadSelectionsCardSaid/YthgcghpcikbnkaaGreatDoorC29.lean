/- A part of the proof of the theorem of this claim: Lxs. No condition of its own. -/
import Derived.Test.YthgcghpcikbnkaaGreatDoorC28
set_option maxHeartbeats 16000000
set_option maxRecDepth 100000
namespace Go.Proofs.YthgcghpcikbnkaaGreatDoor.R
open Go.RowKit Go.Proofs.YthgcghpcikbnkaaGreatDoorW.PrintWords Go.Proofs.YthgcghpcikbnkaaGreatDoorW.PrintLast Go.Proofs.YthgcghpcikbnkaaGreatDoorW.PrintMore
set_option linter.unusedVariables false
set_option linter.unusedSimpArgs false
def esI (c:Int):Option UInt8:=if c=34 then some 34 else if c=92 then some 92 else if c=47 then some 47 else if c=98 then some 8 else if c=102 then some 12 else if c=110 then some 10 else if c=114 then some 13 else if c=116 then some 9 else none
def hn (s:ByteArray) (i:Nat):Nat→Int
 | 0=>0
 | k+1=>16 * hn s i k+hxv (nx s (i+k))
def frB:List Int:=[34,92,47,98,102,110,114,116]
def ErR (s:ByteArray) (i:Nat) (v:ByteArray) (n:Int) (un:Bool):Prop :=
 (n=0∧(un=true∨(esI (nx s (i+1))=none∧(nx s (i+1)≠117∨∃ k,k < 4∧(∀ j,j < k→0≤hxv (nx s (i+2+j)))∧hxv (nx s (i+2+k)) < 0)))) ∨
 (n=2∧∃ b,esI (nx s (i+1))=some b∧v=⟨#[b]⟩) ∨
 (n=6∧nx s (i+1)=117∧(∀ j,j < 4→0≤hxv (nx s (i+2+j)))∧v=runesBytes [hn s (i+2) 4]∧(hn s (i+2) 4 < 55296∨57344≤hn s (i+2) 4))
def ErP (C:LC) (t:LS) (i:Nat) (w:World) (e:Ending) (w':World):Prop:=∃ (v:ByteArray) (n:Int) (un:Bool),e=.returned (.tuple #[.string v,.int .i64 n])∧LX C w' ⟨t.a,t.out,t.bad,un⟩∧Below C.B w w'∧(t.un=true→un=true)∧ErR C.s i v n un
theorem er_two {C:LC} {t:LS} {w:World} {i:Nat} {c:Int} {b:UInt8} {v:ByteArray} (h:LX C w t) (hc:c=nx C.s (i+1)) (he:esI c=some b) (hv:v=⟨#[b]⟩):ErP C t i w (.returned (.tuple #[.string v,.int .i64 2])) w :=
 ⟨v,2,t.un,rfl,h,Below.refl _ _,fun x=>x,.inr (.inl ⟨rfl,b,by rw [← hc];exact he,hv⟩)⟩
theorem er_no {C:LC} {t:LS} {w:World} {i:Nat} {c:Int} (h:LX C w t) (hc:c=nx C.s (i+1)) (he:esI c=none) (hu:c≠117):ErP C t i w (.returned (.tuple #[.string ⟨#[]⟩,.int .i64 0])) w :=
 ⟨_,0,t.un,rfl,h,Below.refl _ _,fun x=>x,.inl ⟨rfl,.inr ⟨by rw [← hc];exact he,.inl (by rw [← hc];exact hu)⟩⟩⟩
theorem frb_none {c:Int} (h:∀ k,k < 8→frB.getD k 0≠c):esI c=none:=by
 have h0:34≠c:=h 0 (by decide)
 have h1:92≠c:=h 1 (by decide)
 have h2:47≠c:=h 2 (by decide)
 have h3:98≠c:=h 3 (by decide)
 have h4:102≠c:=h 4 (by decide)
 have h5:110≠c:=h 5 (by decide)
 have h6:114≠c:=h 6 (by decide)
 have h7:116≠c:=h 7 (by decide)
 unfold esI
 rw [if_neg (by omega),if_neg (by omega),if_neg (by omega),if_neg (by omega),if_neg (by omega),if_neg (by omega),if_neg (by omega),if_neg (by omega)]
theorem hxv_lo (c:Int):hxv c≤15∧-1≤hxv c:=by
 unfold hxv
 split
 ·rename_i hd
  unfold hx
  rcases hd with h | h | h
  ·rw [if_pos (by omega)];omega
  ·rw [if_neg (by omega),if_neg (by omega)];omega
  ·rw [if_neg (by omega),if_pos (by omega)];omega
 ·omega
theorem hn_lo (s:ByteArray) (i k:Nat) (hk:k≤4) (h:∀ j,j < k→0≤hxv (nx s (i+j))):0≤hn s i k∧hn s i k≤65535:=by
 have b:=fun j=>(hxv_lo (nx s (i+j))).1
 match k,hk,h with
 | 0,_,_=>simp [hn]
 | 1,_,h=>have:=h 0 (by omega);have:=b 0;simp only [hn];omega
 | 2,_,h=>have:=h 0 (by omega);have:=b 0;have:=h 1 (by omega);have:=b 1;simp only [hn];omega
 | 3,_,h=>have:=h 0 (by omega);have:=b 0;have:=h 1 (by omega);have:=b 1;have:=h 2 (by omega);have:=b 2;simp only [hn];omega
 | 4,_,h=>have:=h 0 (by omega);have:=b 0;have:=h 1 (by omega);have:=b 1;have:=h 2 (by omega);have:=b 2;have:=h 3 (by omega);have:=b 3;simp only [hn];omega
 | (n+5),hk,_=>exact absurd hk (by omega)
theorem escape_walk {C:LC} {w:World} {t:LS} (h:LX C w t) (i:Nat) (hi:i < C.s.size):Calls Tryz.prog 95 #[ptr C.gx,.int .i64 i] w (ErP C t i w):=by
 obtain ⟨ta,tq,tb,tu⟩:=t
 have HP:=mkA h
 have SZ:=mkA h.sz
 have HI:=mkA hi
 have N1:=mkA (next_q h (i+1))
 have W1:wrap64 ((i:Int)+1)=((i+1:Nat):Int):=by have:=SZ.out;exact (w64 (by omega) (by omega)).trans (by omega)
 obtain ⟨i1,h1⟩:∃ i1:Int,i1=((i+1:Nat):Int):=⟨_,rfl⟩
 obtain ⟨c,hc⟩:∃ c,c=nx C.s (i+1):=⟨_,rfl⟩
 rw [← h1] at W1 N1
 rw [← hc] at N1
 have HCC:=mkA hc
 clear h hi h1 hc
 go_enter Tryz.func95,Tryz.ntmps95
 go_wp2_with (first
  | (go_at_call 70;(with_reducible refine N1.out.mono ?_);rintro e w_ ⟨rfl,hw_⟩;subst w_))
 go_loop [4,5,9] (fun v4 v5 v9=>v4=.string ⟨#[]⟩∧v5=.int .i64 0∧∃ j:Nat,v9=.int .i64 j∧Aside0 (j≤8∧∀ k,k < j→frB.getD k 0≠c)) (fun _ _ v9=>8 - (intOf v9).toNat)
 case atStart=>exact ⟨rfl,rfl,0,rfl,⟨by omega,fun k hk=>absurd hk (by omega)⟩⟩
 case round =>
  obtain ⟨rfl,rfl,j,rfl,HR⟩:=hrel
  match j,HR with
  | 0,HR =>
    go_wp2
    all_goals first
     | (go_ret2;rename_i he_ _;exact er_two (b:=34) HP.out HCC.out (by have e_:c=34:=(eq_of_beq he_).symm.trans (by decide);rw [e_];rfl) (by decide))
     | (rename_i he_
        go_round
        case rel=>exact ⟨rfl,rfl,1,rfl,⟨by omega,fun k hk=>by rcases Nat.lt_or_ge k 0 with h | h;exact HR.out.2 k h;have e_:k=0:=(by omega);rw [e_];show (34:Int)≠c;exact fun e_=>(beq_eq_false_iff_ne.mp he_) (Eq.trans (by decide) e_)⟩⟩
        case measure=>decide)
  | 1,HR =>
    go_wp2
    all_goals first
     | (go_ret2;rename_i he_ _;exact er_two (b:=92) HP.out HCC.out (by have e_:c=92:=(eq_of_beq he_).symm.trans (by decide);rw [e_];rfl) (by decide))
     | (rename_i he_
        go_round
        case rel=>exact ⟨rfl,rfl,2,rfl,⟨by omega,fun k hk=>by rcases Nat.lt_or_ge k 1 with h | h;exact HR.out.2 k h;have e_:k=1:=(by omega);rw [e_];show (92:Int)≠c;exact fun e_=>(beq_eq_false_iff_ne.mp he_) (Eq.trans (by decide) e_)⟩⟩
        case measure=>decide)
  | 2,HR =>
    go_wp2
    all_goals first
     | (go_ret2;rename_i he_ _;exact er_two (b:=47) HP.out HCC.out (by have e_:c=47:=(eq_of_beq he_).symm.trans (by decide);rw [e_];rfl) (by decide))
     | (rename_i he_
        go_round
        case rel=>exact ⟨rfl,rfl,3,rfl,⟨by omega,fun k hk=>by rcases Nat.lt_or_ge k 2 with h | h;exact HR.out.2 k h;have e_:k=2:=(by omega);rw [e_];show (47:Int)≠c;exact fun e_=>(beq_eq_false_iff_ne.mp he_) (Eq.trans (by decide) e_)⟩⟩
        case measure=>decide)
  | 3,HR =>
    go_wp2
    all_goals first
     | (go_ret2;rename_i he_ _;exact er_two (b:=8) HP.out HCC.out (by have e_:c=98:=(eq_of_beq he_).symm.trans (by decide);rw [e_];rfl) (by decide))
     | (rename_i he_
        go_round
        case rel=>exact ⟨rfl,rfl,4,rfl,⟨by omega,fun k hk=>by rcases Nat.lt_or_ge k 3 with h | h;exact HR.out.2 k h;have e_:k=3:=(by omega);rw [e_];show (98:Int)≠c;exact fun e_=>(beq_eq_false_iff_ne.mp he_) (Eq.trans (by decide) e_)⟩⟩
        case measure=>decide)
  | 4,HR =>
    go_wp2
    all_goals first
     | (go_ret2;rename_i he_ _;exact er_two (b:=12) HP.out HCC.out (by have e_:c=102:=(eq_of_beq he_).symm.trans (by decide);rw [e_];rfl) (by decide))
     | (rename_i he_
        go_round
        case rel=>exact ⟨rfl,rfl,5,rfl,⟨by omega,fun k hk=>by rcases Nat.lt_or_ge k 4 with h | h;exact HR.out.2 k h;have e_:k=4:=(by omega);rw [e_];show (102:Int)≠c;exact fun e_=>(beq_eq_false_iff_ne.mp he_) (Eq.trans (by decide) e_)⟩⟩
        case measure=>decide)
  | 5,HR =>
    go_wp2
    all_goals first
     | (go_ret2;rename_i he_ _;exact er_two (b:=10) HP.out HCC.out (by have e_:c=110:=(eq_of_beq he_).symm.trans (by decide);rw [e_];rfl) (by decide))
     | (rename_i he_
        go_round
        case rel=>exact ⟨rfl,rfl,6,rfl,⟨by omega,fun k hk=>by rcases Nat.lt_or_ge k 5 with h | h;exact HR.out.2 k h;have e_:k=5:=(by omega);rw [e_];show (110:Int)≠c;exact fun e_=>(beq_eq_false_iff_ne.mp he_) (Eq.trans (by decide) e_)⟩⟩
        case measure=>decide)
  | 6,HR =>
    go_wp2
    all_goals first
     | (go_ret2;rename_i he_ _;exact er_two (b:=13) HP.out HCC.out (by have e_:c=114:=(eq_of_beq he_).symm.trans (by decide);rw [e_];rfl) (by decide))
     | (rename_i he_
        go_round
        case rel=>exact ⟨rfl,rfl,7,rfl,⟨by omega,fun k hk=>by rcases Nat.lt_or_ge k 6 with h | h;exact HR.out.2 k h;have e_:k=6:=(by omega);rw [e_];show (114:Int)≠c;exact fun e_=>(beq_eq_false_iff_ne.mp he_) (Eq.trans (by decide) e_)⟩⟩
        case measure=>decide)
  | 7,HR =>
    go_wp2
    all_goals first
     | (go_ret2;rename_i he_ _;exact er_two (b:=9) HP.out HCC.out (by have e_:c=116:=(eq_of_beq he_).symm.trans (by decide);rw [e_];rfl) (by decide))
     | (rename_i he_
        go_round
        case rel=>exact ⟨rfl,rfl,8,rfl,⟨by omega,fun k hk=>by rcases Nat.lt_or_ge k 7 with h | h;exact HR.out.2 k h;have e_:k=7:=(by omega);rw [e_];show (116:Int)≠c;exact fun e_=>(beq_eq_false_iff_ne.mp he_) (Eq.trans (by decide) e_)⟩⟩
        case measure=>decide)
  | 8,HR =>
    have HE:=mkA (frb_none HR.out.2)
    clear HR W1 N1
    by_cases hu:c=117
    case neg =>
     have p1:=bnne hu
     have HU:=mkA hu
     have p2:=p1.1
     clear p1 hu
     go_wp2
     go_ret2
     exact er_no HP.out HCC.out HE.out HU.out
    case pos =>
     have p2:=(bneq hu).1
     have HU:=mkA (HCC.out.symm.trans hu)
     have W2:wrap64 ((i:Int)+2)=((i+2:Nat):Int):=by have:=SZ.out;have:=HI.out;exact (w64 (by omega) (by omega)).trans (by omega)
     obtain ⟨i2,h2⟩:∃ i2:Nat,i2=i+2:=⟨_,rfl⟩
     rw [← h2] at W2
     have W6:wrap64 ((i:Int)+6)=((i+6:Nat):Int):=by have:=SZ.out;have:=HI.out;exact (w64 (by omega) (by omega)).trans (by omega)
     obtain ⟨i6,h6⟩:∃ i6:Nat,i6=i+6:=⟨_,rfl⟩
     rw [← h6] at W6
     have H2:=mkA h2
     have H6:=mkA h6
     clear h2 h6 hu
     go_wp2
     go_loop [4,5,10,11] (fun v4 v5 v10 v11=>v4=.string ⟨#[]⟩∧v5=.int .i64 0∧∃ (k p:Nat) (n:Int),v10=.int .i64 n∧v11=.int .i64 p∧Aside0 (k≤4∧p=i+2+k∧n=hn C.s (i+2) k∧∀ j,j < k→0≤hxv (nx C.s (i+2+j)))) (fun _ _ _ v11=>i+6 - (intOf v11).toNat)
     case atStart=>exact ⟨rfl,rfl,0,i2,0,rfl,by first | rfl | exact congrArg (Value.int .i64) W2,⟨by omega,H2.out,rfl,fun j hj=>absurd hj (by omega)⟩⟩
     case round =>
      obtain ⟨rfl,rfl,k,p,n,rfl,rfl,HK⟩:=hrel
      clear W2
      have c4:=HP.out.c.2.2.2
      have f4:=HP.out.fz 4
      by_cases hk:k < 4
      case pos =>
       have q1:((p:Int) < (i6:Int))=True:=eq_true (by have:=HK.out.2.1;have:=H6.out;omega)
       have q2:(p < i6)=True:=eq_true (by have:=HK.out.2.1;have:=H6.out;omega)
       have N2:=mkA (next_q HP.out p)
       have NX:=mkA (hex_q (nx C.s p) (nx_lo C.s p).1 (nx_lo C.s p).2 w)
       have HV9:=mkA (show (nx C.s p)=nx C.s (i+2+k) by rw [HK.out.2.1])
       obtain ⟨d,hd⟩:∃ d,d=nx C.s p:=⟨_,rfl⟩
       rw [← hd] at N2 NX
       obtain ⟨v,hv⟩:∃ v,v=hxv d:=⟨_,rfl⟩
       rw [← hv] at NX
       have HV:=mkA (show v=hxv (nx C.s (i+2+k)) by rw [hv,hd,HV9.out])
       have hnl:=hn_lo C.s (i+2) k HK.out.1 HK.out.2.2.2
       rw [← HK.out.2.2.1] at hnl
       have hvl:=hxv_lo d
       rw [← hv] at hvl
       have HHK:=mkA hk
       clear hd hv hk
       by_cases hv0:v < 0
       case pos =>
        have HV0:=mkA hv0
        clear hnl hvl
        cases tu
        all_goals
         go_wp2_with (first
          | (go_at_call 70;(with_reducible refine N2.out.mono ?_);rintro e w_ ⟨rfl,hw_⟩;subst w_)
          | (go_at_call 125;(with_reducible refine NX.out.mono ?_);rintro e w_ ⟨rfl,hw_⟩;subst w_))
         go_ret2
         exact ⟨_,0,_,rfl,(HP.out.un _).1,(HP.out.un _).2,(by first | exact fun _=>rfl | exact fun x=>by cases x),.inl ⟨rfl,.inr ⟨by rw [← HCC.out];exact HE.out,.inr ⟨k,HHK.out,HK.out.2.2.2,by rw [← HV.out];exact HV0.out⟩⟩⟩⟩
       case neg =>
        have HV0:=mkA (show 0≤hxv (nx C.s (i+2+k)) by rw [← HV.out];omega)
        have W7:wrap64 (16 * n)=16 * n:=w64 (by omega) (by omega)
        have W8:wrap64 (16 * n+v)=16 * n+v:=w64 (by omega) (by omega)
        have W9:wrap64 ((p:Int)+1)=((p+1:Nat):Int):=by have:=SZ.out;have:=HI.out;have:=HK.out.2.1;have:=HHK.out;exact (w64 (by omega) (by omega)).trans (by omega)
        obtain ⟨p1,hp1⟩:∃ p1:Nat,p1=p+1:=⟨_,rfl⟩
        rw [← hp1] at W9
        have HP1:=mkA hp1
        clear hp1 hnl hvl
        go_wp2_with (first
         | (go_at_call 70;(with_reducible refine N2.out.mono ?_);rintro e w_ ⟨rfl,hw_⟩;subst w_)
         | (go_at_call 125;(with_reducible refine NX.out.mono ?_);rintro e w_ ⟨rfl,hw_⟩;subst w_))
        go_round
        case rel=>exact ⟨rfl,rfl,k+1,p1,16 * n+v,by first | rfl | exact congrArg (Value.int .i64) W8,by first | rfl | exact congrArg (Value.int .i64) W9,⟨HHK.out,by rw [HP1.out,HK.out.2.1];omega,by rw [HK.out.2.2.1,HV.out];rfl,fun j hj=>by
         by_cases e:j=k
         ·rw [e];exact HV0.out
         ·exact HK.out.2.2.2 j (by omega)⟩⟩
        case measure =>
         try rw [W9]
         have:=HP1.out;have:=HK.out.2.1;have:=HHK.out
         simp only [intOf]
         omega
      case neg =>
       have e4:k=4:=by have:=HK.out.1;omega
       subst e4
       have q1:((p:Int) < (i6:Int))=False:=eq_false (by have:=HK.out.2.1;have:=H6.out;omega)
       have q2:(p < i6)=False:=eq_false (by have:=HK.out.2.1;have:=H6.out;omega)
       have hnl:=hn_lo C.s (i+2) 4 (by omega) HK.out.2.2.2
       rw [← HK.out.2.2.1] at hnl
       have NE:=mkA (fun u:World=>enc_walk n hnl.1 (by omega) u)
       have LO:=mkA (show C.B≤w.heap.size from Nat.le_trans HP.out.lo (by obtain ⟨A,cp,hc,_⟩:=HP.out.cell;exact Nat.le_of_lt (blk_lt hc)))
       have HN:=mkA HK.out.2.2.1
       have HD:=mkA HK.out.2.2.2
       clear hk HK hnl
       by_cases h55:55296≤n <;> by_cases h57:n < 57344
       case pos =>
        go_wp2
        go_ret2
        exact ⟨_,0,true,rfl,(HP.out.un true).1,(HP.out.un true).2,fun _=>rfl,.inl ⟨rfl,.inl rfl⟩⟩
       all_goals
        have HS:=mkA (show n < 55296∨57344≤n by omega)
        cases tu
        all_goals
         go_wp2_with (first
          | (go_at_call 126;(with_reducible refine (NE.out _).mono ?_);rintro e w1 ⟨rfl,hb⟩;have HL1:=mkA ((HP.out.un _).1.below hb);have HB1:=mkA ((HP.out.un _).2.trans (bel_le hb (Nat.le_trans LO.out (HP.out.un _).2.size)));clear hb))
         all_goals go_ret2
         all_goals exact ⟨_,6,_,rfl,HL1.out,HB1.out,(by first | exact fun _=>rfl | exact fun x=>by cases x),.inr (.inr ⟨rfl,HU.out,HD.out,by rw [← HN.out],by rw [← HN.out];exact HS.out⟩)⟩
  | (n+9),HR=>exact absurd HR.out.1 (by omega)
end Go.Proofs.YthgcghpcikbnkaaGreatDoor.R
