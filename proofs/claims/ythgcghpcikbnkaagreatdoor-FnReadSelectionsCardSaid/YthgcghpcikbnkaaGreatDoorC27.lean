/- A part of the proof of the theorem of this claim: Lxp, Lxd. No condition of its own. -/
import Derived.Test.YthgcghpcikbnkaaGreatDoorC26
set_option maxHeartbeats 16000000
set_option maxRecDepth 100000
namespace Go.Proofs.YthgcghpcikbnkaaGreatDoor.R
open Go.RowKit Go.Proofs.YthgcghpcikbnkaaGreatDoorW.PrintWords Go.Proofs.YthgcghpcikbnkaaGreatDoorW.PrintLast Go.Proofs.YthgcghpcikbnkaaGreatDoorW.PrintMore
set_option linter.unusedVariables false
set_option linter.unusedSimpArgs false
def PtR (s:ByteArray) (i:Nat) (c n:Int):Prop :=
 n=0∨(n=1∧bt s i < 128∧c=bt s i)∨∃ m:Nat,n=m∧2≤m∧i+m≤s.size∧128≤c∧∀ q:Nat,i≤q→q < i+m→128≤bt s q
def ptl (s:ByteArray) (n least:Int):Nat→Nat→Int→Int × Int
 | 0,_,c=>if c < least∨1114111 < c∨(55296≤c∧c < 57344) then (0,0) else (c,n)
 | f+1,p,c=>if bt s p < 128∨191 < bt s p then (0,0) else ptl s n least f (p+1) (wrap64 (wrap64 (wrap64 (c * 64)+bt s p) - 128))
def ptm (s:ByteArray) (i m:Nat) (least c:Int):Int × Int:=if i+m≤s.size then ptl s m least (m - 1) (i+1) c else (0,0)
def ptF (s:ByteArray) (i:Nat):Int × Int :=
 if bt s i < 128 then (bt s i,1) else if 194≤bt s i∧bt s i < 224 then ptm s i 2 128 (bt s i - 192) else if 224≤bt s i∧bt s i < 240 then ptm s i 3 2048 (bt s i - 224) else if 240≤bt s i∧bt s i < 245 then ptm s i 4 65536 (bt s i - 240) else (0,0)
theorem ptl_step (s:ByteArray) (n least:Int) (i m p:Nat) (c:Int) (h:p < i+m):ptl s n least (i+m - p) p c=if bt s p < 128∨191 < bt s p then (0,0) else ptl s n least (i+m - (p+1)) (p+1) (wrap64 (wrap64 (wrap64 (c * 64)+bt s p) - 128)):=by
 rw [show i+m - p=(i+m - (p+1))+1 from by omega];rfl
theorem ptl_end (s:ByteArray) (n least:Int) (i m p:Nat) (c:Int) (h:p=i+m):ptl s n least (i+m - p) p c=if c < least∨1114111 < c∨(55296≤c∧c < 57344) then (0,0) else (c,n):=by
 rw [show i+m - p=0 from by omega];rfl
theorem ptl_ok (s:ByteArray) (n least:Int):∀ (f p:Nat) (c:Int),(ptl s n least f p c).2=0∨((ptl s n least f p c).2=n∧least≤(ptl s n least f p c).1∧∀ q:Nat,p≤q→q < p+f→128≤bt s q):=by
 intro f
 induction f with
 | zero =>
   intro p c
   unfold ptl
   split
   ·exact .inl rfl
   ·exact .inr ⟨rfl,by show least≤c;omega,fun q h1 h2=>absurd h1 (by omega)⟩
 | succ f ih =>
   intro p c
   unfold ptl
   split
   ·exact .inl rfl
   ·rcases ih (p+1) (wrap64 (wrap64 (wrap64 (c * 64)+bt s p) - 128)) with h | ⟨h1,h2,h3⟩
    ·exact .inl h
    ·refine .inr ⟨h1,h2,fun q h4 h5=>?_⟩
     by_cases e:q=p
     ·rw [e];omega
     ·exact h3 q (by omega) (by omega)
theorem ptm_ok (s:ByteArray) (i m:Nat) (least c:Int) (hm:2≤m) (hl:128≤least) (hb:128≤bt s i):PtR s i (ptm s i m least c).1 (ptm s i m least c).2:=by
 unfold ptm
 split
 ·rcases ptl_ok s m least (m - 1) (i+1) c with h | ⟨h1,h2,h3⟩
  ·exact .inl h
  ·refine .inr (.inr ⟨m,h1,hm,by assumption,by omega,fun q h4 h5=>?_⟩)
   by_cases e:q=i
   ·rw [e];exact hb
   ·exact h3 q (by omega) (by omega)
 ·exact .inl rfl
theorem ptF_ok (s:ByteArray) (i:Nat):PtR s i (ptF s i).1 (ptF s i).2:=by
 unfold ptF
 split
 ·exact .inr (.inl ⟨rfl,by assumption,rfl⟩)
 split
 ·exact ptm_ok s i 2 128 _ (by decide) (by decide) (by omega)
 split
 ·exact ptm_ok s i 3 2048 _ (by decide) (by decide) (by omega)
 split
 ·exact ptm_ok s i 4 65536 _ (by decide) (by decide) (by omega)
 ·exact .inl rfl
theorem pt_ret {R:Int × Int} {c n:Int} {w:World} (h:R=(c,n)):Qv (.tuple #[.int .i64 R.1,.int .i64 R.2]) w (.returned (.tuple #[.int .i64 c,.int .i64 n])) w:=by subst h;exact ⟨rfl,rfl⟩
theorem point_d (s:ByteArray) (i:Nat) (hi:i < s.size) (hsz:s.size≤2000) (w:World):Calls Tryz.prog 33 #[.string s,.int .i64 i] w (Qv (.tuple #[.int .i64 (ptF s i).1,.int .i64 (ptF s i).2]) w):=by
 have hb0:=bt_nat s i hi
 obtain ⟨R,hR⟩:∃ R,R=ptF s i:=⟨_,rfl⟩
 rw [← hR]
 obtain ⟨b,hb⟩:∃ b,b=bt s i:=⟨_,rfl⟩
 have q1:(i < s.size)=True:=eq_true hi
 have q2:((i:Int) < (s.size:Int))=True:=eq_true (by omega)
 rw [← hb] at hb0
 have hlo:=bt_lo s i
 rw [← hb] at hlo
 by_cases h1:b < 128
 ·have HRE:=mkA (show R=(b,1) by rw [hR];unfold ptF;rw [← hb,if_pos h1])
  have w1:wrap64 b=b:=w64 (by omega) (by omega)
  clear hb hsz hR
  go_enter Tryz.func33,Tryz.ntmps33
  go_wp2
  go_ret2
  exact pt_ret HRE.out
 by_cases h2:194≤b∧b < 224
 ·obtain ⟨h2a,h2b⟩:=h2
  have w1:wrap64 b=b:=w64 (by omega) (by omega)
  have w2:wrap64 ((i:Int)+2)=(i:Int)+2:=w64 (by omega) (by omega)
  have w3:wrap64 ((i:Int)+1)=((i+1:Nat):Int):=(w64 (by omega) (by omega)).trans (by omega)
  have w5:wrap64 (b - 192)=b - 192:=w64 (by omega) (by omega)
  have HW3:=mkA w3
  clear w3
  have HRE:=mkA (show R=ptm s i 2 128 (b - 192) by rw [hR];unfold ptF;rw [← hb];rw [if_neg (by omega),if_pos (by omega)])
  clear hR
  by_cases hs:i+2≤s.size
  case neg =>
   have q3:((i:Int)+2≤(s.size:Int))=False:=eq_false (by omega)
   have q4:((s.size:Int) < (i:Int)+2)=True:=eq_true (by omega)
   have HZ:=mkA (show R=(0,0) by rw [HRE.out];unfold ptm;rw [if_neg hs])
   clear hs hsz
   go_enter Tryz.func33,Tryz.ntmps33
   go_wp2
   go_ret2
   exact pt_ret HZ.out
  case pos =>
   have q4:((s.size:Int) < (i:Int)+2)=False:=eq_false (by omega)
   have HS:=mkA hs
   have HI:=mkA hi
   have HZ:=mkA hsz
   have HRL:=mkA (show R=ptl s 2 128 (i+2 - (i+1)) (i+1) (b - 192) by rw [HRE.out];unfold ptm;rw [if_pos hs,show i+2 - (i+1)=2 - 1 from by omega];rfl)
   clear hs hsz HRE
   go_enter Tryz.func33,Tryz.ntmps33
   go_wp2
   go_loop [4,5,8] (fun v4 v5 v8=>∃ (c:Int) (p:Nat),v4=.int .i64 c∧v5=.int .i64 2∧v8=.int .i64 p∧Aside0 (i+1≤p∧p≤i+2∧R=ptl s 2 128 (i+2 - p) p c)) (fun _ _ v8=>i+2 - (intOf v8).toNat)
   case atStart =>
    exact ⟨b - 192,i+1,by first | rfl | exact congrArg (Value.int .i64) w5 | exact congrArg (Value.int .i64) (by rw [hb]),rfl,congrArg (Value.int .i64) HW3.out,⟨Nat.le_refl _,by omega,HRL.out⟩⟩
   case round =>
    obtain ⟨c,p,rfl,rfl,rfl,HP⟩:=hrel
    clear w5 HRL
    by_cases hp:p < i+2
    ·have hps:p < s.size:=by have:=HS.out;omega
     have q5:((p:Int) < (i:Int)+2)=True:=eq_true (by omega)
     have q6:((p:Int) < (s.size:Int))=True:=eq_true (by omega)
     have q7:(p < s.size)=True:=eq_true hps
     have hbp:=bt_nat s p hps
     obtain ⟨x,hx⟩:∃ x,x=bt s p:=⟨_,rfl⟩
     rw [← hx] at hbp
     have hxl:=bt_lo s p
     rw [← hx] at hxl
     have w6:wrap64 x=x:=w64 (by omega) (by omega)
     have HX:=mkA hx
     have HPL:=mkA hp
     have HNW:=mkA (show wrap64 ((p:Int)+1)=((p+1:Nat):Int) from by have:=HZ.out;exact (w64 (by omega) (by omega)).trans (by omega))
     have HST:=mkA (HP.out.2.2.trans (ptl_step s 2 128 i 2 p c hp))
     clear hx hp hxl
     by_cases x1:x < 128
     ·have HZZ:=mkA (show R=(0,0) by rw [HST.out,← HX.out,if_pos (.inl x1)])
      go_wp2
      go_ret2
      exact pt_ret HZZ.out
     ·by_cases x2:191 < x
      ·have HZZ:=mkA (show R=(0,0) by rw [HST.out,← HX.out,if_pos (.inr x2)])
       go_wp2
       go_ret2
       exact pt_ret HZZ.out
      ·have HNX:=mkA (show R=ptl s 2 128 (i+2 - (p+1)) (p+1) (wrap64 (wrap64 (wrap64 (c * 64)+x) - 128)) by rw [HST.out,← HX.out,if_neg (by omega)])
       go_wp2
       go_round
       case rel=>exact ⟨_,p+1,rfl,rfl,congrArg (Value.int .i64) HNW.out,⟨by have:=HP.out.1;omega,HPL.out,HNX.out⟩⟩
       case measure =>
        rw [HNW.out]
        have:=HPL.out
        simp only [intOf]
        omega
    ·have q5:((p:Int) < (i:Int)+2)=False:=eq_false (by omega)
     have hp2:p=i+2:=by have:=HP.out.2.1;omega
     have HRF:=mkA (HP.out.2.2.trans (ptl_end s 2 128 i 2 p c hp2))
     clear hp hp2
     go_wp2
     all_goals go_ret2
     all_goals first
      | (refine pt_ret (HRF.out.trans ?_);rw [if_pos (by omega)];done)
      | (refine pt_ret (HRF.out.trans ?_);rw [if_neg (by omega)];done)
 by_cases h3:224≤b∧b < 240
 ·obtain ⟨h2a,h2b⟩:=h3
  have w1:wrap64 b=b:=w64 (by omega) (by omega)
  have w2:wrap64 ((i:Int)+3)=(i:Int)+3:=w64 (by omega) (by omega)
  have w3:wrap64 ((i:Int)+1)=((i+1:Nat):Int):=(w64 (by omega) (by omega)).trans (by omega)
  have w5:wrap64 (b - 224)=b - 224:=w64 (by omega) (by omega)
  have HW3:=mkA w3
  clear w3
  have HRE:=mkA (show R=ptm s i 3 2048 (b - 224) by rw [hR];unfold ptF;rw [← hb];rw [if_neg (by omega),if_neg (by omega),if_pos (by omega)])
  clear hR
  by_cases hs:i+3≤s.size
  case neg =>
   have q3:((i:Int)+3≤(s.size:Int))=False:=eq_false (by omega)
   have q4:((s.size:Int) < (i:Int)+3)=True:=eq_true (by omega)
   have HZ:=mkA (show R=(0,0) by rw [HRE.out];unfold ptm;rw [if_neg hs])
   clear hs hsz
   go_enter Tryz.func33,Tryz.ntmps33
   go_wp2
   go_ret2
   exact pt_ret HZ.out
  case pos =>
   have q4:((s.size:Int) < (i:Int)+3)=False:=eq_false (by omega)
   have HS:=mkA hs
   have HI:=mkA hi
   have HZ:=mkA hsz
   have HRL:=mkA (show R=ptl s 3 2048 (i+3 - (i+1)) (i+1) (b - 224) by rw [HRE.out];unfold ptm;rw [if_pos hs,show i+3 - (i+1)=3 - 1 from by omega];rfl)
   clear hs hsz HRE
   go_enter Tryz.func33,Tryz.ntmps33
   go_wp2
   go_loop [4,5,8] (fun v4 v5 v8=>∃ (c:Int) (p:Nat),v4=.int .i64 c∧v5=.int .i64 3∧v8=.int .i64 p∧Aside0 (i+1≤p∧p≤i+3∧R=ptl s 3 2048 (i+3 - p) p c)) (fun _ _ v8=>i+3 - (intOf v8).toNat)
   case atStart =>
    exact ⟨b - 224,i+1,by first | rfl | exact congrArg (Value.int .i64) w5 | exact congrArg (Value.int .i64) (by rw [hb]),rfl,congrArg (Value.int .i64) HW3.out,⟨Nat.le_refl _,by omega,HRL.out⟩⟩
   case round =>
    obtain ⟨c,p,rfl,rfl,rfl,HP⟩:=hrel
    clear w5 HRL
    by_cases hp:p < i+3
    ·have hps:p < s.size:=by have:=HS.out;omega
     have q5:((p:Int) < (i:Int)+3)=True:=eq_true (by omega)
     have q6:((p:Int) < (s.size:Int))=True:=eq_true (by omega)
     have q7:(p < s.size)=True:=eq_true hps
     have hbp:=bt_nat s p hps
     obtain ⟨x,hx⟩:∃ x,x=bt s p:=⟨_,rfl⟩
     rw [← hx] at hbp
     have hxl:=bt_lo s p
     rw [← hx] at hxl
     have w6:wrap64 x=x:=w64 (by omega) (by omega)
     have HX:=mkA hx
     have HPL:=mkA hp
     have HNW:=mkA (show wrap64 ((p:Int)+1)=((p+1:Nat):Int) from by have:=HZ.out;exact (w64 (by omega) (by omega)).trans (by omega))
     have HST:=mkA (HP.out.2.2.trans (ptl_step s 3 2048 i 3 p c hp))
     clear hx hp hxl
     by_cases x1:x < 128
     ·have HZZ:=mkA (show R=(0,0) by rw [HST.out,← HX.out,if_pos (.inl x1)])
      go_wp2
      go_ret2
      exact pt_ret HZZ.out
     ·by_cases x2:191 < x
      ·have HZZ:=mkA (show R=(0,0) by rw [HST.out,← HX.out,if_pos (.inr x2)])
       go_wp2
       go_ret2
       exact pt_ret HZZ.out
      ·have HNX:=mkA (show R=ptl s 3 2048 (i+3 - (p+1)) (p+1) (wrap64 (wrap64 (wrap64 (c * 64)+x) - 128)) by rw [HST.out,← HX.out,if_neg (by omega)])
       go_wp2
       go_round
       case rel=>exact ⟨_,p+1,rfl,rfl,congrArg (Value.int .i64) HNW.out,⟨by have:=HP.out.1;omega,HPL.out,HNX.out⟩⟩
       case measure =>
        rw [HNW.out]
        have:=HPL.out
        simp only [intOf]
        omega
    ·have q5:((p:Int) < (i:Int)+3)=False:=eq_false (by omega)
     have hp2:p=i+3:=by have:=HP.out.2.1;omega
     have HRF:=mkA (HP.out.2.2.trans (ptl_end s 3 2048 i 3 p c hp2))
     clear hp hp2
     go_wp2
     all_goals go_ret2
     all_goals first
      | (refine pt_ret (HRF.out.trans ?_);rw [if_pos (by omega)];done)
      | (refine pt_ret (HRF.out.trans ?_);rw [if_neg (by omega)];done)
 by_cases h4:240≤b∧b < 245
 ·obtain ⟨h2a,h2b⟩:=h4
  have w1:wrap64 b=b:=w64 (by omega) (by omega)
  have w2:wrap64 ((i:Int)+4)=(i:Int)+4:=w64 (by omega) (by omega)
  have w3:wrap64 ((i:Int)+1)=((i+1:Nat):Int):=(w64 (by omega) (by omega)).trans (by omega)
  have w5:wrap64 (b - 240)=b - 240:=w64 (by omega) (by omega)
  have HW3:=mkA w3
  clear w3
  have HRE:=mkA (show R=ptm s i 4 65536 (b - 240) by rw [hR];unfold ptF;rw [← hb];rw [if_neg (by omega),if_neg (by omega),if_neg (by omega),if_pos (by omega)])
  clear hR
  by_cases hs:i+4≤s.size
  case neg =>
   have q3:((i:Int)+4≤(s.size:Int))=False:=eq_false (by omega)
   have q4:((s.size:Int) < (i:Int)+4)=True:=eq_true (by omega)
   have HZ:=mkA (show R=(0,0) by rw [HRE.out];unfold ptm;rw [if_neg hs])
   clear hs hsz
   go_enter Tryz.func33,Tryz.ntmps33
   go_wp2
   go_ret2
   exact pt_ret HZ.out
  case pos =>
   have q4:((s.size:Int) < (i:Int)+4)=False:=eq_false (by omega)
   have HS:=mkA hs
   have HI:=mkA hi
   have HZ:=mkA hsz
   have HRL:=mkA (show R=ptl s 4 65536 (i+4 - (i+1)) (i+1) (b - 240) by rw [HRE.out];unfold ptm;rw [if_pos hs,show i+4 - (i+1)=4 - 1 from by omega];rfl)
   clear hs hsz HRE
   go_enter Tryz.func33,Tryz.ntmps33
   go_wp2
   go_loop [4,5,8] (fun v4 v5 v8=>∃ (c:Int) (p:Nat),v4=.int .i64 c∧v5=.int .i64 4∧v8=.int .i64 p∧Aside0 (i+1≤p∧p≤i+4∧R=ptl s 4 65536 (i+4 - p) p c)) (fun _ _ v8=>i+4 - (intOf v8).toNat)
   case atStart =>
    exact ⟨b - 240,i+1,by first | rfl | exact congrArg (Value.int .i64) w5 | exact congrArg (Value.int .i64) (by rw [hb]),rfl,congrArg (Value.int .i64) HW3.out,⟨Nat.le_refl _,by omega,HRL.out⟩⟩
   case round =>
    obtain ⟨c,p,rfl,rfl,rfl,HP⟩:=hrel
    clear w5 HRL
    by_cases hp:p < i+4
    ·have hps:p < s.size:=by have:=HS.out;omega
     have q5:((p:Int) < (i:Int)+4)=True:=eq_true (by omega)
     have q6:((p:Int) < (s.size:Int))=True:=eq_true (by omega)
     have q7:(p < s.size)=True:=eq_true hps
     have hbp:=bt_nat s p hps
     obtain ⟨x,hx⟩:∃ x,x=bt s p:=⟨_,rfl⟩
     rw [← hx] at hbp
     have hxl:=bt_lo s p
     rw [← hx] at hxl
     have w6:wrap64 x=x:=w64 (by omega) (by omega)
     have HX:=mkA hx
     have HPL:=mkA hp
     have HNW:=mkA (show wrap64 ((p:Int)+1)=((p+1:Nat):Int) from by have:=HZ.out;exact (w64 (by omega) (by omega)).trans (by omega))
     have HST:=mkA (HP.out.2.2.trans (ptl_step s 4 65536 i 4 p c hp))
     clear hx hp hxl
     by_cases x1:x < 128
     ·have HZZ:=mkA (show R=(0,0) by rw [HST.out,← HX.out,if_pos (.inl x1)])
      go_wp2
      go_ret2
      exact pt_ret HZZ.out
     ·by_cases x2:191 < x
      ·have HZZ:=mkA (show R=(0,0) by rw [HST.out,← HX.out,if_pos (.inr x2)])
       go_wp2
       go_ret2
       exact pt_ret HZZ.out
      ·have HNX:=mkA (show R=ptl s 4 65536 (i+4 - (p+1)) (p+1) (wrap64 (wrap64 (wrap64 (c * 64)+x) - 128)) by rw [HST.out,← HX.out,if_neg (by omega)])
       go_wp2
       go_round
       case rel=>exact ⟨_,p+1,rfl,rfl,congrArg (Value.int .i64) HNW.out,⟨by have:=HP.out.1;omega,HPL.out,HNX.out⟩⟩
       case measure =>
        rw [HNW.out]
        have:=HPL.out
        simp only [intOf]
        omega
    ·have q5:((p:Int) < (i:Int)+4)=False:=eq_false (by omega)
     have hp2:p=i+4:=by have:=HP.out.2.1;omega
     have HRF:=mkA (HP.out.2.2.trans (ptl_end s 4 65536 i 4 p c hp2))
     clear hp hp2
     go_wp2
     all_goals go_ret2
     all_goals first
      | (refine pt_ret (HRF.out.trans ?_);rw [if_pos (by omega)];done)
      | (refine pt_ret (HRF.out.trans ?_);rw [if_neg (by omega)];done)
 have w1:wrap64 b=b:=w64 (by omega) (by omega)
 have h9:b < 194∨245≤b:=by omega
 have HRE:=mkA (show R=(0,0) by rw [hR];unfold ptF;rw [← hb,if_neg (by omega),if_neg (by omega),if_neg (by omega),if_neg (by omega)])
 rcases h9 with h9 | h9
 all_goals
  clear hb h2 h3 h4 hsz hR
  go_enter Tryz.func33,Tryz.ntmps33
  go_wp2
  go_ret2
  exact pt_ret HRE.out
theorem digits_q {C:LC} {w:World} {t:LS} (h:LX C w t) (i:Nat) (hi:i≤C.s.size+2):Calls Tryz.prog 121 #[ptr C.gx,.int .i64 i] w (Qv (.int .i64 (dg C.s i)) w):=by
 have HP:=mkA h
 have SZ:=mkA h.sz
 have HI:=mkA hi
 clear h hi
 go_enter Tryz.func121,Tryz.ntmps121
 go_wp2
 go_loop [1] (fun v1=>∃ p:Nat,v1=.int .i64 p∧Aside0 (p≤C.s.size+2∧dg C.s i=dg C.s p)) (fun v1=>C.s.size+3 - (intOf v1).toNat)
 case atStart=>exact ⟨i,rfl,⟨HI.out,rfl⟩⟩
 case round =>
  obtain ⟨p,rfl,HR⟩:=hrel
  have HNW:=mkA (show wrap64 ((p:Int)+1)=((p+1:Nat):Int) from by have:=SZ.out;have:=HR.out.1;exact (w64 (by omega) (by omega)).trans (by omega))
  cases hd:isD (nx C.s p)
  ·have HD:=mkA hd
   go_wp2_with (first
    | (go_at_call 70;(with_reducible refine (next_q HP.out p).mono ?_);rintro e w_ ⟨rfl,hw_⟩;subst w_)
    | (go_at_call 71;(with_reducible refine (isDigit_q (nx C.s p) _).mono ?_);rintro e w_ ⟨rfl,hw_⟩;subst w_;rw [HD.out]))
   go_ret
   exact ret_eq (congrArg (Value.int .i64) (by rw [HR.out.2,dg_no _ _ HD.out]))
  ·have HD:=mkA hd
   go_wp2_with (first
    | (go_at_call 70;(with_reducible refine (next_q HP.out p).mono ?_);rintro e w_ ⟨rfl,hw_⟩;subst w_)
    | (go_at_call 71;(with_reducible refine (isDigit_q (nx C.s p) _).mono ?_);rintro e w_ ⟨rfl,hw_⟩;subst w_;rw [HD.out]))
   go_round
   case rel=>exact ⟨p+1,congrArg (Value.int .i64) HNW.out,⟨by have:=nx_in C.s p (by intro e;have:=HD.out;rw [e] at this;cases this);omega,by rw [HR.out.2,dg_yes _ _ HD.out]⟩⟩
   case measure =>
    rw [HNW.out]
    have:=nx_in C.s p (by intro e;have:=HD.out;rw [e] at this;cases this)
    simp only [intOf]
    omega
end Go.Proofs.YthgcghpcikbnkaaGreatDoor.R
