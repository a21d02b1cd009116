/- A part of the proof of the theorem of this claim: Tkd, Vdf, Tks, Tkq. No condition of its own. -/
import Derived.Test.YthgcghpcikbnkaaGreatDoorC39
import Derived.Test.YthgcghpcikbnkaaGreatDoorC38
import Derived.Test.YthgcghpcikbnkaaGreatDoorC10
import Derived.Test.YthgcghpcikbnkaaGreatDoorC9
import Derived.Test.YthgcghpcikbnkaaGreatDoorC11
set_option maxHeartbeats 16000000
set_option maxRecDepth 100000
namespace Go.Proofs.YthgcghpcikbnkaaGreatDoor.R
open Go.RowKit Go.Proofs.YthgcghpcikbnkaaGreatDoorW.PrintWords Go.Proofs.YthgcghpcikbnkaaGreatDoorW.PrintLast Go.Proofs.YthgcghpcikbnkaaGreatDoorW.PrintMore
set_option linter.unusedVariables false
set_option linter.unusedSimpArgs false
theorem val_takeE {w:World} {B gt:Nat} {rows r:List Row} {v:Value} (hT:TK B gt w rows) (hB:B≤w.heap.size) (h:ValE (to_ B) w r v) (hn:rows.length+r.length≤1000000):Calls Tryz.prog 29 #[ptr gt,v] w (TP B gt w (rows++r)):=by
 obtain ⟨n,h⟩:=h
 exact val_take n hT hB h hn
theorem args_take {w:World} {B gt:Nat} {rows r:List Row} {sl:Value} (hT:TK B gt w rows) (hB:B≤w.heap.size) (hS:ArgsA (to_ B) w r sl) (hn:rows.length+r.length≤1000000):Calls Tryz.prog 61 #[ptr gt,sl] w (TP B gt w (rows++r)):=by
 obtain ⟨m,xs,hm,hO,hM⟩:=hS
 obtain ⟨hxn,hsh⟩:=own_shape hO
 obtain ⟨A,cp,rfl⟩:∃ (A:Option Addr) (cp:Nat),sl=.slice A m cp:=by
  rcases hsh with ⟨e1,e2⟩ | ⟨g1,cp,e1,_⟩
  ·exact ⟨none,0,by rw [e1,e2]⟩
  ·exact ⟨_,cp,e1⟩
 have HMX:=mkA hm
 have HO:=mkA hO
 have HM:=mkA hM
 have HXN:=mkA hxn
 have HSH:=mkA hsh
 have HTK:=mkA hT
 have HBW:=mkA hB
 have HN:=mkA hn
 clear hm hO hM hxn hsh hT hB hn
 go_enter Tryz.func61,Tryz.ntmps61
 go_wp2_with (first
  | ((with_reducible refine gate_dst (N:=2) rfl ?_);refine bxe (cs:=#[R.ptr gt]) (t:=35) ?hr ?_;(case hr=>first | (go_simp;done) | (go_simp;rfl));intro gx hg w2 hbox hb;have HXs:=mkA hbox;have HTs:=mkA (HTK.out.step hb);have HFs:=mkA (TF.of HBW.out hb);clear hbox hb hg))
 go_loopw [8] (fun v8 wr=>∃ (j:Nat) (ra rb:List Row),v8=.int .i64 j∧Aside0 (j≤m)∧Aside0 (Many (fun v r=>ArgA (to_ B) w r v) (xs.drop j) rb)∧Aside0 (ra++rb=r)∧Aside0 (TK B gt wr (rows++ra))∧Aside0 (TF B w wr)∧Aside0 (wr.heap[gx]?=some (.cells #[R.ptr gt] 35 (0,0)))) (fun v8 _=>m - (intOf v8).toNat)
 case atStart=>exact ⟨0,[],r,rfl,⟨Nat.zero_le _⟩,⟨by rw [List.drop_zero];exact HM.out⟩,⟨rfl⟩,⟨by rw [List.append_nil];exact HTs.out⟩,HFs,HXs⟩
 case round =>
  obtain ⟨j,ra,rb,rfl,HJ,HMb,HRR,HTr,HFr,HXr⟩:=hrel
  by_cases hlt:j < m
  ·have HLT:=mkA hlt
   obtain ⟨x,hx⟩:∃ x,xs[j]?=some x:=⟨_,List.getElem?_eq_getElem (by rw [HXN.out];exact hlt)⟩
   have hd:xs.drop j=x :: xs.drop (j+1):=by
    obtain ⟨h1,h2⟩:=List.getElem?_eq_some_iff.1 hx
    rw [List.drop_eq_getElem_cons h1,h2]
   have hmb:=HMb.out
   rw [hd] at hmb
   obtain ⟨a,b,rfl,hq,hmb2⟩:=many_cons hmb
   have HMb2:=mkA hmb2
   clear hd hmb hmb2 HMb
   have hA:∃ g1:Nat,A=some ⟨g1,0,none⟩:=by
    rcases HSH.out with ⟨_,e⟩ | ⟨g1,cp1,e,_⟩
    ·omega
    ·injection e with e1 e2 e3;exact ⟨g1,e1⟩
   obtain ⟨g1,rfl⟩:=hA
   have hrd:wr.cell? ⟨g1,j,none⟩=some x:=own_read (HO.out.fr HFr.out.keeps) hx
   have HBr:=mkA (HFr.out.big HBW.out)
   have HNr:=mkA (show (rows++ra).length+a.length≤1000000 by have h1:=HN.out;rw [← HRR.out] at h1;simp only [List.length_append] at h1 ⊢;omega)
   have q0:(j < m)=True:=eq_true hlt
   have hmm:m≤1000000:=HMX.out
   have HNW:=mkA (show wrap64 ((j:Int)+1)=((j+1:Nat):Int) from (w64 (by omega) (by omega)).trans (by omega))
   clear hlt hmm hx
   obtain ⟨gf,kf,vf,lf,nf,xf,bf,rfl,hAf,hLf,hNf,hXf0,rfl⟩:=hq
   have HAf:=mkA hAf
   have HLf:=mkA hLf
   have HNf:=mkA hNf
   have HXf0:=mkA hXf0
   clear hAf hLf hNf hXf0
   obtain ⟨gl,la,lz,ls,rfl,HLC⟩:=HLf.out
   have B2:=mkA (Below.refl wr.heap.size wr)
   go_upto_region 4 with (first
    | ((with_reducible refine gate_dst (N:=5) rfl ?_);refine bxe (cs:=#[.pointer none]) (t:=191) ?hr ?_;(case hr=>first | (go_simp;done) | (go_simp;rfl));intro gv hg w3 hbox hb;have B3:=mkA (below_step B2.out hb);have BV:=mkA hbox;have BX3:=mkA (blk_below HXr.out hb);have GV:=mkA (show wr.heap.size≤gv by rw [hg];exact B2.out.size);have GXV:=mkA (show gx≠gv from Nat.ne_of_lt (by rw [hg];exact blk_lt HXr.out));have z0:w3.cell? ⟨gv,0,none⟩=some (.pointer none):=(blk_cell hbox 0).trans rfl;have zf0:=blk_frozen hbox 0;clear hbox hb hg))
   obtain ⟨w4,hw4⟩:∃ w4,w4=w3.setCell ⟨gv,0,none⟩ (R.ptr gf):=⟨_,rfl⟩
   have B4:=mkA (show Below wr.heap.size wr w4 by rw [hw4];exact B3.out.setCell (p:=⟨gv,0,none⟩) GV.out _)
   have BV4:=mkA (show w4.heap[gv]?=some (.cells #[R.ptr gf] 191 (0,0)) by rw [hw4];exact blk_put (cs:=#[.pointer none]) BV.out 0 _ rfl)
   have BX4:=mkA (show w4.heap[gx]?=some (.cells #[R.ptr gt] 35 (0,0)) by rw [hw4];exact blk_far (p:=⟨gv,0,none⟩) BX3.out GXV.out _)
   rw [← hw4]
   clear hw4 z0 zf0 B3 BX3 BV
   have KP:=mkA (keeps_up (n:=B) B4.out)
   have AL:=mkA (show At (to_ B) w4 gf #[.string kf,R.ptr gl,nf,xf] 193 from (HAf.out.fr HFr.out.keeps).fr KP.out)
   have LCL:=mkA (show LocA (to_ B) w4 (R.ptr gl) from (HLf.out.fr HFr.out.keeps).fr KP.out)
   have NML:=mkA (show NameA (to_ B) w4 nf vf from (HNf.out.fr HFr.out.keeps).fr KP.out)
   have XL:=mkA (show ValE (to_ B) w4 bf xf from (ValE.fr HXf0.out HFr.out.keeps).fr KP.out)
   have s_0:w4.cell? ⟨gx,0,none⟩=some (R.ptr gt):=(blk_cell BX4.out 0).trans rfl
   have s_1:w4.cell? ⟨gv,0,none⟩=some (R.ptr gf):=(blk_cell BV4.out 0).trans rfl
   have c_0:w4.cell? ⟨gf,1,none⟩=some (R.ptr gl):=(blk_cell AL.out.2 1).trans rfl
   have c_1:w4.cell? ⟨gf,2,none⟩=some (nf):=(blk_cell AL.out.2 2).trans rfl
   have T4:=mkA (show TK B gt w4 (rows++ra) from HTr.out.step B4.out)
   have cT0:=mkA (fun (u:World) (hu:Below w4.heap.size w4 u)=>(show Calls Tryz.prog 25 #[nf] u (fun e w'=>e=.returned (.string vf)∧w'=u) from text_walk (NML.out.fr (keeps_up hu))))
   have cP:=mkA (fun (u:World) (hu:Below w4.heap.size w4 u)=>(show Calls Tryz.prog 26 #[R.ptr gt,R.ptr gl,.agg #[.int .i64 9,.string vf,.string ⟨#[]⟩,.string ⟨#[]⟩,.int .i64 0,.int .i64 0],.func (.func 89) #[] #[R.ptr gx,R.ptr gv]] u (TP B gt wr ((rows++ra)++nd 9 vf ⟨#[]⟩ ⟨#[]⟩ 0 bf)) from (put_walk (T4.out.step hu) (LCL.out.fr (keeps_up hu)) (Nat.le_trans HBr.out (below_step B4.out hu).size) (by have h_:=HNr.out;rw [nd_len] at h_;omega) (.inr ⟨89,_,rfl,(fun w=>by kernel_rfl),fun w1 rows1 f1 t1 b1=>clo_89 (f1.typ _ _ _ (blk_below BX4.out hu) (by decide) (by decide) (by decide)) (f1.typ _ _ _ (blk_below BV4.out hu) (by decide) (by decide) (by decide)) ((blk_cell ((AL.out.fr (keeps_up hu)).fr f1.keeps).2 3).trans rfl) (fun u2 hu2=>(val_takeE (t1.step hu2) (Nat.le_trans (f1.big (Nat.le_trans HBr.out (below_step B4.out hu).size)) hu2.size) (ValE.fr (ValE.fr (ValE.fr XL.out (keeps_up hu)) f1.keeps) (keeps_up hu2)) b1).mono fun e w' q=>⟨q.1,q.2.1,(TF.of (f1.big (Nat.le_trans HBr.out (below_step B4.out hu).size)) hu2).trans q.2.2⟩) (fun _ _ q=>q.1)⟩)).mono fun e w' q=>⟨q.1,q.2.1,(TF.of HBr.out (below_step B4.out hu)).trans q.2.2⟩))
   go_still_tail 12,(by kernel_rfl)
   still_call (cT0.out _ (by first | exact below_drew1 (Below.refl _ _) | exact Below.refl _ _))
   repeat still_step
   refine wpStill_nil ?_
   go_wp2_with (first
    | (go_at_call 26;refine (cP.out _ ?_).mono ?_;(first | exact below_drew1 (Below.refl _ _) | exact Below.refl _ _);rintro e w5 ⟨rfl,q1,q2⟩;have Q1:=mkA q1;have Q2:=mkA q2;clear q1 q2))
   go_roundw
   case rel=>exact ⟨j+1,ra++nd 9 vf e0 e0 0 bf,b,congrArg (Value.int .i64) HNW.out,⟨HLT.out⟩,HMb2,⟨by rw [← HRR.out,List.append_assoc]⟩,⟨by rw [← List.append_assoc];exact Q1.out⟩,⟨HFr.out.trans Q2.out⟩,⟨Q2.out.typ _ _ _ HXr.out (by decide) (by decide) (by decide)⟩⟩
   case measure=>exact msr_up2 m j HLT.out HMX.out
  ·have q0:(j < m)=False:=eq_false hlt
   have hjm:j=m:=by have:=HJ.out;omega
   have hra:ra=r:=by
    have h1:=HMb.out
    rw [hjm,← HXN.out,List.drop_length] at h1
    cases h1
    rw [← HRR.out,List.append_nil]
   have HRA:=mkA hra
   clear hlt hjm hra
   go_wp2
   go_end0
   exact ⟨rfl,by rw [← HRA.out];exact HTr.out,HFr.out⟩
theorem dirs_take {w:World} {B gt:Nat} {rows r:List Row} {sl:Value} (hT:TK B gt w rows) (hB:B≤w.heap.size) (hS:DirsA (to_ B) w r sl) (hn:rows.length+r.length≤1000000):Calls Tryz.prog 62 #[ptr gt,sl] w (TP B gt w (rows++r)):=by
 obtain ⟨m,xs,hm,hO,hM⟩:=hS
 obtain ⟨hxn,hsh⟩:=own_shape hO
 obtain ⟨A,cp,rfl⟩:∃ (A:Option Addr) (cp:Nat),sl=.slice A m cp:=by
  rcases hsh with ⟨e1,e2⟩ | ⟨g1,cp,e1,_⟩
  ·exact ⟨none,0,by rw [e1,e2]⟩
  ·exact ⟨_,cp,e1⟩
 have HMX:=mkA hm
 have HO:=mkA hO
 have HM:=mkA hM
 have HXN:=mkA hxn
 have HSH:=mkA hsh
 have HTK:=mkA hT
 have HBW:=mkA hB
 have HN:=mkA hn
 clear hm hO hM hxn hsh hT hB hn
 go_enter Tryz.func62,Tryz.ntmps62
 go_wp2_with (first
  | ((with_reducible refine gate_dst (N:=2) rfl ?_);refine bxe (cs:=#[R.ptr gt]) (t:=35) ?hr ?_;(case hr=>first | (go_simp;done) | (go_simp;rfl));intro gx hg w2 hbox hb;have HXs:=mkA hbox;have HTs:=mkA (HTK.out.step hb);have HFs:=mkA (TF.of HBW.out hb);clear hbox hb hg))
 go_loopw [8] (fun v8 wr=>∃ (j:Nat) (ra rb:List Row),v8=.int .i64 j∧Aside0 (j≤m)∧Aside0 (Many (fun v r=>DirA (to_ B) w r v) (xs.drop j) rb)∧Aside0 (ra++rb=r)∧Aside0 (TK B gt wr (rows++ra))∧Aside0 (TF B w wr)∧Aside0 (wr.heap[gx]?=some (.cells #[R.ptr gt] 35 (0,0)))) (fun v8 _=>m - (intOf v8).toNat)
 case atStart=>exact ⟨0,[],r,rfl,⟨Nat.zero_le _⟩,⟨by rw [List.drop_zero];exact HM.out⟩,⟨rfl⟩,⟨by rw [List.append_nil];exact HTs.out⟩,HFs,HXs⟩
 case round =>
  obtain ⟨j,ra,rb,rfl,HJ,HMb,HRR,HTr,HFr,HXr⟩:=hrel
  by_cases hlt:j < m
  ·have HLT:=mkA hlt
   obtain ⟨x,hx⟩:∃ x,xs[j]?=some x:=⟨_,List.getElem?_eq_getElem (by rw [HXN.out];exact hlt)⟩
   have hd:xs.drop j=x :: xs.drop (j+1):=by
    obtain ⟨h1,h2⟩:=List.getElem?_eq_some_iff.1 hx
    rw [List.drop_eq_getElem_cons h1,h2]
   have hmb:=HMb.out
   rw [hd] at hmb
   obtain ⟨a,b,rfl,hq,hmb2⟩:=many_cons hmb
   have HMb2:=mkA hmb2
   clear hd hmb hmb2 HMb
   have hA:∃ g1:Nat,A=some ⟨g1,0,none⟩:=by
    rcases HSH.out with ⟨_,e⟩ | ⟨g1,cp1,e,_⟩
    ·omega
    ·injection e with e1 e2 e3;exact ⟨g1,e1⟩
   obtain ⟨g1,rfl⟩:=hA
   have hrd:wr.cell? ⟨g1,j,none⟩=some x:=own_read (HO.out.fr HFr.out.keeps) hx
   have HBr:=mkA (HFr.out.big HBW.out)
   have HNr:=mkA (show (rows++ra).length+a.length≤1000000 by have h1:=HN.out;rw [← HRR.out] at h1;simp only [List.length_append] at h1 ⊢;omega)
   have q0:(j < m)=True:=eq_true hlt
   have hmm:m≤1000000:=HMX.out
   have HNW:=mkA (show wrap64 ((j:Int)+1)=((j+1:Nat):Int) from (w64 (by omega) (by omega)).trans (by omega))
   clear hlt hmm hx
   obtain ⟨gf,kf,vf,lf,nf,xf,bf,rfl,hAf,hLf,hNf,hXf0,rfl⟩:=hq
   have HAf:=mkA hAf
   have HLf:=mkA hLf
   have HNf:=mkA hNf
   have HXf0:=mkA hXf0
   clear hAf hLf hNf hXf0
   obtain ⟨gl,la,lz,ls,rfl,HLC⟩:=HLf.out
   have B2:=mkA (Below.refl wr.heap.size wr)
   go_upto_region 4 with (first
    | ((with_reducible refine gate_dst (N:=5) rfl ?_);refine bxe (cs:=#[.pointer none]) (t:=194) ?hr ?_;(case hr=>first | (go_simp;done) | (go_simp;rfl));intro gv hg w3 hbox hb;have B3:=mkA (below_step B2.out hb);have BV:=mkA hbox;have BX3:=mkA (blk_below HXr.out hb);have GV:=mkA (show wr.heap.size≤gv by rw [hg];exact B2.out.size);have GXV:=mkA (show gx≠gv from Nat.ne_of_lt (by rw [hg];exact blk_lt HXr.out));have z0:w3.cell? ⟨gv,0,none⟩=some (.pointer none):=(blk_cell hbox 0).trans rfl;have zf0:=blk_frozen hbox 0;clear hbox hb hg))
   obtain ⟨w4,hw4⟩:∃ w4,w4=w3.setCell ⟨gv,0,none⟩ (R.ptr gf):=⟨_,rfl⟩
   have B4:=mkA (show Below wr.heap.size wr w4 by rw [hw4];exact B3.out.setCell (p:=⟨gv,0,none⟩) GV.out _)
   have BV4:=mkA (show w4.heap[gv]?=some (.cells #[R.ptr gf] 194 (0,0)) by rw [hw4];exact blk_put (cs:=#[.pointer none]) BV.out 0 _ rfl)
   have BX4:=mkA (show w4.heap[gx]?=some (.cells #[R.ptr gt] 35 (0,0)) by rw [hw4];exact blk_far (p:=⟨gv,0,none⟩) BX3.out GXV.out _)
   rw [← hw4]
   clear hw4 z0 zf0 B3 BX3 BV
   have KP:=mkA (keeps_up (n:=B) B4.out)
   have AL:=mkA (show At (to_ B) w4 gf #[.string kf,R.ptr gl,nf,xf] 196 from (HAf.out.fr HFr.out.keeps).fr KP.out)
   have LCL:=mkA (show LocA (to_ B) w4 (R.ptr gl) from (HLf.out.fr HFr.out.keeps).fr KP.out)
   have NML:=mkA (show NameA (to_ B) w4 nf vf from (HNf.out.fr HFr.out.keeps).fr KP.out)
   have XL:=mkA (show ArgsA (to_ B) w4 bf xf from ArgsA.fr (ArgsA.fr HXf0.out HFr.out.keeps) KP.out)
   have s_0:w4.cell? ⟨gx,0,none⟩=some (R.ptr gt):=(blk_cell BX4.out 0).trans rfl
   have s_1:w4.cell? ⟨gv,0,none⟩=some (R.ptr gf):=(blk_cell BV4.out 0).trans rfl
   have c_0:w4.cell? ⟨gf,1,none⟩=some (R.ptr gl):=(blk_cell AL.out.2 1).trans rfl
   have c_1:w4.cell? ⟨gf,2,none⟩=some (nf):=(blk_cell AL.out.2 2).trans rfl
   have T4:=mkA (show TK B gt w4 (rows++ra) from HTr.out.step B4.out)
   have cT0:=mkA (fun (u:World) (hu:Below w4.heap.size w4 u)=>(show Calls Tryz.prog 25 #[nf] u (fun e w'=>e=.returned (.string vf)∧w'=u) from text_walk (NML.out.fr (keeps_up hu))))
   have cP:=mkA (fun (u:World) (hu:Below w4.heap.size w4 u)=>(show Calls Tryz.prog 26 #[R.ptr gt,R.ptr gl,.agg #[.int .i64 10,.string vf,.string ⟨#[]⟩,.string ⟨#[]⟩,.int .i64 0,.int .i64 0],.func (.func 90) #[] #[R.ptr gx,R.ptr gv]] u (TP B gt wr ((rows++ra)++nd 10 vf ⟨#[]⟩ ⟨#[]⟩ 0 bf)) from (put_walk (T4.out.step hu) (LCL.out.fr (keeps_up hu)) (Nat.le_trans HBr.out (below_step B4.out hu).size) (by have h_:=HNr.out;rw [nd_len] at h_;omega) (.inr ⟨90,_,rfl,(fun w=>by kernel_rfl),fun w1 rows1 f1 t1 b1=>clo_90 (f1.typ _ _ _ (blk_below BX4.out hu) (by decide) (by decide) (by decide)) (f1.typ _ _ _ (blk_below BV4.out hu) (by decide) (by decide) (by decide)) ((blk_cell ((AL.out.fr (keeps_up hu)).fr f1.keeps).2 3).trans rfl) (fun u2 hu2=>(args_take (t1.step hu2) (Nat.le_trans (f1.big (Nat.le_trans HBr.out (below_step B4.out hu).size)) hu2.size) (ArgsA.fr (ArgsA.fr (ArgsA.fr XL.out (keeps_up hu)) f1.keeps) (keeps_up hu2)) b1).mono fun e w' q=>⟨q.1,q.2.1,(TF.of (f1.big (Nat.le_trans HBr.out (below_step B4.out hu).size)) hu2).trans q.2.2⟩) (fun _ _ q=>q.1)⟩)).mono fun e w' q=>⟨q.1,q.2.1,(TF.of HBr.out (below_step B4.out hu)).trans q.2.2⟩))
   go_still_tail 12,(by kernel_rfl)
   still_call (cT0.out _ (by first | exact below_drew1 (Below.refl _ _) | exact Below.refl _ _))
   repeat still_step
   refine wpStill_nil ?_
   go_wp2_with (first
    | (go_at_call 26;refine (cP.out _ ?_).mono ?_;(first | exact below_drew1 (Below.refl _ _) | exact Below.refl _ _);rintro e w5 ⟨rfl,q1,q2⟩;have Q1:=mkA q1;have Q2:=mkA q2;clear q1 q2))
   go_roundw
   case rel=>exact ⟨j+1,ra++nd 10 vf e0 e0 0 bf,b,congrArg (Value.int .i64) HNW.out,⟨HLT.out⟩,HMb2,⟨by rw [← HRR.out,List.append_assoc]⟩,⟨by rw [← List.append_assoc];exact Q1.out⟩,⟨HFr.out.trans Q2.out⟩,⟨Q2.out.typ _ _ _ HXr.out (by decide) (by decide) (by decide)⟩⟩
   case measure=>exact msr_up2 m j HLT.out HMX.out
  ·have q0:(j < m)=False:=eq_false hlt
   have hjm:j=m:=by have:=HJ.out;omega
   have hra:ra=r:=by
    have h1:=HMb.out
    rw [hjm,← HXN.out,List.drop_length] at h1
    cases h1
    rw [← HRR.out,List.append_nil]
   have HRA:=mkA hra
   clear hlt hjm hra
   go_wp2
   go_end0
   exact ⟨rfl,by rw [← HRA.out];exact HTr.out,HFr.out⟩
theorem VarA.ptr {ok:Ok} {w:World} {p:Value} {v:ByteArray} (h:VarA ok w p v):∃ g,p=R.ptr g:=by obtain ⟨g,_,_,_,h,_⟩:=h;exact ⟨g,h⟩
def VdfA (ok:Ok) (w:World) (rows:List Row) (p:Value):Prop:=∃ (g:Nat) (k v:ByteArray) (l x y d:Value) (a b:List Row),p=ptr g∧At ok w g #[.string k,l,x,y,d] 79∧LocA ok w l∧VarA ok w x v∧TypE ok w a y∧((d=.nilIface∧b=[])∨ValE ok w b d)∧rows=nd 4 v e0 e0 0 (a++b)
theorem VdfA.fr {ok ok':Ok} {w w':World} {r:List Row} {p:Value} (h:VdfA ok w r p) (hf:Keeps ok ok' w w'):VdfA ok' w' r p:=by
 obtain ⟨g,k,v,l,x,y,d,a,b,h1,h2,h3,h4,h5,h6,h7⟩:=h
 exact ⟨g,k,v,l,x,y,d,a,b,h1,h2.fr hf,h3.fr hf,h4.fr hf,h5.fr hf,h6.imp id (fun h=>h.fr hf),h7⟩
theorem clo_60 {w:World} {B gt gx gv g:Nat} {rows r0 r1 r2:List Row} {x0 x1 x2:Value} {cs:Array Value} (hT:TK B gt w rows) (hB:B≤w.heap.size) (hx:w.heap[gx]?=some (.cells #[ptr gt] 35 (0,0))) (hv:w.heap[gv]?=some (.cells #[ptr g] 154 (0,0))) (hA:At (to_ B) w g cs 158) (hc0:cs[4]?=some x0) (hc1:cs[5]?=some x1) (hc2:cs[6]?=some x2) (h0:∀ u,TF B w u→TK B gt u (rows)→Calls Tryz.prog 61 #[ptr gt,x0] u (TP B gt u (rows++r0))) (h1:∀ u,TF B w u→TK B gt u (rows++r0)→Calls Tryz.prog 62 #[ptr gt,x1] u (TP B gt u (rows++r0++r1))) (h2:∀ u,TF B w u→TK B gt u (rows++r0++r1)→Calls Tryz.prog 14 #[ptr gt,x2] u (TP B gt u (rows++r0++r1++r2))):Calls Tryz.prog 60 #[ptr gx,ptr gv] w (TP B gt w (rows++r0++r1++r2)):=by
 have W0:=mkA (TF.refl B w)
 have HTK:=mkA hT
 have HBW:=mkA hB
 have HX:=mkA hx
 have HV:=mkA hv
 have HA:=mkA hA
 have HC0:=mkA hc0
 have HC1:=mkA hc1
 have HC2:=mkA hc2
 have H0:=mkA h0
 have H1:=mkA h1
 have H2:=mkA h2
 clear hT hB hx hv hA hc0 h0 hc1 h1 hc2 h2
 go_enter Tryz.func60,Tryz.ntmps60
 go_upto_region 0 with (fail)
 have s0_0:w.cell? ⟨gx,0,none⟩=some (R.ptr gt):=(blk_cell (W0.out.typ _ _ _ HX.out (by decide) (by decide) (by decide)) 0).trans rfl
 have s0_1:w.cell? ⟨gv,0,none⟩=some (R.ptr g):=(blk_cell (W0.out.typ _ _ _ HV.out (by decide) (by decide) (by decide)) 0).trans rfl
 have s0_2:w.cell? ⟨g,4,none⟩=some x0:=(blk_cell (HA.out.fr W0.out.keeps).2 4).trans HC0.out
 have CP0:=mkA (fun (u:World) (hu:Below w.heap.size w u)=>(H0.out u (W0.out.step (W0.out.big HBW.out) hu) (HTK.out.step hu)).mono fun e w' q=>(show TP B gt w (rows++r0) e w' from ⟨q.1,q.2.1,(W0.out.step (W0.out.big HBW.out) hu).trans q.2.2⟩))
 go_still_tail 5,(by kernel_rfl)
 go_upto_region 1 with (first
  | (go_at_call 61;refine (CP0.out _ ?_).mono ?_;(first | exact below_drew1 (Below.refl _ _) | exact Below.refl _ _);rintro e w5 ⟨rfl,q1,q2⟩;have T0:=mkA q1;have F0:=mkA q2;clear q1 q2))
 clear s0_0 s0_1 s0_2
 have s1_0:w5.cell? ⟨gx,0,none⟩=some (R.ptr gt):=(blk_cell (F0.out.typ _ _ _ HX.out (by decide) (by decide) (by decide)) 0).trans rfl
 have s1_1:w5.cell? ⟨gv,0,none⟩=some (R.ptr g):=(blk_cell (F0.out.typ _ _ _ HV.out (by decide) (by decide) (by decide)) 0).trans rfl
 have s1_2:w5.cell? ⟨g,5,none⟩=some x1:=(blk_cell (HA.out.fr F0.out.keeps).2 5).trans HC1.out
 have CP1:=mkA (fun (u:World) (hu:Below w5.heap.size w5 u)=>(H1.out u (F0.out.step (F0.out.big HBW.out) hu) (T0.out.step hu)).mono fun e w' q=>(show TP B gt w (rows++r0++r1) e w' from ⟨q.1,q.2.1,(F0.out.step (F0.out.big HBW.out) hu).trans q.2.2⟩))
 go_still_tail 5,(by kernel_rfl)
 go_upto_region 2 with (first
  | (go_at_call 62;refine (CP1.out _ ?_).mono ?_;(first | exact below_drew1 (Below.refl _ _) | exact Below.refl _ _);rintro e w6 ⟨rfl,q1,q2⟩;have T1:=mkA q1;have F1:=mkA q2;clear q1 q2))
 clear s1_0 s1_1 s1_2
 have s2_0:w6.cell? ⟨gx,0,none⟩=some (R.ptr gt):=(blk_cell (F1.out.typ _ _ _ HX.out (by decide) (by decide) (by decide)) 0).trans rfl
 have s2_1:w6.cell? ⟨gv,0,none⟩=some (R.ptr g):=(blk_cell (F1.out.typ _ _ _ HV.out (by decide) (by decide) (by decide)) 0).trans rfl
 have s2_2:w6.cell? ⟨g,6,none⟩=some x2:=(blk_cell (HA.out.fr F1.out.keeps).2 6).trans HC2.out
 have CP2:=mkA (fun (u:World) (hu:Below w6.heap.size w6 u)=>(H2.out u (F1.out.step (F1.out.big HBW.out) hu) (T1.out.step hu)).mono fun e w' q=>(show TP B gt w (rows++r0++r1++r2) e w' from ⟨q.1,q.2.1,(F1.out.step (F1.out.big HBW.out) hu).trans q.2.2⟩))
 go_still_tail 5,(by kernel_rfl)
 go_wp2_with (first
  | (go_at_call 14;refine (CP2.out _ ?_).mono ?_;(first | exact below_drew1 (Below.refl _ _) | exact Below.refl _ _);rintro e w7 ⟨rfl,q1,q2⟩;have T2:=mkA q1;have F2:=mkA q2;clear q1 q2))
 clear s2_0 s2_1 s2_2
 go_end0
 exact ⟨rfl,T2.out,F2.out⟩
theorem clo_64 {w:World} {B gt gx gv g:Nat} {rows r0 r1:List Row} {x0 x1:Value} {cs:Array Value} (hT:TK B gt w rows) (hB:B≤w.heap.size) (hx:w.heap[gx]?=some (.cells #[ptr gt] 35 (0,0))) (hv:w.heap[gv]?=some (.cells #[ptr g] 164 (0,0))) (hA:At (to_ B) w g cs 166) (hc0:cs[3]?=some x0) (hc1:cs[4]?=some x1) (h0:∀ u,TF B w u→TK B gt u (rows)→Calls Tryz.prog 62 #[ptr gt,x0] u (TP B gt u (rows++r0))) (h1:∀ u,TF B w u→TK B gt u (rows++r0)→Calls Tryz.prog 14 #[ptr gt,x1] u (TP B gt u (rows++r0++r1))):Calls Tryz.prog 64 #[ptr gx,ptr gv] w (TP B gt w (rows++r0++r1)):=by
 have W0:=mkA (TF.refl B w)
 have HTK:=mkA hT
 have HBW:=mkA hB
 have HX:=mkA hx
 have HV:=mkA hv
 have HA:=mkA hA
 have HC0:=mkA hc0
 have HC1:=mkA hc1
 have H0:=mkA h0
 have H1:=mkA h1
 clear hT hB hx hv hA hc0 h0 hc1 h1
 go_enter Tryz.func64,Tryz.ntmps64
 go_upto_region 0 with (fail)
 have s0_0:w.cell? ⟨gx,0,none⟩=some (R.ptr gt):=(blk_cell (W0.out.typ _ _ _ HX.out (by decide) (by decide) (by decide)) 0).trans rfl
 have s0_1:w.cell? ⟨gv,0,none⟩=some (R.ptr g):=(blk_cell (W0.out.typ _ _ _ HV.out (by decide) (by decide) (by decide)) 0).trans rfl
 have s0_2:w.cell? ⟨g,3,none⟩=some x0:=(blk_cell (HA.out.fr W0.out.keeps).2 3).trans HC0.out
 have CP0:=mkA (fun (u:World) (hu:Below w.heap.size w u)=>(H0.out u (W0.out.step (W0.out.big HBW.out) hu) (HTK.out.step hu)).mono fun e w' q=>(show TP B gt w (rows++r0) e w' from ⟨q.1,q.2.1,(W0.out.step (W0.out.big HBW.out) hu).trans q.2.2⟩))
 go_still_tail 5,(by kernel_rfl)
 go_upto_region 1 with (first
  | (go_at_call 62;refine (CP0.out _ ?_).mono ?_;(first | exact below_drew1 (Below.refl _ _) | exact Below.refl _ _);rintro e w5 ⟨rfl,q1,q2⟩;have T0:=mkA q1;have F0:=mkA q2;clear q1 q2))
 clear s0_0 s0_1 s0_2
 have s1_0:w5.cell? ⟨gx,0,none⟩=some (R.ptr gt):=(blk_cell (F0.out.typ _ _ _ HX.out (by decide) (by decide) (by decide)) 0).trans rfl
 have s1_1:w5.cell? ⟨gv,0,none⟩=some (R.ptr g):=(blk_cell (F0.out.typ _ _ _ HV.out (by decide) (by decide) (by decide)) 0).trans rfl
 have s1_2:w5.cell? ⟨g,4,none⟩=some x1:=(blk_cell (HA.out.fr F0.out.keeps).2 4).trans HC1.out
 have CP1:=mkA (fun (u:World) (hu:Below w5.heap.size w5 u)=>(H1.out u (F0.out.step (F0.out.big HBW.out) hu) (T0.out.step hu)).mono fun e w' q=>(show TP B gt w (rows++r0++r1) e w' from ⟨q.1,q.2.1,(F0.out.step (F0.out.big HBW.out) hu).trans q.2.2⟩))
 go_still_tail 5,(by kernel_rfl)
 go_wp2_with (first
  | (go_at_call 14;refine (CP1.out _ ?_).mono ?_;(first | exact below_drew1 (Below.refl _ _) | exact Below.refl _ _);rintro e w6 ⟨rfl,q1,q2⟩;have T1:=mkA q1;have F1:=mkA q2;clear q1 q2))
 clear s1_0 s1_1 s1_2
 go_end0
 exact ⟨rfl,T1.out,F1.out⟩
def TSel (n:Nat):Prop:=∀ {w:World} {B gt:Nat} {rows r:List Row} {v:Value},TK B gt w rows→B≤w.heap.size→SelA (to_ B) w n v r→rows.length+r.length≤1000000→Calls Tryz.prog 32 #[ptr gt,v] w (TP B gt w (rows++r))
theorem clo_31 {n:Nat} (ih:TSel n) {w:World} {B gt gx gv g:Nat} {rows r:List Row} {k:ByteArray} {l sl:Value} (hT:TK B gt w rows) (hB:B≤w.heap.size) (hx:w.heap[gx]?=some (.cells #[ptr gt] 35 (0,0))) (hv:w.heap[gv]?=some (.cells #[ptr g] 40 (0,0))) (hA:At (to_ B) w g #[.string k,l,sl] 91) (hS:SlA (to_ B) w 93 (SelA (to_ B) w n) sl r) (hn:rows.length+r.length≤1000000):Calls Tryz.prog 31 #[ptr gv,ptr gx] w (TP B gt w (rows++r)):=by
 obtain ⟨m,xs,hm,hO,hM⟩:=hS
 obtain ⟨hxn,hsh⟩:=own_shape hO
 obtain ⟨A,cp,rfl⟩:∃ (A:Option Addr) (cp:Nat),sl=.slice A m cp:=by
  rcases hsh with ⟨e1,e2⟩ | ⟨g1,cp,e1,_⟩
  ·exact ⟨none,0,by rw [e1,e2]⟩
  ·exact ⟨_,cp,e1⟩
 have HMX:=mkA hm
 have HO:=mkA hO
 have HM:=mkA hM
 have HXN:=mkA hxn
 have HSH:=mkA hsh
 have IH:=mkA @ih
 have HTs:=mkA hT
 have HBW:=mkA hB
 have HN:=mkA hn
 have HXs:=mkA hx
 have HFs:=mkA (TF.refl B w)
 have s_0:w.cell? ⟨gv,0,none⟩=some (R.ptr g):=(blk_cell hv 0).trans rfl
 have s_1:w.cell? ⟨g,2,none⟩=some (.slice A m cp):=(blk_cell hA.2 2).trans rfl
 clear hm hO hM hxn hsh ih hT hB hx hv hA hn
 go_enter Tryz.func31,Tryz.ntmps31
 go_wp2
 go_loopw [9] (fun v9 wr=>∃ (j:Nat) (ra rb:List Row),v9=.int .i64 j∧Aside0 (j≤m)∧Aside0 (Many (SelA (to_ B) w n) (xs.drop j) rb)∧Aside0 (ra++rb=r)∧Aside0 (TK B gt wr (rows++ra))∧Aside0 (TF B w wr)∧Aside0 (wr.heap[gx]?=some (.cells #[R.ptr gt] 35 (0,0)))) (fun v9 _=>m - (intOf v9).toNat)
 case atStart=>exact ⟨0,[],r,rfl,⟨Nat.zero_le _⟩,⟨by rw [List.drop_zero];exact HM.out⟩,⟨rfl⟩,⟨by rw [List.append_nil];exact HTs.out⟩,HFs,HXs⟩
 case round =>
  obtain ⟨j,ra,rb,rfl,HJ,HMb,HRR,HTr,HFr,HXr⟩:=hrel
  by_cases hlt:j < m
  ·have HLT:=mkA hlt
   obtain ⟨x,hx⟩:∃ x,xs[j]?=some x:=⟨_,List.getElem?_eq_getElem (by rw [HXN.out];exact hlt)⟩
   have hd:xs.drop j=x :: xs.drop (j+1):=by
    obtain ⟨h1,h2⟩:=List.getElem?_eq_some_iff.1 hx
    rw [List.drop_eq_getElem_cons h1,h2]
   have hmb:=HMb.out
   rw [hd] at hmb
   obtain ⟨a,b,rfl,hq,hmb2⟩:=many_cons hmb
   have HMb2:=mkA hmb2
   clear hd hmb hmb2 HMb
   have hA:∃ g1:Nat,A=some ⟨g1,0,none⟩:=by
    rcases HSH.out with ⟨_,e⟩ | ⟨g1,cp1,e,_⟩
    ·omega
    ·injection e with e1 e2 e3;exact ⟨g1,e1⟩
   obtain ⟨g1,rfl⟩:=hA
   have hrd:wr.cell? ⟨g1,j,none⟩=some x:=own_read (HO.out.fr HFr.out.keeps) hx
   have HBr:=mkA (HFr.out.big HBW.out)
   have HNr:=mkA (show (rows++ra).length+a.length≤1000000 by have h1:=HN.out;rw [← HRR.out] at h1;simp only [List.length_append] at h1 ⊢;omega)
   have q0:(j < m)=True:=eq_true hlt
   have hmm:m≤1000000:=HMX.out
   have HNW:=mkA (show wrap64 ((j:Int)+1)=((j+1:Nat):Int) from (w64 (by omega) (by omega)).trans (by omega))
   clear hlt hmm hx
   have s_2:wr.cell? ⟨gx,0,none⟩=some (R.ptr gt):=(blk_cell HXr.out 0).trans rfl
   have CV:=mkA (IH.out HTr.out HBr.out (SelA.fr HFr.out.keeps _ _ _ hq) HNr.out)
   clear hq
   go_wp2_with (first
    | (go_at_call 32;(with_reducible refine CV.out.mono ?_);rintro e w5 ⟨rfl,q1,q2⟩;have Q1:=mkA q1;have Q2:=mkA q2;clear q1 q2))
   go_roundw
   case rel=>exact ⟨j+1,ra++a,b,congrArg (Value.int .i64) HNW.out,⟨HLT.out⟩,HMb2,⟨by rw [← HRR.out,List.append_assoc]⟩,⟨by rw [← List.append_assoc];exact Q1.out⟩,⟨HFr.out.trans Q2.out⟩,⟨Q2.out.typ _ _ _ HXr.out (by decide) (by decide) (by decide)⟩⟩
   case measure=>exact msr_up2 m j HLT.out HMX.out
  ·have q0:(j < m)=False:=eq_false hlt
   have hjm:j=m:=by have:=HJ.out;omega
   have hra:ra=r:=by
    have h1:=HMb.out
    rw [hjm,← HXN.out,List.drop_length] at h1
    cases h1
    rw [← HRR.out,List.append_nil]
   have HRA:=mkA hra
   clear hlt hjm hra
   go_wp2
   go_end0
   exact ⟨rfl,by rw [← HRA.out];exact HTr.out,HFr.out⟩
theorem set_take {n:Nat} (ih:TSel n) {w:World} {B gt:Nat} {rows r:List Row} {p:Value} (hT:TK B gt w rows) (hB:B≤w.heap.size) (hS:SetA (to_ B) w (SelA (to_ B) w n) r p) (hn:rows.length+r.length≤1000000):Calls Tryz.prog 14 #[ptr gt,p] w (TP B gt w (rows++r)):=by
 obtain ⟨g,k,l,sl,r,rfl,hA,hL,hS,rfl⟩:=hS
 have HTK:=mkA hT
 have HBW:=mkA hB
 have HN:=mkA hn
 have HA:=mkA hA
 have HL:=mkA hL
 have HSS:=mkA hS
 have IH:=mkA @ih
 clear hT hB hn hA hL hS ih
 obtain ⟨gl,la,lz,ls,rfl,HLC⟩:=HL.out
 go_enter Tryz.func14,Tryz.ntmps14
 go_upto_region 2 with (first
  | ((with_reducible refine gate_dst (N:=2) rfl ?_);refine bxe (cs:=#[R.ptr gt]) (t:=35) ?hr ?_;(case hr=>first | (go_simp;done) | (go_simp;rfl));intro gx hg w2 hbox hb;have B2:=mkA hb;have BX:=mkA hbox;clear hbox hb hg)
  | ((with_reducible refine gate_dst (N:=3) rfl ?_);refine bxe (cs:=#[R.ptr g]) (t:=40) ?hr ?_;(case hr=>first | (go_simp;done) | (go_simp;rfl));intro gv hg w3 hbox hb;have B3:=mkA (below_step B2.out hb);have BV4:=mkA hbox;have BX4:=mkA (blk_below BX.out hb);have s_9:w3.cell? ⟨gv,0,none⟩=some (R.ptr g):=(blk_cell hbox 0).trans rfl;clear hbox hb hg B2 BX))
 have B4:=B3
 have KP:=mkA (keeps_up (n:=B) B4.out)
 have AL:=mkA (show At (to_ B) w3 g #[.string k,R.ptr gl,sl] 91 from HA.out.fr KP.out)
 have LCL:=mkA (show LocA (to_ B) w3 (R.ptr gl) from HL.out.fr KP.out)
 have SL:=mkA (show SlA (to_ B) w3 93 (SelA (to_ B) w3 n) sl r from SlA.fr HSS.out KP.out (fun v r h=>SelA.fr KP.out _ _ _ h))
 have s_0:w3.cell? ⟨gx,0,none⟩=some (R.ptr gt):=(blk_cell BX4.out 0).trans rfl
 have s_1:w3.cell? ⟨gv,0,none⟩=some (R.ptr g):=(blk_cell BV4.out 0).trans rfl
 have c_0:w3.cell? ⟨g,1,none⟩=some (R.ptr gl):=(blk_cell AL.out.2 1).trans rfl
 have T4:=mkA (show TK B gt w3 (rows) from HTK.out.step B4.out)
 have cP:=mkA (fun (u:World) (hu:Below w3.heap.size w3 u)=>(show Calls Tryz.prog 26 #[R.ptr gt,R.ptr gl,.agg #[.int .i64 5,.string ⟨#[]⟩,.string ⟨#[]⟩,.string ⟨#[]⟩,.int .i64 0,.int .i64 0],.func (.func 31) #[] #[R.ptr gv,R.ptr gx]] u (TP B gt w ((rows)++nd 5 ⟨#[]⟩ ⟨#[]⟩ ⟨#[]⟩ 0 r)) from (put_walk (T4.out.step hu) (LCL.out.fr (keeps_up hu)) (Nat.le_trans HBW.out (below_step B4.out hu).size) (by have h_:=HN.out;rw [nd_len] at h_;omega) (.inr ⟨31,_,rfl,(fun w=>by kernel_rfl),fun w1 rows1 f1 t1 b1=>clo_31 IH.out t1 (f1.big (Nat.le_trans HBW.out (below_step B4.out hu).size)) (f1.typ _ _ _ (blk_below BX4.out hu) (by decide) (by decide) (by decide)) (f1.typ _ _ _ (blk_below BV4.out hu) (by decide) (by decide) (by decide)) ((AL.out.fr (keeps_up hu)).fr f1.keeps) (SlA.fr (SlA.fr SL.out (keeps_up hu) (fun v r h=>SelA.fr (keeps_up hu) _ _ _ h)) f1.keeps (fun v r h=>SelA.fr f1.keeps _ _ _ h)) b1⟩)).mono fun e w' q=>⟨q.1,q.2.1,(TF.of HBW.out (below_step B4.out hu)).trans q.2.2⟩))
 go_still_tail 7,(by kernel_rfl)
 go_wp2_with (first
  | (go_at_call 26;refine (cP.out _ ?_).mono ?_;(first | exact below_drew1 (Below.refl _ _) | exact Below.refl _ _);rintro e w5 ⟨rfl,q1,q2⟩;have Q1:=mkA q1;have Q2:=mkA q2;clear q1 q2))
 go_end0
 exact ⟨rfl,Q1.out,Q2.out⟩
theorem set_nil {w:World} {B gt:Nat} {rows:List Row} (hT:TK B gt w rows) (hB:B≤w.heap.size):Calls Tryz.prog 14 #[ptr gt,.pointer none] w (TP B gt w (rows++[])):=by
 have HTK:=mkA hT
 have HBW:=mkA hB
 clear hT hB
 go_enter Tryz.func14,Tryz.ntmps14
 go_wp2_with (first
  | ((with_reducible refine gate_dst (N:=2) rfl ?_);refine bxe (cs:=#[R.ptr gt]) (t:=35) ?hr ?_;(case hr=>first | (go_simp;done) | (go_simp;rfl));intro gx hg w2 hbox hb;have B2:=mkA hb;have BX:=mkA hbox;clear hbox hb hg)
  | ((with_reducible refine gate_dst (N:=3) rfl ?_);refine bxe (cs:=#[.pointer none]) (t:=40) ?hr ?_;(case hr=>first | (go_simp;done) | (go_simp;rfl));intro gv hg w3 hbox hb;have B3:=mkA (below_step B2.out hb);have s_9:w3.cell? ⟨gv,0,none⟩=some (.pointer none):=(blk_cell hbox 0).trans rfl;clear hbox hb hg B2 BX))
 go_end0
 exact ⟨rfl,by rw [List.append_nil];exact HTK.out.step B3.out,TF.of HBW.out B3.out⟩
theorem seto_take {n:Nat} (ih:TSel n) {w:World} {B gt:Nat} {rows r:List Row} {p:Value} (hT:TK B gt w rows) (hB:B≤w.heap.size) (hS:SetO (to_ B) w (SelA (to_ B) w n) r p) (hn:rows.length+r.length≤1000000):Calls Tryz.prog 14 #[ptr gt,p] w (TP B gt w (rows++r)):=by
 rcases hS with ⟨rfl,rfl⟩ | hS
 ·exact set_nil hT hB
 ·exact set_take ih hT hB hS hn
theorem SetO.fr {ok ok':Ok} {w w':World} {X Y:Value→List Row→Prop} {rows:List Row} {p:Value} (h:SetO ok w X rows p) (hf:Keeps ok ok' w w') (hm:∀ v r,X v r→Y v r):SetO ok' w' Y rows p:=h.imp id (fun h=>SetA.fr h hf hm)
theorem text_any {ok:Ok} {w:World} {p:Value} {v:ByteArray} (h:(p=.pointer none∧v=e0)∨NameA ok w p v):Calls Tryz.prog 25 #[p] w (fun e w'=>e=.returned (.string v)∧w'=w):=by
 rcases h with ⟨rfl,rfl⟩ | h
 ·exact text_nil w
 ·exact text_walk h
theorem on_any {ok:Ok} {w:World} {p:Value} {v:ByteArray} (h:(p=.pointer none∧v=e0)∨NamedA ok w p v):Calls Tryz.prog 51 #[p] w (fun e w'=>e=.returned (.string v)∧w'=w):=by
 rcases h with ⟨rfl,rfl⟩ | h
 ·exact on_nil w
 ·exact on_walk h
theorem ts_field {n:Nat} (ih:TSel n) {w:World} {B gt g:Nat} {rows:List Row} {k v av:ByteArray} {l al nn ag ds ss:Value} {ra rd rs:List Row} (hA:At (to_ B) w g #[.string k,l,al,nn,ag,ds,ss] 158) (hAL:(al=.pointer none∧av=e0)∨NameA (to_ B) w al av) (hNM:NameA (to_ B) w nn v) (hAG:ArgsA (to_ B) w ra ag) (hDS:DirsA (to_ B) w rd ds) (hSS:SetO (to_ B) w (SelA (to_ B) w n) rs ss) (hL:LocA (to_ B) w l) (hT:TK B gt w rows) (hB:B≤w.heap.size) (hn:rows.length+(nd 6 v av e0 0 (ra++rd++rs)).length≤1000000):Calls Tryz.prog 32 #[ptr gt,.iface 154 (ptr g)] w (TP B gt w (rows++nd 6 v av e0 0 (ra++rd++rs))):=by
 have HTK:=mkA hT
 have HBW:=mkA hB
 have HN:=mkA hn
 have HL:=mkA hL
 have IH:=mkA @ih
 have HA:=mkA hA
 have HAL:=mkA hAL
 have HNM:=mkA hNM
 have HAG:=mkA hAG
 have HDS:=mkA hDS
 have HSS:=mkA hSS
 have a154:=fun w=>ta_eq (P:=Tryz.prog) 154 (.pointer 158) (by kernel_rfl) rfl (R.ptr g) 93 w
 clear ih hT hB hn hL hA hAL hNM hAG hDS hSS
 obtain ⟨gl,la,lz,ls,rfl,HLC⟩:=HL.out
 go_enter Tryz.func32,Tryz.ntmps32
 go_upto_region 6 with (first
  | ((with_reducible refine gate_dst (N:=2) rfl ?_);refine bxe (cs:=#[R.ptr gt]) (t:=35) ?hr ?_;(case hr=>first | (go_simp;done) | (go_simp;rfl));intro gx hg w2 hbox hb;have B2:=mkA hb;have BX:=mkA hbox;clear hbox hb hg)
  | ((with_reducible refine gate_dst (N:=4) rfl ?_);refine bxe (cs:=#[.pointer none]) (t:=154) ?hr ?_;(case hr=>first | (go_simp;done) | (go_simp;rfl));intro gv hg w3 hbox hb;have B3:=mkA (below_step B2.out hb);have BV:=mkA hbox;have BX3:=mkA (blk_below BX.out hb);have GV:=mkA (show w.heap.size≤gv by rw [hg];exact B2.out.size);have GXV:=mkA (show gx≠gv from Nat.ne_of_lt (by rw [hg];exact blk_lt BX.out));have z0:w3.cell? ⟨gv,0,none⟩=some (.pointer none):=(blk_cell hbox 0).trans rfl;have zf0:=blk_frozen hbox 0;clear hbox hb hg))
 obtain ⟨w4,hw4⟩:∃ w4,w4=w3.setCell ⟨gv,0,none⟩ (R.ptr g):=⟨_,rfl⟩
 have B4:=mkA (show Below w.heap.size w w4 by rw [hw4];exact B3.out.setCell (p:=⟨gv,0,none⟩) GV.out _)
 have BV4:=mkA (show w4.heap[gv]?=some (.cells #[R.ptr g] 154 (0,0)) by rw [hw4];exact blk_put (cs:=#[.pointer none]) BV.out 0 _ rfl)
 have BX4:=mkA (show w4.heap[gx]?=some (.cells #[R.ptr gt] 35 (0,0)) by rw [hw4];exact blk_far (p:=⟨gv,0,none⟩) BX3.out GXV.out _)
 rw [← hw4]
 clear hw4 z0 zf0 B3 BX3 BV
 have KP:=mkA (keeps_up (n:=B) B4.out)
 have AL:=mkA (show At (to_ B) w4 g #[.string k,R.ptr gl,al,nn,ag,ds,ss] 158 from HA.out.fr KP.out)
 have LCL:=mkA (show LocA (to_ B) w4 (R.ptr gl) from HL.out.fr KP.out)
 have NAL:=mkA (show (al=.pointer none∧av=e0)∨NameA (to_ B) w4 al av from HAL.out.imp id (fun h=>h.fr KP.out))
 have NML:=mkA (show NameA (to_ B) w4 nn v from HNM.out.fr KP.out)
 have AGL:=mkA (show ArgsA (to_ B) w4 ra ag from ArgsA.fr HAG.out KP.out)
 have DSL:=mkA (show DirsA (to_ B) w4 rd ds from DirsA.fr HDS.out KP.out)
 have SSL:=mkA (show SetO (to_ B) w4 (SelA (to_ B) w4 n) rs ss from SetO.fr HSS.out KP.out (fun v r h=>SelA.fr KP.out _ _ _ h))
 have s_0:w4.cell? ⟨gx,0,none⟩=some (R.ptr gt):=(blk_cell BX4.out 0).trans rfl
 have s_1:w4.cell? ⟨gv,0,none⟩=some (R.ptr g):=(blk_cell BV4.out 0).trans rfl
 have c_0:w4.cell? ⟨g,1,none⟩=some (R.ptr gl):=(blk_cell AL.out.2 1).trans rfl
 have c_1:w4.cell? ⟨g,3,none⟩=some (nn):=(blk_cell AL.out.2 3).trans rfl
 have c_2:w4.cell? ⟨g,2,none⟩=some (al):=(blk_cell AL.out.2 2).trans rfl
 have T4:=mkA (show TK B gt w4 (rows) from HTK.out.step B4.out)
 have cT0:=mkA (fun (u:World) (hu:Below w4.heap.size w4 u)=>(show Calls Tryz.prog 25 #[nn] u (fun e w'=>e=.returned (.string v)∧w'=u) from text_walk (NML.out.fr (keeps_up hu))))
 have cT1:=mkA (fun (u:World) (hu:Below w4.heap.size w4 u)=>(show Calls Tryz.prog 25 #[al] u (fun e w'=>e=.returned (.string av)∧w'=u) from text_any (NAL.out.imp id (fun h=>h.fr (keeps_up hu)))))
 have cP:=mkA (fun (u:World) (hu:Below w4.heap.size w4 u)=>(show Calls Tryz.prog 26 #[R.ptr gt,R.ptr gl,.agg #[.int .i64 6,.string v,.string av,.string ⟨#[]⟩,.int .i64 0,.int .i64 0],.func (.func 60) #[] #[R.ptr gx,R.ptr gv]] u (TP B gt w ((rows)++nd 6 v av ⟨#[]⟩ 0 (ra++rd++rs))) from (put_walk (T4.out.step hu) (LCL.out.fr (keeps_up hu)) (Nat.le_trans HBW.out (below_step B4.out hu).size) (by have h_:=HN.out;rw [nd_len] at h_;omega) (.inr ⟨60,_,rfl,(fun w=>by kernel_rfl),fun w1 rows1 f1 t1 b1=>by rw [show rows1++(ra++rd++rs)=rows1++ra++rd++rs from by simp only [List.append_assoc]];exact clo_60 t1 (f1.big (Nat.le_trans HBW.out (below_step B4.out hu).size)) (f1.typ _ _ _ (blk_below BX4.out hu) (by decide) (by decide) (by decide)) (f1.typ _ _ _ (blk_below BV4.out hu) (by decide) (by decide) (by decide)) ((AL.out.fr (keeps_up hu)).fr f1.keeps) rfl rfl rfl (fun u2 f2 t2=>args_take t2 (f2.big (f1.big (Nat.le_trans HBW.out (below_step B4.out hu).size))) (ArgsA.fr (ArgsA.fr (ArgsA.fr AGL.out (keeps_up hu)) f1.keeps) f2.keeps) (by simp only [List.length_append] at b1 ⊢;omega)) (fun u2 f2 t2=>dirs_take t2 (f2.big (f1.big (Nat.le_trans HBW.out (below_step B4.out hu).size))) (DirsA.fr (DirsA.fr (DirsA.fr DSL.out (keeps_up hu)) f1.keeps) f2.keeps) (by simp only [List.length_append] at b1 ⊢;omega)) (fun u2 f2 t2=>seto_take IH.out t2 (f2.big (f1.big (Nat.le_trans HBW.out (below_step B4.out hu).size))) (SetO.fr (SetO.fr (SetO.fr SSL.out (keeps_up hu) (fun v r h=>SelA.fr (keeps_up hu) _ _ _ h)) f1.keeps (fun v r h=>SelA.fr f1.keeps _ _ _ h)) f2.keeps (fun v r h=>SelA.fr f2.keeps _ _ _ h)) (by simp only [List.length_append] at b1 ⊢;omega))⟩)).mono fun e w' q=>⟨q.1,q.2.1,(TF.of HBW.out (below_step B4.out hu)).trans q.2.2⟩))
 go_still_tail 17,(by kernel_rfl)
 still_call (cT0.out _ (by first | exact below_drew1 (Below.refl _ _) | exact Below.refl _ _))
 repeat still_step
 still_call (cT1.out _ (by first | exact below_drew1 (Below.refl _ _) | exact Below.refl _ _))
 repeat still_step
 refine wpStill_nil ?_
 go_wp2_with (first
  | (go_at_call 26;refine (cP.out _ ?_).mono ?_;(first | exact below_drew1 (Below.refl _ _) | exact Below.refl _ _);rintro e w5 ⟨rfl,q1,q2⟩;have Q1:=mkA q1;have Q2:=mkA q2;clear q1 q2))
 go_end0
 exact ⟨rfl,Q1.out,Q2.out⟩
theorem ts_spread {n:Nat} (ih:TSel n) {w:World} {B gt g:Nat} {rows:List Row} {k v:ByteArray} {l nn ds:Value} {rd:List Row} (hA:At (to_ B) w g #[.string k,l,nn,ds] 163) (hNM:NameA (to_ B) w nn v) (hDS:DirsA (to_ B) w rd ds) (hL:LocA (to_ B) w l) (hT:TK B gt w rows) (hB:B≤w.heap.size) (hn:rows.length+(nd 7 v e0 e0 0 rd).length≤1000000):Calls Tryz.prog 32 #[ptr gt,.iface 161 (ptr g)] w (TP B gt w (rows++nd 7 v e0 e0 0 rd)):=by
 have HTK:=mkA hT
 have HBW:=mkA hB
 have HN:=mkA hn
 have HL:=mkA hL
 have IH:=mkA @ih
 have HA:=mkA hA
 have HNM:=mkA hNM
 have HDS:=mkA hDS
 have a154:=fun w=>ta_ne (P:=Tryz.prog) 161 154 (.pointer 158) (.pointer none) (by kernel_rfl) rfl (by kernel_rfl) (by decide) (R.ptr g) 93 w
 have a161:=fun w=>ta_eq (P:=Tryz.prog) 161 (.pointer 163) (by kernel_rfl) rfl (R.ptr g) 93 w
 clear ih hT hB hn hL hA hNM hDS
 obtain ⟨gl,la,lz,ls,rfl,HLC⟩:=HL.out
 go_enter Tryz.func32,Tryz.ntmps32
 go_upto_region 9 with (first
  | ((with_reducible refine gate_dst (N:=2) rfl ?_);refine bxe (cs:=#[R.ptr gt]) (t:=35) ?hr ?_;(case hr=>first | (go_simp;done) | (go_simp;rfl));intro gx hg w2 hbox hb;have B2:=mkA hb;have BX:=mkA hbox;clear hbox hb hg)
  | ((with_reducible refine gate_dst (N:=5) rfl ?_);refine bxe (cs:=#[.pointer none]) (t:=161) ?hr ?_;(case hr=>first | (go_simp;done) | (go_simp;rfl));intro gv hg w3 hbox hb;have B3:=mkA (below_step B2.out hb);have BV:=mkA hbox;have BX3:=mkA (blk_below BX.out hb);have GV:=mkA (show w.heap.size≤gv by rw [hg];exact B2.out.size);have GXV:=mkA (show gx≠gv from Nat.ne_of_lt (by rw [hg];exact blk_lt BX.out));have z0:w3.cell? ⟨gv,0,none⟩=some (.pointer none):=(blk_cell hbox 0).trans rfl;have zf0:=blk_frozen hbox 0;clear hbox hb hg))
 obtain ⟨w4,hw4⟩:∃ w4,w4=w3.setCell ⟨gv,0,none⟩ (R.ptr g):=⟨_,rfl⟩
 have B4:=mkA (show Below w.heap.size w w4 by rw [hw4];exact B3.out.setCell (p:=⟨gv,0,none⟩) GV.out _)
 have BV4:=mkA (show w4.heap[gv]?=some (.cells #[R.ptr g] 161 (0,0)) by rw [hw4];exact blk_put (cs:=#[.pointer none]) BV.out 0 _ rfl)
 have BX4:=mkA (show w4.heap[gx]?=some (.cells #[R.ptr gt] 35 (0,0)) by rw [hw4];exact blk_far (p:=⟨gv,0,none⟩) BX3.out GXV.out _)
 rw [← hw4]
 clear hw4 z0 zf0 B3 BX3 BV
 have KP:=mkA (keeps_up (n:=B) B4.out)
 have AL:=mkA (show At (to_ B) w4 g #[.string k,R.ptr gl,nn,ds] 163 from HA.out.fr KP.out)
 have LCL:=mkA (show LocA (to_ B) w4 (R.ptr gl) from HL.out.fr KP.out)
 have NML:=mkA (show NameA (to_ B) w4 nn v from HNM.out.fr KP.out)
 have DSL:=mkA (show DirsA (to_ B) w4 rd ds from DirsA.fr HDS.out KP.out)
 have s_0:w4.cell? ⟨gx,0,none⟩=some (R.ptr gt):=(blk_cell BX4.out 0).trans rfl
 have s_1:w4.cell? ⟨gv,0,none⟩=some (R.ptr g):=(blk_cell BV4.out 0).trans rfl
 have c_0:w4.cell? ⟨g,1,none⟩=some (R.ptr gl):=(blk_cell AL.out.2 1).trans rfl
 have c_1:w4.cell? ⟨g,2,none⟩=some (nn):=(blk_cell AL.out.2 2).trans rfl
 have T4:=mkA (show TK B gt w4 (rows) from HTK.out.step B4.out)
 have cT0:=mkA (fun (u:World) (hu:Below w4.heap.size w4 u)=>(show Calls Tryz.prog 25 #[nn] u (fun e w'=>e=.returned (.string v)∧w'=u) from text_walk (NML.out.fr (keeps_up hu))))
 have cP:=mkA (fun (u:World) (hu:Below w4.heap.size w4 u)=>(show Calls Tryz.prog 26 #[R.ptr gt,R.ptr gl,.agg #[.int .i64 7,.string v,.string ⟨#[]⟩,.string ⟨#[]⟩,.int .i64 0,.int .i64 0],.func (.func 63) #[] #[R.ptr gx,R.ptr gv]] u (TP B gt w ((rows)++nd 7 v ⟨#[]⟩ ⟨#[]⟩ 0 rd)) from (put_walk (T4.out.step hu) (LCL.out.fr (keeps_up hu)) (Nat.le_trans HBW.out (below_step B4.out hu).size) (by have h_:=HN.out;rw [nd_len] at h_;omega) (.inr ⟨63,_,rfl,(fun w=>by kernel_rfl),fun w1 rows1 f1 t1 b1=>clo_63 (f1.typ _ _ _ (blk_below BX4.out hu) (by decide) (by decide) (by decide)) (f1.typ _ _ _ (blk_below BV4.out hu) (by decide) (by decide) (by decide)) ((blk_cell ((AL.out.fr (keeps_up hu)).fr f1.keeps).2 3).trans rfl) (fun u2 hu2=>(dirs_take (t1.step hu2) (Nat.le_trans (f1.big (Nat.le_trans HBW.out (below_step B4.out hu).size)) hu2.size) (DirsA.fr (DirsA.fr (DirsA.fr DSL.out (keeps_up hu)) f1.keeps) (keeps_up hu2)) b1).mono fun e w' q=>⟨q.1,q.2.1,(TF.of (f1.big (Nat.le_trans HBW.out (below_step B4.out hu).size)) hu2).trans q.2.2⟩) (fun _ _ q=>q.1)⟩)).mono fun e w' q=>⟨q.1,q.2.1,(TF.of HBW.out (below_step B4.out hu)).trans q.2.2⟩))
 go_still_tail 12,(by kernel_rfl)
 still_call (cT0.out _ (by first | exact below_drew1 (Below.refl _ _) | exact Below.refl _ _))
 repeat still_step
 refine wpStill_nil ?_
 go_wp2_with (first
  | (go_at_call 26;refine (cP.out _ ?_).mono ?_;(first | exact below_drew1 (Below.refl _ _) | exact Below.refl _ _);rintro e w5 ⟨rfl,q1,q2⟩;have Q1:=mkA q1;have Q2:=mkA q2;clear q1 q2))
 go_end0
 exact ⟨rfl,Q1.out,Q2.out⟩
theorem ts_inline {n:Nat} (ih:TSel n) {w:World} {B gt g:Nat} {rows:List Row} {k v:ByteArray} {l tc ds ss:Value} {rd rs:List Row} (hA:At (to_ B) w g #[.string k,l,tc,ds,ss] 166) (hNM:(tc=.pointer none∧v=e0)∨NamedA (to_ B) w tc v) (hDS:DirsA (to_ B) w rd ds) (hSS:SetA (to_ B) w (SelA (to_ B) w n) rs ss) (hL:LocA (to_ B) w l) (hT:TK B gt w rows) (hB:B≤w.heap.size) (hn:rows.length+(nd 8 e0 e0 v 0 (rd++rs)).length≤1000000):Calls Tryz.prog 32 #[ptr gt,.iface 164 (ptr g)] w (TP B gt w (rows++nd 8 e0 e0 v 0 (rd++rs))):=by
 have HTK:=mkA hT
 have HBW:=mkA hB
 have HN:=mkA hn
 have HL:=mkA hL
 have IH:=mkA @ih
 have HA:=mkA hA
 have HNM:=mkA hNM
 have HDS:=mkA hDS
 have HSS:=mkA hSS
 have a154:=fun w=>ta_ne (P:=Tryz.prog) 164 154 (.pointer 158) (.pointer none) (by kernel_rfl) rfl (by kernel_rfl) (by decide) (R.ptr g) 93 w
 have a161:=fun w=>ta_ne (P:=Tryz.prog) 164 161 (.pointer 163) (.pointer none) (by kernel_rfl) rfl (by kernel_rfl) (by decide) (R.ptr g) 93 w
 have a164:=fun w=>ta_eq (P:=Tryz.prog) 164 (.pointer 166) (by kernel_rfl) rfl (R.ptr g) 93 w
 clear ih hT hB hn hL hA hNM hDS hSS
 obtain ⟨gl,la,lz,ls,rfl,HLC⟩:=HL.out
 go_enter Tryz.func32,Tryz.ntmps32
 go_upto_region 12 with (first
  | ((with_reducible refine gate_dst (N:=2) rfl ?_);refine bxe (cs:=#[R.ptr gt]) (t:=35) ?hr ?_;(case hr=>first | (go_simp;done) | (go_simp;rfl));intro gx hg w2 hbox hb;have B2:=mkA hb;have BX:=mkA hbox;clear hbox hb hg)
  | ((with_reducible refine gate_dst (N:=6) rfl ?_);refine bxe (cs:=#[.pointer none]) (t:=164) ?hr ?_;(case hr=>first | (go_simp;done) | (go_simp;rfl));intro gv hg w3 hbox hb;have B3:=mkA (below_step B2.out hb);have BV:=mkA hbox;have BX3:=mkA (blk_below BX.out hb);have GV:=mkA (show w.heap.size≤gv by rw [hg];exact B2.out.size);have GXV:=mkA (show gx≠gv from Nat.ne_of_lt (by rw [hg];exact blk_lt BX.out));have z0:w3.cell? ⟨gv,0,none⟩=some (.pointer none):=(blk_cell hbox 0).trans rfl;have zf0:=blk_frozen hbox 0;clear hbox hb hg))
 obtain ⟨w4,hw4⟩:∃ w4,w4=w3.setCell ⟨gv,0,none⟩ (R.ptr g):=⟨_,rfl⟩
 have B4:=mkA (show Below w.heap.size w w4 by rw [hw4];exact B3.out.setCell (p:=⟨gv,0,none⟩) GV.out _)
 have BV4:=mkA (show w4.heap[gv]?=some (.cells #[R.ptr g] 164 (0,0)) by rw [hw4];exact blk_put (cs:=#[.pointer none]) BV.out 0 _ rfl)
 have BX4:=mkA (show w4.heap[gx]?=some (.cells #[R.ptr gt] 35 (0,0)) by rw [hw4];exact blk_far (p:=⟨gv,0,none⟩) BX3.out GXV.out _)
 rw [← hw4]
 clear hw4 z0 zf0 B3 BX3 BV
 have KP:=mkA (keeps_up (n:=B) B4.out)
 have AL:=mkA (show At (to_ B) w4 g #[.string k,R.ptr gl,tc,ds,ss] 166 from HA.out.fr KP.out)
 have LCL:=mkA (show LocA (to_ B) w4 (R.ptr gl) from HL.out.fr KP.out)
 have NAL:=mkA (show (tc=.pointer none∧v=e0)∨NamedA (to_ B) w4 tc v from HNM.out.imp id (fun h=>h.fr KP.out))
 have DSL:=mkA (show DirsA (to_ B) w4 rd ds from DirsA.fr HDS.out KP.out)
 have SSL:=mkA (show SetA (to_ B) w4 (SelA (to_ B) w4 n) rs ss from SetA.fr HSS.out KP.out (fun v r h=>SelA.fr KP.out _ _ _ h))
 have s_0:w4.cell? ⟨gx,0,none⟩=some (R.ptr gt):=(blk_cell BX4.out 0).trans rfl
 have s_1:w4.cell? ⟨gv,0,none⟩=some (R.ptr g):=(blk_cell BV4.out 0).trans rfl
 have c_0:w4.cell? ⟨g,1,none⟩=some (R.ptr gl):=(blk_cell AL.out.2 1).trans rfl
 have c_1:w4.cell? ⟨g,2,none⟩=some (tc):=(blk_cell AL.out.2 2).trans rfl
 have T4:=mkA (show TK B gt w4 (rows) from HTK.out.step B4.out)
 have cT0:=mkA (fun (u:World) (hu:Below w4.heap.size w4 u)=>(show Calls Tryz.prog 51 #[tc] u (fun e w'=>e=.returned (.string v)∧w'=u) from on_any (NAL.out.imp id (fun h=>h.fr (keeps_up hu)))))
 have cP:=mkA (fun (u:World) (hu:Below w4.heap.size w4 u)=>(show Calls Tryz.prog 26 #[R.ptr gt,R.ptr gl,.agg #[.int .i64 8,.string ⟨#[]⟩,.string ⟨#[]⟩,.string v,.int .i64 0,.int .i64 0],.func (.func 64) #[] #[R.ptr gx,R.ptr gv]] u (TP B gt w ((rows)++nd 8 ⟨#[]⟩ ⟨#[]⟩ v 0 (rd++rs))) from (put_walk (T4.out.step hu) (LCL.out.fr (keeps_up hu)) (Nat.le_trans HBW.out (below_step B4.out hu).size) (by have h_:=HN.out;rw [nd_len] at h_;omega) (.inr ⟨64,_,rfl,(fun w=>by kernel_rfl),fun w1 rows1 f1 t1 b1=>by rw [← List.append_assoc];exact clo_64 t1 (f1.big (Nat.le_trans HBW.out (below_step B4.out hu).size)) (f1.typ _ _ _ (blk_below BX4.out hu) (by decide) (by decide) (by decide)) (f1.typ _ _ _ (blk_below BV4.out hu) (by decide) (by decide) (by decide)) ((AL.out.fr (keeps_up hu)).fr f1.keeps) rfl rfl (fun u2 f2 t2=>dirs_take t2 (f2.big (f1.big (Nat.le_trans HBW.out (below_step B4.out hu).size))) (DirsA.fr (DirsA.fr (DirsA.fr DSL.out (keeps_up hu)) f1.keeps) f2.keeps) (by simp only [List.length_append] at b1 ⊢;omega)) (fun u2 f2 t2=>set_take IH.out t2 (f2.big (f1.big (Nat.le_trans HBW.out (below_step B4.out hu).size))) (SetA.fr (SetA.fr (SetA.fr SSL.out (keeps_up hu) (fun v r h=>SelA.fr (keeps_up hu) _ _ _ h)) f1.keeps (fun v r h=>SelA.fr f1.keeps _ _ _ h)) f2.keeps (fun v r h=>SelA.fr f2.keeps _ _ _ h)) (by simp only [List.length_append] at b1 ⊢;omega))⟩)).mono fun e w' q=>⟨q.1,q.2.1,(TF.of HBW.out (below_step B4.out hu)).trans q.2.2⟩))
 go_still_tail 12,(by kernel_rfl)
 still_call (cT0.out _ (by first | exact below_drew1 (Below.refl _ _) | exact Below.refl _ _))
 repeat still_step
 refine wpStill_nil ?_
 go_wp2_with (first
  | (go_at_call 26;refine (cP.out _ ?_).mono ?_;(first | exact below_drew1 (Below.refl _ _) | exact Below.refl _ _);rintro e w5 ⟨rfl,q1,q2⟩;have Q1:=mkA q1;have Q2:=mkA q2;clear q1 q2))
 go_end0
 exact ⟨rfl,Q1.out,Q2.out⟩
theorem sel_take:∀ n,TSel n:=by
 intro n
 induction n with
 | zero=>intro w B gt rows r v hT hB hA hn;exact hA.elim
 | succ n ih =>
   intro w B gt rows r v hT hB hA hn
   cases hA with
   | field a b c d e f g=>exact ts_field ih a c d e f g b hT hB hn
   | spread a b c d=>exact ts_spread ih a c d b hT hB hn
   | inline a b c d e=>exact ts_inline ih a c d e b hT hB hn
theorem set_takeE {w:World} {B gt:Nat} {rows r:List Row} {p:Value} (hT:TK B gt w rows) (hB:B≤w.heap.size) (hS:SetE (to_ B) w r p) (hn:rows.length+r.length≤1000000):Calls Tryz.prog 14 #[ptr gt,p] w (TP B gt w (rows++r)):=by
 obtain ⟨n,h⟩:=hS.depth
 exact set_take (sel_take n) hT hB h hn
end Go.Proofs.YthgcghpcikbnkaaGreatDoor.R
