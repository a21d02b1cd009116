/- A part of the proof of the theorem of this claim: Tkw, Tko, Tkx. No condition of its own. -/
import Derived.Test.YthgcghpcikbnkaaGreatDoorC38
import Derived.Test.YthgcghpcikbnkaaGreatDoorC8
set_option maxHeartbeats 16000000
set_option maxRecDepth 100000
namespace Go.Proofs.YthgcghpcikbnkaaGreatDoor.R
open Go.RowKit Go.Proofs.YthgcghpcikbnkaaGreatDoorW.PrintWords Go.Proofs.YthgcghpcikbnkaaGreatDoorW.PrintLast Go.Proofs.YthgcghpcikbnkaaGreatDoorW.PrintMore
set_option linter.unusedVariables false
set_option linter.unusedSimpArgs false
def TVal (n:Nat):Prop:=∀ {w:World} {B gt:Nat} {rows r:List Row} {v:Value},TK B gt w rows→B≤w.heap.size→ValA (to_ B) w n v r→rows.length+r.length≤1000000→Calls Tryz.prog 29 #[ptr gt,v] w (TP B gt w (rows++r))
theorem clo_54 {n:Nat} (ih:TVal n) {w:World} {B gt gx gv g:Nat} {rows r:List Row} {k:ByteArray} {l sl:Value} (hT:TK B gt w rows) (hB:B≤w.heap.size) (hx:w.heap[gx]?=some (.cells #[ptr gt] 35 (0,0))) (hv:w.heap[gv]?=some (.cells #[ptr g] 141 (0,0))) (hA:At (to_ B) w g #[.string k,l,sl] 144) (hS:SlA (to_ B) w 77 (ValA (to_ B) w n) sl r) (hn:rows.length+r.length≤1000000):Calls Tryz.prog 54 #[ptr gv,ptr gx] w (TP B gt w (rows++r)):=by
 obtain ⟨m,xs,hm,hO,hM⟩:=hS
 obtain ⟨hxn,hsh⟩:=own_shape hO
 obtain ⟨A,cp,rfl⟩:∃ (A:Option Addr) (cp:Nat),sl=.slice A m cp:=by
  rcases hsh with ⟨e1,e2⟩ | ⟨g1,cp,e1,_⟩
  ·exact ⟨none,0,by rw [e1,e2]⟩
  ·exact ⟨_,cp,e1⟩
 have HMX:=mkA hm
 have HO:=mkA hO
 have HM:=mkA hM
 have HXN:=mkA hxn
 have HSH:=mkA hsh
 have IH:=mkA @ih
 have HTs:=mkA hT
 have HBW:=mkA hB
 have HN:=mkA hn
 have HXs:=mkA hx
 have HFs:=mkA (TF.refl B w)
 have s_0:w.cell? ⟨gv,0,none⟩=some (R.ptr g):=(blk_cell hv 0).trans rfl
 have s_1:w.cell? ⟨g,2,none⟩=some (.slice A m cp):=(blk_cell hA.2 2).trans rfl
 clear hm hO hM hxn hsh ih hT hB hx hv hA hn
 go_enter Tryz.func54,Tryz.ntmps54
 go_wp2
 go_loopw [9] (fun v9 wr=>∃ (j:Nat) (ra rb:List Row),v9=.int .i64 j∧Aside0 (j≤m)∧Aside0 (Many (ValA (to_ B) w n) (xs.drop j) rb)∧Aside0 (ra++rb=r)∧Aside0 (TK B gt wr (rows++ra))∧Aside0 (TF B w wr)∧Aside0 (wr.heap[gx]?=some (.cells #[R.ptr gt] 35 (0,0)))) (fun v9 _=>m - (intOf v9).toNat)
 case atStart=>exact ⟨0,[],r,rfl,⟨Nat.zero_le _⟩,⟨by rw [List.drop_zero];exact HM.out⟩,⟨rfl⟩,⟨by rw [List.append_nil];exact HTs.out⟩,HFs,HXs⟩
 case round =>
  obtain ⟨j,ra,rb,rfl,HJ,HMb,HRR,HTr,HFr,HXr⟩:=hrel
  by_cases hlt:j < m
  ·have HLT:=mkA hlt
   obtain ⟨x,hx⟩:∃ x,xs[j]?=some x:=⟨_,List.getElem?_eq_getElem (by rw [HXN.out];exact hlt)⟩
   have hd:xs.drop j=x :: xs.drop (j+1):=by
    obtain ⟨h1,h2⟩:=List.getElem?_eq_some_iff.1 hx
    rw [List.drop_eq_getElem_cons h1,h2]
   have hmb:=HMb.out
   rw [hd] at hmb
   obtain ⟨a,b,rfl,hq,hmb2⟩:=many_cons hmb
   have HMb2:=mkA hmb2
   clear hd hmb hmb2 HMb
   have hA:∃ g1:Nat,A=some ⟨g1,0,none⟩:=by
    rcases HSH.out with ⟨_,e⟩ | ⟨g1,cp1,e,_⟩
    ·omega
    ·injection e with e1 e2 e3;exact ⟨g1,e1⟩
   obtain ⟨g1,rfl⟩:=hA
   have hrd:wr.cell? ⟨g1,j,none⟩=some x:=own_read (HO.out.fr HFr.out.keeps) hx
   have HBr:=mkA (HFr.out.big HBW.out)
   have HNr:=mkA (show (rows++ra).length+a.length≤1000000 by have h1:=HN.out;rw [← HRR.out] at h1;simp only [List.length_append] at h1 ⊢;omega)
   have q0:(j < m)=True:=eq_true hlt
   have hmm:m≤1000000:=HMX.out
   have HNW:=mkA (show wrap64 ((j:Int)+1)=((j+1:Nat):Int) from (w64 (by omega) (by omega)).trans (by omega))
   clear hlt hmm hx
   have s_2:wr.cell? ⟨gx,0,none⟩=some (R.ptr gt):=(blk_cell HXr.out 0).trans rfl
   have CV:=mkA (IH.out HTr.out HBr.out (ValA.fr HFr.out.keeps _ _ _ hq) HNr.out)
   clear hq
   go_wp2_with (first
    | (go_at_call 29;(with_reducible refine CV.out.mono ?_);rintro e w5 ⟨rfl,q1,q2⟩;have Q1:=mkA q1;have Q2:=mkA q2;clear q1 q2))
   go_roundw
   case rel=>exact ⟨j+1,ra++a,b,congrArg (Value.int .i64) HNW.out,⟨HLT.out⟩,HMb2,⟨by rw [← HRR.out,List.append_assoc]⟩,⟨by rw [← List.append_assoc];exact Q1.out⟩,⟨HFr.out.trans Q2.out⟩,⟨Q2.out.typ _ _ _ HXr.out (by decide) (by decide) (by decide)⟩⟩
   case measure=>exact msr_up2 m j HLT.out HMX.out
  ·have q0:(j < m)=False:=eq_false hlt
   have hjm:j=m:=by have:=HJ.out;omega
   have hra:ra=r:=by
    have h1:=HMb.out
    rw [hjm,← HXN.out,List.drop_length] at h1
    cases h1
    rw [← HRR.out,List.append_nil]
   have HRA:=mkA hra
   clear hlt hjm hra
   go_wp2
   go_end0
   exact ⟨rfl,by rw [← HRA.out];exact HTr.out,HFr.out⟩
theorem clo_55 {n:Nat} (ih:TVal n) {w:World} {B gt gx gv g:Nat} {rows r:List Row} {k:ByteArray} {l sl:Value} (hT:TK B gt w rows) (hB:B≤w.heap.size) (hx:w.heap[gx]?=some (.cells #[ptr gt] 35 (0,0))) (hv:w.heap[gv]?=some (.cells #[ptr g] 145 (0,0))) (hA:At (to_ B) w g #[.string k,l,sl] 148) (hS:SlA (to_ B) w 149 (FldA (to_ B) w (ValA (to_ B) w n)) sl r) (hn:rows.length+r.length≤1000000):Calls Tryz.prog 55 #[ptr gv,ptr gx] w (TP B gt w (rows++r)):=by
 obtain ⟨m,xs,hm,hO,hM⟩:=hS
 obtain ⟨hxn,hsh⟩:=own_shape hO
 obtain ⟨A,cp,rfl⟩:∃ (A:Option Addr) (cp:Nat),sl=.slice A m cp:=by
  rcases hsh with ⟨e1,e2⟩ | ⟨g1,cp,e1,_⟩
  ·exact ⟨none,0,by rw [e1,e2]⟩
  ·exact ⟨_,cp,e1⟩
 have HMX:=mkA hm
 have HO:=mkA hO
 have HM:=mkA hM
 have HXN:=mkA hxn
 have HSH:=mkA hsh
 have IH:=mkA @ih
 have HTs:=mkA hT
 have HBW:=mkA hB
 have HN:=mkA hn
 have HXs:=mkA hx
 have HFs:=mkA (TF.refl B w)
 have s_0:w.cell? ⟨gv,0,none⟩=some (R.ptr g):=(blk_cell hv 0).trans rfl
 have s_1:w.cell? ⟨g,2,none⟩=some (.slice A m cp):=(blk_cell hA.2 2).trans rfl
 clear hm hO hM hxn hsh ih hT hB hx hv hA hn
 go_enter Tryz.func55,Tryz.ntmps55
 go_wp2
 go_loopw [9] (fun v9 wr=>∃ (j:Nat) (ra rb:List Row),v9=.int .i64 j∧Aside0 (j≤m)∧Aside0 (Many (FldA (to_ B) w (ValA (to_ B) w n)) (xs.drop j) rb)∧Aside0 (ra++rb=r)∧Aside0 (TK B gt wr (rows++ra))∧Aside0 (TF B w wr)∧Aside0 (wr.heap[gx]?=some (.cells #[R.ptr gt] 35 (0,0)))) (fun v9 _=>m - (intOf v9).toNat)
 case atStart=>exact ⟨0,[],r,rfl,⟨Nat.zero_le _⟩,⟨by rw [List.drop_zero];exact HM.out⟩,⟨rfl⟩,⟨by rw [List.append_nil];exact HTs.out⟩,HFs,HXs⟩
 case round =>
  obtain ⟨j,ra,rb,rfl,HJ,HMb,HRR,HTr,HFr,HXr⟩:=hrel
  by_cases hlt:j < m
  ·have HLT:=mkA hlt
   obtain ⟨x,hx⟩:∃ x,xs[j]?=some x:=⟨_,List.getElem?_eq_getElem (by rw [HXN.out];exact hlt)⟩
   have hd:xs.drop j=x :: xs.drop (j+1):=by
    obtain ⟨h1,h2⟩:=List.getElem?_eq_some_iff.1 hx
    rw [List.drop_eq_getElem_cons h1,h2]
   have hmb:=HMb.out
   rw [hd] at hmb
   obtain ⟨a,b,rfl,hq,hmb2⟩:=many_cons hmb
   have HMb2:=mkA hmb2
   clear hd hmb hmb2 HMb
   have hA:∃ g1:Nat,A=some ⟨g1,0,none⟩:=by
    rcases HSH.out with ⟨_,e⟩ | ⟨g1,cp1,e,_⟩
    ·omega
    ·injection e with e1 e2 e3;exact ⟨g1,e1⟩
   obtain ⟨g1,rfl⟩:=hA
   have hrd:wr.cell? ⟨g1,j,none⟩=some x:=own_read (HO.out.fr HFr.out.keeps) hx
   have HBr:=mkA (HFr.out.big HBW.out)
   have HNr:=mkA (show (rows++ra).length+a.length≤1000000 by have h1:=HN.out;rw [← HRR.out] at h1;simp only [List.length_append] at h1 ⊢;omega)
   have q0:(j < m)=True:=eq_true hlt
   have hmm:m≤1000000:=HMX.out
   have HNW:=mkA (show wrap64 ((j:Int)+1)=((j+1:Nat):Int) from (w64 (by omega) (by omega)).trans (by omega))
   clear hlt hmm hx
   obtain ⟨gf,kf,vf,nf,lf,xf,bf,rfl,hAf,hLf,hNf,hXf0,rfl⟩:=hq
   have HAf:=mkA hAf
   have HLf:=mkA hLf
   have HNf:=mkA hNf
   have HXf0:=mkA hXf0
   clear hAf hLf hNf hXf0
   obtain ⟨gl,la,lz,ls,rfl,HLC⟩:=HLf.out
   have B2:=mkA (Below.refl wr.heap.size wr)
   go_upto_region 3 with (first
    | ((with_reducible refine gate_dst (N:=3) rfl ?_);refine bxe (cs:=#[.pointer none]) (t:=149) ?hr ?_;(case hr=>first | (go_simp;done) | (go_simp;rfl));intro gw hg w3 hbox hb;have B3:=mkA (below_step B2.out hb);have BV:=mkA hbox;have BX3:=mkA (blk_below HXr.out hb);have GV:=mkA (show wr.heap.size≤gw by rw [hg];exact B2.out.size);have GXV:=mkA (show gx≠gw from Nat.ne_of_lt (by rw [hg];exact blk_lt HXr.out));have z0:w3.cell? ⟨gw,0,none⟩=some (.pointer none):=(blk_cell hbox 0).trans rfl;have zf0:=blk_frozen hbox 0;clear hbox hb hg))
   obtain ⟨w4,hw4⟩:∃ w4,w4=w3.setCell ⟨gw,0,none⟩ (R.ptr gf):=⟨_,rfl⟩
   have B4:=mkA (show Below wr.heap.size wr w4 by rw [hw4];exact B3.out.setCell (p:=⟨gw,0,none⟩) GV.out _)
   have BV4:=mkA (show w4.heap[gw]?=some (.cells #[R.ptr gf] 149 (0,0)) by rw [hw4];exact blk_put (cs:=#[.pointer none]) BV.out 0 _ rfl)
   have BX4:=mkA (show w4.heap[gx]?=some (.cells #[R.ptr gt] 35 (0,0)) by rw [hw4];exact blk_far (p:=⟨gw,0,none⟩) BX3.out GXV.out _)
   rw [← hw4]
   clear hw4 z0 zf0 B3 BX3 BV
   have KP:=mkA (keeps_up (n:=B) B4.out)
   have AL:=mkA (show At (to_ B) w4 gf #[.string kf,nf,R.ptr gl,xf] 151 from (HAf.out.fr HFr.out.keeps).fr KP.out)
   have LCL:=mkA (show LocA (to_ B) w4 (R.ptr gl) from (HLf.out.fr HFr.out.keeps).fr KP.out)
   have NML:=mkA (show NameA (to_ B) w4 nf vf from (HNf.out.fr HFr.out.keeps).fr KP.out)
   have XL:=mkA (show ValA (to_ B) w4 n xf bf from ValA.fr KP.out _ _ _ (ValA.fr HFr.out.keeps _ _ _ HXf0.out))
   have s_0:w4.cell? ⟨gx,0,none⟩=some (R.ptr gt):=(blk_cell BX4.out 0).trans rfl
   have s_1:w4.cell? ⟨gw,0,none⟩=some (R.ptr gf):=(blk_cell BV4.out 0).trans rfl
   have c_0:w4.cell? ⟨gf,2,none⟩=some (R.ptr gl):=(blk_cell AL.out.2 2).trans rfl
   have c_1:w4.cell? ⟨gf,1,none⟩=some (nf):=(blk_cell AL.out.2 1).trans rfl
   have T4:=mkA (show TK B gt w4 (rows++ra) from HTr.out.step B4.out)
   have cT0:=mkA (fun (u:World) (hu:Below w4.heap.size w4 u)=>(show Calls Tryz.prog 25 #[nf] u (fun e w'=>e=.returned (.string vf)∧w'=u) from text_walk (NML.out.fr (keeps_up hu))))
   have cP:=mkA (fun (u:World) (hu:Below w4.heap.size w4 u)=>(show Calls Tryz.prog 26 #[R.ptr gt,R.ptr gl,.agg #[.int .i64 19,.string vf,.string ⟨#[]⟩,.string ⟨#[]⟩,.int .i64 0,.int .i64 0],.func (.func 56) #[] #[R.ptr gx,R.ptr gw]] u (TP B gt wr ((rows++ra)++nd 19 vf ⟨#[]⟩ ⟨#[]⟩ 0 bf)) from (put_walk (T4.out.step hu) (LCL.out.fr (keeps_up hu)) (Nat.le_trans HBr.out (below_step B4.out hu).size) (by have h_:=HNr.out;rw [nd_len] at h_;omega) (.inr ⟨56,_,rfl,(fun w=>by kernel_rfl),fun w1 rows1 f1 t1 b1=>clo_56 (f1.typ _ _ _ (blk_below BX4.out hu) (by decide) (by decide) (by decide)) (f1.typ _ _ _ (blk_below BV4.out hu) (by decide) (by decide) (by decide)) ((blk_cell ((AL.out.fr (keeps_up hu)).fr f1.keeps).2 3).trans rfl) (fun u2 hu2=>(IH.out (t1.step hu2) (Nat.le_trans (f1.big (Nat.le_trans HBr.out (below_step B4.out hu).size)) hu2.size) (ValA.fr (keeps_up hu2) _ _ _ (ValA.fr f1.keeps _ _ _ (ValA.fr (keeps_up hu) _ _ _ XL.out))) b1).mono fun e w' q=>⟨q.1,q.2.1,(TF.of (f1.big (Nat.le_trans HBr.out (below_step B4.out hu).size)) hu2).trans q.2.2⟩) (fun _ _ q=>q.1)⟩)).mono fun e w' q=>⟨q.1,q.2.1,(TF.of HBr.out (below_step B4.out hu)).trans q.2.2⟩))
   go_still_tail 12,(by kernel_rfl)
   still_call (cT0.out _ (by first | exact below_drew1 (Below.refl _ _) | exact Below.refl _ _))
   repeat still_step
   refine wpStill_nil ?_
   go_wp2_with (first
    | (go_at_call 26;refine (cP.out _ ?_).mono ?_;(first | exact below_drew1 (Below.refl _ _) | exact Below.refl _ _);rintro e w5 ⟨rfl,q1,q2⟩;have Q1:=mkA q1;have Q2:=mkA q2;clear q1 q2))
   go_roundw
   case rel=>exact ⟨j+1,ra++nd 19 vf e0 e0 0 bf,b,congrArg (Value.int .i64) HNW.out,⟨HLT.out⟩,HMb2,⟨by rw [← HRR.out,List.append_assoc]⟩,⟨by rw [← List.append_assoc];exact Q1.out⟩,⟨HFr.out.trans Q2.out⟩,⟨Q2.out.typ _ _ _ HXr.out (by decide) (by decide) (by decide)⟩⟩
   case measure=>exact msr_up2 m j HLT.out HMX.out
  ·have q0:(j < m)=False:=eq_false hlt
   have hjm:j=m:=by have:=HJ.out;omega
   have hra:ra=r:=by
    have h1:=HMb.out
    rw [hjm,← HXN.out,List.drop_length] at h1
    cases h1
    rw [← HRR.out,List.append_nil]
   have HRA:=mkA hra
   clear hlt hjm hra
   go_wp2
   go_end0
   exact ⟨rfl,by rw [← HRA.out];exact HTr.out,HFr.out⟩
theorem tv_boo_true {w:World} {B gt g:Nat} {rows:List Row} {k:ByteArray} {l:Value} (hT:TK B gt w rows) (hB:B≤w.heap.size) (hA:At (to_ B) w g #[.string k,l,.bool true] 138) (hL:LocA (to_ B) w l) (hn:rows.length+(nd 15 e0 e0 e0 1 []).length≤1000000):Calls Tryz.prog 29 #[ptr gt,.iface 136 (ptr g)] w (TP B gt w (rows++nd 15 e0 e0 e0 1 [])):=by
 have HTK:=mkA hT
 have HBW:=mkA hB
 have HN:=mkA hn
 have HA:=mkA hA
 have HL:=mkA hL
 have a73:=fun w=>ta_ne (P:=Tryz.prog) 136 73 (.pointer 83) (.pointer none) (by kernel_rfl) rfl (by kernel_rfl) (by decide) (R.ptr g) 77 w
 have a130:=fun w=>ta_ne (P:=Tryz.prog) 136 130 (.pointer 131) (.pointer none) (by kernel_rfl) rfl (by kernel_rfl) (by decide) (R.ptr g) 77 w
 have a132:=fun w=>ta_ne (P:=Tryz.prog) 136 132 (.pointer 133) (.pointer none) (by kernel_rfl) rfl (by kernel_rfl) (by decide) (R.ptr g) 77 w
 have a134:=fun w=>ta_ne (P:=Tryz.prog) 136 134 (.pointer 135) (.pointer none) (by kernel_rfl) rfl (by kernel_rfl) (by decide) (R.ptr g) 77 w
 have a136:=fun w=>ta_eq (P:=Tryz.prog) 136 (.pointer 138) (by kernel_rfl) rfl (R.ptr g) 77 w
 clear hT hB hn hA hL
 obtain ⟨gl,la,lz,ls,rfl,HLC⟩:=HL.out
 go_enter Tryz.func29,Tryz.ntmps29
 go_upto_region 21 with (first
  | ((with_reducible refine gate_dst (N:=2) rfl ?_);refine bxe (cs:=#[R.ptr gt]) (t:=35) ?hr ?_;(case hr=>first | (go_simp;done) | (go_simp;rfl));intro gx hg w2 hbox hb;have B2:=mkA hb;have BX:=mkA hbox;have d_0:w2.cell? ⟨g,2,none⟩=some (.bool true):=(blk_cell (blk_below HA.out.2 hb) 2).trans rfl;clear hbox hb hg)
  | ((with_reducible refine gate_dst (N:=9) rfl ?_);refine bxe (cs:=#[.int .i64 0,.string ⟨#[]⟩,.string ⟨#[]⟩,.string ⟨#[]⟩,.int .i64 0,.int .i64 0]) (t:=55) ?hr ?_;(case hr=>first | (go_simp;done) | (go_simp;rfl));intro gn hg w3 hbox hb;have B3:=mkA (below_step B2.out hb);have BN:=mkA hbox;have BX3:=mkA (blk_below BX.out hb);have GV:=mkA (show w.heap.size≤gn by rw [hg];exact B2.out.size);have GXV:=mkA (show gx≠gn from Nat.ne_of_lt (by rw [hg];exact blk_lt BX.out));have GGN:=mkA (show g≠gn from Nat.ne_of_lt (Nat.lt_of_lt_of_le (blk_lt HA.out.2) (by rw [hg];exact B2.out.size)));have d_1:w3.cell? ⟨g,2,none⟩=some (.bool true):=(blk_cell (blk_below (blk_below HA.out.2 B2.out) hb) 2).trans rfl;have z0:w3.cell? ⟨gn,0,none⟩=some (.int .i64 0):=(blk_cell hbox 0).trans rfl;have zf0:=blk_frozen hbox 0;have z1:w3.cell? ⟨gn,1,none⟩=some (.string ⟨#[]⟩):=(blk_cell hbox 1).trans rfl;have zf1:=blk_frozen hbox 1;have z2:w3.cell? ⟨gn,2,none⟩=some (.string ⟨#[]⟩):=(blk_cell hbox 2).trans rfl;have zf2:=blk_frozen hbox 2;have z3:w3.cell? ⟨gn,3,none⟩=some (.string ⟨#[]⟩):=(blk_cell hbox 3).trans rfl;have zf3:=blk_frozen hbox 3;have z4:w3.cell? ⟨gn,4,none⟩=some (.int .i64 0):=(blk_cell hbox 4).trans rfl;have zf4:=blk_frozen hbox 4;have z5:w3.cell? ⟨gn,5,none⟩=some (.int .i64 0):=(blk_cell hbox 5).trans rfl;have zf5:=blk_frozen hbox 5;have nn:=GGN.out;clear hbox hb hg))
 obtain ⟨w4,hw4⟩:∃ w4,w4=(((((((w3).setCell ⟨gn,0,none⟩ (.int .i64 15)).setCell ⟨gn,1,none⟩ (.string ⟨#[]⟩)).setCell ⟨gn,2,none⟩ (.string ⟨#[]⟩)).setCell ⟨gn,3,none⟩ (.string ⟨#[]⟩)).setCell ⟨gn,4,none⟩ (.int .i64 0)).setCell ⟨gn,5,none⟩ (.int .i64 0)).setCell ⟨gn,4,none⟩ (.int .i64 1):=⟨_,rfl⟩
 have B4:=mkA (show Below w.heap.size w w4 by rw [hw4];exact (((((((B3.out).setCell (p:=⟨gn,_,none⟩) GV.out _).setCell (p:=⟨gn,_,none⟩) GV.out _).setCell (p:=⟨gn,_,none⟩) GV.out _).setCell (p:=⟨gn,_,none⟩) GV.out _).setCell (p:=⟨gn,_,none⟩) GV.out _).setCell (p:=⟨gn,_,none⟩) GV.out _).setCell (p:=⟨gn,_,none⟩) GV.out _)
 have BN4:=mkA (show w4.heap[gn]?=some (.cells #[.int .i64 15,.string ⟨#[]⟩,.string ⟨#[]⟩,.string ⟨#[]⟩,.int .i64 1,.int .i64 0] 55 (0,0)) by rw [hw4];refine blk_put (cs:=#[.int .i64 15,.string ⟨#[]⟩,.string ⟨#[]⟩,.string ⟨#[]⟩,.int .i64 0,.int .i64 0]) ?_ 4 _ rfl;refine blk_put (cs:=#[.int .i64 15,.string ⟨#[]⟩,.string ⟨#[]⟩,.string ⟨#[]⟩,.int .i64 0,.int .i64 0]) ?_ 5 _ rfl;refine blk_put (cs:=#[.int .i64 15,.string ⟨#[]⟩,.string ⟨#[]⟩,.string ⟨#[]⟩,.int .i64 0,.int .i64 0]) ?_ 4 _ rfl;refine blk_put (cs:=#[.int .i64 15,.string ⟨#[]⟩,.string ⟨#[]⟩,.string ⟨#[]⟩,.int .i64 0,.int .i64 0]) ?_ 3 _ rfl;refine blk_put (cs:=#[.int .i64 15,.string ⟨#[]⟩,.string ⟨#[]⟩,.string ⟨#[]⟩,.int .i64 0,.int .i64 0]) ?_ 2 _ rfl;refine blk_put (cs:=#[.int .i64 15,.string ⟨#[]⟩,.string ⟨#[]⟩,.string ⟨#[]⟩,.int .i64 0,.int .i64 0]) ?_ 1 _ rfl;refine blk_put (cs:=#[.int .i64 0,.string ⟨#[]⟩,.string ⟨#[]⟩,.string ⟨#[]⟩,.int .i64 0,.int .i64 0]) ?_ 0 _ rfl;exact BN.out)
 have BX4:=mkA (show w4.heap[gx]?=some (.cells #[R.ptr gt] 35 (0,0)) by rw [hw4];exact blk_far (p:=⟨gn,_,none⟩) (blk_far (p:=⟨gn,_,none⟩) (blk_far (p:=⟨gn,_,none⟩) (blk_far (p:=⟨gn,_,none⟩) (blk_far (p:=⟨gn,_,none⟩) (blk_far (p:=⟨gn,_,none⟩) (blk_far (p:=⟨gn,_,none⟩) (BX3.out) GXV.out _) GXV.out _) GXV.out _) GXV.out _) GXV.out _) GXV.out _) GXV.out _)
 rw [← hw4]
 clear hw4 z0 zf0 z1 zf1 z2 zf2 z3 zf3 z4 zf4 z5 zf5 B3 BX3 BN d_0 d_1 nn B2 BX
 have KP:=mkA (keeps_up (n:=B) B4.out)
 have AL:=mkA (show At (to_ B) w4 g #[.string k,R.ptr gl,.bool true] 138 from HA.out.fr KP.out)
 have LCL:=mkA (show LocA (to_ B) w4 (R.ptr gl) from HL.out.fr KP.out)
 have s_0:w4.cell? ⟨gx,0,none⟩=some (R.ptr gt):=(blk_cell BX4.out 0).trans rfl
 have c_0:w4.cell? ⟨g,1,none⟩=some (R.ptr gl):=(blk_cell AL.out.2 1).trans rfl
 have n_0:w4.cell? ⟨gn,0,none⟩=some (.int .i64 15):=(blk_cell BN4.out 0).trans rfl
 have n_1:w4.cell? ⟨gn,1,none⟩=some (.string ⟨#[]⟩):=(blk_cell BN4.out 1).trans rfl
 have n_2:w4.cell? ⟨gn,2,none⟩=some (.string ⟨#[]⟩):=(blk_cell BN4.out 2).trans rfl
 have n_3:w4.cell? ⟨gn,3,none⟩=some (.string ⟨#[]⟩):=(blk_cell BN4.out 3).trans rfl
 have n_4:w4.cell? ⟨gn,4,none⟩=some (.int .i64 1):=(blk_cell BN4.out 4).trans rfl
 have n_5:w4.cell? ⟨gn,5,none⟩=some (.int .i64 0):=(blk_cell BN4.out 5).trans rfl
 have T4:=mkA (show TK B gt w4 (rows) from HTK.out.step B4.out)
 have cP:=mkA (fun (u:World) (hu:Below w4.heap.size w4 u)=>(show Calls Tryz.prog 26 #[R.ptr gt,R.ptr gl,.agg #[.int .i64 15,.string ⟨#[]⟩,.string ⟨#[]⟩,.string ⟨#[]⟩,.int .i64 1,.int .i64 0],.nilFunc] u (TP B gt w ((rows)++nd 15 ⟨#[]⟩ ⟨#[]⟩ ⟨#[]⟩ 1 [])) from (put_walk (T4.out.step hu) (LCL.out.fr (keeps_up hu)) (Nat.le_trans HBW.out (below_step B4.out hu).size) (by have h_:=HN.out;rw [nd_len] at h_;omega) (.inl ⟨rfl,rfl⟩)).mono fun e w' q=>⟨q.1,q.2.1,(TF.of HBW.out (below_step B4.out hu)).trans q.2.2⟩))
 go_still_tail 6,(by kernel_rfl)
 go_wp2_with (first
  | (go_at_call 26;refine (cP.out _ ?_).mono ?_;(first | exact below_drew1 (Below.refl _ _) | exact Below.refl _ _);rintro e w5 ⟨rfl,q1,q2⟩;have Q1:=mkA q1;have Q2:=mkA q2;clear q1 q2))
 go_end0
 exact ⟨rfl,Q1.out,Q2.out⟩
theorem tv_boo_false {w:World} {B gt g:Nat} {rows:List Row} {k:ByteArray} {l:Value} (hT:TK B gt w rows) (hB:B≤w.heap.size) (hA:At (to_ B) w g #[.string k,l,.bool false] 138) (hL:LocA (to_ B) w l) (hn:rows.length+(nd 15 e0 e0 e0 0 []).length≤1000000):Calls Tryz.prog 29 #[ptr gt,.iface 136 (ptr g)] w (TP B gt w (rows++nd 15 e0 e0 e0 0 [])):=by
 have HTK:=mkA hT
 have HBW:=mkA hB
 have HN:=mkA hn
 have HA:=mkA hA
 have HL:=mkA hL
 have a73:=fun w=>ta_ne (P:=Tryz.prog) 136 73 (.pointer 83) (.pointer none) (by kernel_rfl) rfl (by kernel_rfl) (by decide) (R.ptr g) 77 w
 have a130:=fun w=>ta_ne (P:=Tryz.prog) 136 130 (.pointer 131) (.pointer none) (by kernel_rfl) rfl (by kernel_rfl) (by decide) (R.ptr g) 77 w
 have a132:=fun w=>ta_ne (P:=Tryz.prog) 136 132 (.pointer 133) (.pointer none) (by kernel_rfl) rfl (by kernel_rfl) (by decide) (R.ptr g) 77 w
 have a134:=fun w=>ta_ne (P:=Tryz.prog) 136 134 (.pointer 135) (.pointer none) (by kernel_rfl) rfl (by kernel_rfl) (by decide) (R.ptr g) 77 w
 have a136:=fun w=>ta_eq (P:=Tryz.prog) 136 (.pointer 138) (by kernel_rfl) rfl (R.ptr g) 77 w
 clear hT hB hn hA hL
 obtain ⟨gl,la,lz,ls,rfl,HLC⟩:=HL.out
 go_enter Tryz.func29,Tryz.ntmps29
 go_upto_region 21 with (first
  | ((with_reducible refine gate_dst (N:=2) rfl ?_);refine bxe (cs:=#[R.ptr gt]) (t:=35) ?hr ?_;(case hr=>first | (go_simp;done) | (go_simp;rfl));intro gx hg w2 hbox hb;have B2:=mkA hb;have BX:=mkA hbox;have d_0:w2.cell? ⟨g,2,none⟩=some (.bool false):=(blk_cell (blk_below HA.out.2 hb) 2).trans rfl;clear hbox hb hg)
  | ((with_reducible refine gate_dst (N:=9) rfl ?_);refine bxe (cs:=#[.int .i64 0,.string ⟨#[]⟩,.string ⟨#[]⟩,.string ⟨#[]⟩,.int .i64 0,.int .i64 0]) (t:=55) ?hr ?_;(case hr=>first | (go_simp;done) | (go_simp;rfl));intro gn hg w3 hbox hb;have B3:=mkA (below_step B2.out hb);have BN:=mkA hbox;have BX3:=mkA (blk_below BX.out hb);have GV:=mkA (show w.heap.size≤gn by rw [hg];exact B2.out.size);have GXV:=mkA (show gx≠gn from Nat.ne_of_lt (by rw [hg];exact blk_lt BX.out));have GGN:=mkA (show g≠gn from Nat.ne_of_lt (Nat.lt_of_lt_of_le (blk_lt HA.out.2) (by rw [hg];exact B2.out.size)));have d_1:w3.cell? ⟨g,2,none⟩=some (.bool false):=(blk_cell (blk_below (blk_below HA.out.2 B2.out) hb) 2).trans rfl;have z0:w3.cell? ⟨gn,0,none⟩=some (.int .i64 0):=(blk_cell hbox 0).trans rfl;have zf0:=blk_frozen hbox 0;have z1:w3.cell? ⟨gn,1,none⟩=some (.string ⟨#[]⟩):=(blk_cell hbox 1).trans rfl;have zf1:=blk_frozen hbox 1;have z2:w3.cell? ⟨gn,2,none⟩=some (.string ⟨#[]⟩):=(blk_cell hbox 2).trans rfl;have zf2:=blk_frozen hbox 2;have z3:w3.cell? ⟨gn,3,none⟩=some (.string ⟨#[]⟩):=(blk_cell hbox 3).trans rfl;have zf3:=blk_frozen hbox 3;have z4:w3.cell? ⟨gn,4,none⟩=some (.int .i64 0):=(blk_cell hbox 4).trans rfl;have zf4:=blk_frozen hbox 4;have z5:w3.cell? ⟨gn,5,none⟩=some (.int .i64 0):=(blk_cell hbox 5).trans rfl;have zf5:=blk_frozen hbox 5;have nn:=GGN.out;clear hbox hb hg))
 obtain ⟨w4,hw4⟩:∃ w4,w4=((((((w3).setCell ⟨gn,0,none⟩ (.int .i64 15)).setCell ⟨gn,1,none⟩ (.string ⟨#[]⟩)).setCell ⟨gn,2,none⟩ (.string ⟨#[]⟩)).setCell ⟨gn,3,none⟩ (.string ⟨#[]⟩)).setCell ⟨gn,4,none⟩ (.int .i64 0)).setCell ⟨gn,5,none⟩ (.int .i64 0):=⟨_,rfl⟩
 have B4:=mkA (show Below w.heap.size w w4 by rw [hw4];exact ((((((B3.out).setCell (p:=⟨gn,_,none⟩) GV.out _).setCell (p:=⟨gn,_,none⟩) GV.out _).setCell (p:=⟨gn,_,none⟩) GV.out _).setCell (p:=⟨gn,_,none⟩) GV.out _).setCell (p:=⟨gn,_,none⟩) GV.out _).setCell (p:=⟨gn,_,none⟩) GV.out _)
 have BN4:=mkA (show w4.heap[gn]?=some (.cells #[.int .i64 15,.string ⟨#[]⟩,.string ⟨#[]⟩,.string ⟨#[]⟩,.int .i64 0,.int .i64 0] 55 (0,0)) by rw [hw4];refine blk_put (cs:=#[.int .i64 15,.string ⟨#[]⟩,.string ⟨#[]⟩,.string ⟨#[]⟩,.int .i64 0,.int .i64 0]) ?_ 5 _ rfl;refine blk_put (cs:=#[.int .i64 15,.string ⟨#[]⟩,.string ⟨#[]⟩,.string ⟨#[]⟩,.int .i64 0,.int .i64 0]) ?_ 4 _ rfl;refine blk_put (cs:=#[.int .i64 15,.string ⟨#[]⟩,.string ⟨#[]⟩,.string ⟨#[]⟩,.int .i64 0,.int .i64 0]) ?_ 3 _ rfl;refine blk_put (cs:=#[.int .i64 15,.string ⟨#[]⟩,.string ⟨#[]⟩,.string ⟨#[]⟩,.int .i64 0,.int .i64 0]) ?_ 2 _ rfl;refine blk_put (cs:=#[.int .i64 15,.string ⟨#[]⟩,.string ⟨#[]⟩,.string ⟨#[]⟩,.int .i64 0,.int .i64 0]) ?_ 1 _ rfl;refine blk_put (cs:=#[.int .i64 0,.string ⟨#[]⟩,.string ⟨#[]⟩,.string ⟨#[]⟩,.int .i64 0,.int .i64 0]) ?_ 0 _ rfl;exact BN.out)
 have BX4:=mkA (show w4.heap[gx]?=some (.cells #[R.ptr gt] 35 (0,0)) by rw [hw4];exact blk_far (p:=⟨gn,_,none⟩) (blk_far (p:=⟨gn,_,none⟩) (blk_far (p:=⟨gn,_,none⟩) (blk_far (p:=⟨gn,_,none⟩) (blk_far (p:=⟨gn,_,none⟩) (blk_far (p:=⟨gn,_,none⟩) (BX3.out) GXV.out _) GXV.out _) GXV.out _) GXV.out _) GXV.out _) GXV.out _)
 rw [← hw4]
 clear hw4 z0 zf0 z1 zf1 z2 zf2 z3 zf3 z4 zf4 z5 zf5 B3 BX3 BN d_0 d_1 nn B2 BX
 have KP:=mkA (keeps_up (n:=B) B4.out)
 have AL:=mkA (show At (to_ B) w4 g #[.string k,R.ptr gl,.bool false] 138 from HA.out.fr KP.out)
 have LCL:=mkA (show LocA (to_ B) w4 (R.ptr gl) from HL.out.fr KP.out)
 have s_0:w4.cell? ⟨gx,0,none⟩=some (R.ptr gt):=(blk_cell BX4.out 0).trans rfl
 have c_0:w4.cell? ⟨g,1,none⟩=some (R.ptr gl):=(blk_cell AL.out.2 1).trans rfl
 have n_0:w4.cell? ⟨gn,0,none⟩=some (.int .i64 15):=(blk_cell BN4.out 0).trans rfl
 have n_1:w4.cell? ⟨gn,1,none⟩=some (.string ⟨#[]⟩):=(blk_cell BN4.out 1).trans rfl
 have n_2:w4.cell? ⟨gn,2,none⟩=some (.string ⟨#[]⟩):=(blk_cell BN4.out 2).trans rfl
 have n_3:w4.cell? ⟨gn,3,none⟩=some (.string ⟨#[]⟩):=(blk_cell BN4.out 3).trans rfl
 have n_4:w4.cell? ⟨gn,4,none⟩=some (.int .i64 0):=(blk_cell BN4.out 4).trans rfl
 have n_5:w4.cell? ⟨gn,5,none⟩=some (.int .i64 0):=(blk_cell BN4.out 5).trans rfl
 have T4:=mkA (show TK B gt w4 (rows) from HTK.out.step B4.out)
 have cP:=mkA (fun (u:World) (hu:Below w4.heap.size w4 u)=>(show Calls Tryz.prog 26 #[R.ptr gt,R.ptr gl,.agg #[.int .i64 15,.string ⟨#[]⟩,.string ⟨#[]⟩,.string ⟨#[]⟩,.int .i64 0,.int .i64 0],.nilFunc] u (TP B gt w ((rows)++nd 15 ⟨#[]⟩ ⟨#[]⟩ ⟨#[]⟩ 0 [])) from (put_walk (T4.out.step hu) (LCL.out.fr (keeps_up hu)) (Nat.le_trans HBW.out (below_step B4.out hu).size) (by have h_:=HN.out;rw [nd_len] at h_;omega) (.inl ⟨rfl,rfl⟩)).mono fun e w' q=>⟨q.1,q.2.1,(TF.of HBW.out (below_step B4.out hu)).trans q.2.2⟩))
 go_still_tail 6,(by kernel_rfl)
 go_wp2_with (first
  | (go_at_call 26;refine (cP.out _ ?_).mono ?_;(first | exact below_drew1 (Below.refl _ _) | exact Below.refl _ _);rintro e w5 ⟨rfl,q1,q2⟩;have Q1:=mkA q1;have Q2:=mkA q2;clear q1 q2))
 go_end0
 exact ⟨rfl,Q1.out,Q2.out⟩
theorem tv_lst {w:World} {B gt g:Nat} {rows:List Row} {n:Nat} (ih:TVal n) {r:List Row} {k:ByteArray} {l sl:Value} (hT:TK B gt w rows) (hB:B≤w.heap.size) (hA:At (to_ B) w g #[.string k,l,sl] 144) (hN:SlA (to_ B) w 77 (ValA (to_ B) w n) sl r) (hL:LocA (to_ B) w l) (hn:rows.length+(nd 17 e0 e0 e0 0 r).length≤1000000):Calls Tryz.prog 29 #[ptr gt,.iface 141 (ptr g)] w (TP B gt w (rows++nd 17 e0 e0 e0 0 r)):=by
 have HTK:=mkA hT
 have HBW:=mkA hB
 have HN:=mkA hn
 have HA:=mkA hA
 have HL:=mkA hL
 have HSS:=mkA hN
 have IH:=mkA @ih
 clear ih
 have a73:=fun w=>ta_ne (P:=Tryz.prog) 141 73 (.pointer 83) (.pointer none) (by kernel_rfl) rfl (by kernel_rfl) (by decide) (R.ptr g) 77 w
 have a130:=fun w=>ta_ne (P:=Tryz.prog) 141 130 (.pointer 131) (.pointer none) (by kernel_rfl) rfl (by kernel_rfl) (by decide) (R.ptr g) 77 w
 have a132:=fun w=>ta_ne (P:=Tryz.prog) 141 132 (.pointer 133) (.pointer none) (by kernel_rfl) rfl (by kernel_rfl) (by decide) (R.ptr g) 77 w
 have a134:=fun w=>ta_ne (P:=Tryz.prog) 141 134 (.pointer 135) (.pointer none) (by kernel_rfl) rfl (by kernel_rfl) (by decide) (R.ptr g) 77 w
 have a136:=fun w=>ta_ne (P:=Tryz.prog) 141 136 (.pointer 138) (.pointer none) (by kernel_rfl) rfl (by kernel_rfl) (by decide) (R.ptr g) 77 w
 have a139:=fun w=>ta_ne (P:=Tryz.prog) 141 139 (.pointer 140) (.pointer none) (by kernel_rfl) rfl (by kernel_rfl) (by decide) (R.ptr g) 77 w
 have a141:=fun w=>ta_eq (P:=Tryz.prog) 141 (.pointer 144) (by kernel_rfl) rfl (R.ptr g) 77 w
 clear hT hB hn hA hL hN
 obtain ⟨gl,la,lz,ls,rfl,HLC⟩:=HL.out
 go_enter Tryz.func29,Tryz.ntmps29
 go_upto_region 27 with (first
  | ((with_reducible refine gate_dst (N:=2) rfl ?_);refine bxe (cs:=#[R.ptr gt]) (t:=35) ?hr ?_;(case hr=>first | (go_simp;done) | (go_simp;rfl));intro gx hg w2 hbox hb;have B2:=mkA hb;have BX:=mkA hbox;clear hbox hb hg)
  | ((with_reducible refine gate_dst (N:=11) rfl ?_);refine bxe (cs:=#[.pointer none]) (t:=141) ?hr ?_;(case hr=>first | (go_simp;done) | (go_simp;rfl));intro gv hg w3 hbox hb;have B3:=mkA (below_step B2.out hb);have BV:=mkA hbox;have BX3:=mkA (blk_below BX.out hb);have GV:=mkA (show w.heap.size≤gv by rw [hg];exact B2.out.size);have GXV:=mkA (show gx≠gv from Nat.ne_of_lt (by rw [hg];exact blk_lt BX.out));have z0:w3.cell? ⟨gv,0,none⟩=some (.pointer none):=(blk_cell hbox 0).trans rfl;have zf0:=blk_frozen hbox 0;clear hbox hb hg))
 obtain ⟨w4,hw4⟩:∃ w4,w4=w3.setCell ⟨gv,0,none⟩ (R.ptr g):=⟨_,rfl⟩
 have B4:=mkA (show Below w.heap.size w w4 by rw [hw4];exact B3.out.setCell (p:=⟨gv,0,none⟩) GV.out _)
 have BV4:=mkA (show w4.heap[gv]?=some (.cells #[R.ptr g] 141 (0,0)) by rw [hw4];exact blk_put (cs:=#[.pointer none]) BV.out 0 _ rfl)
 have BX4:=mkA (show w4.heap[gx]?=some (.cells #[R.ptr gt] 35 (0,0)) by rw [hw4];exact blk_far (p:=⟨gv,0,none⟩) BX3.out GXV.out _)
 rw [← hw4]
 clear hw4 z0 zf0 B3 BX3 BV
 have KP:=mkA (keeps_up (n:=B) B4.out)
 have AL:=mkA (show At (to_ B) w4 g #[.string k,R.ptr gl,sl] 144 from HA.out.fr KP.out)
 have LCL:=mkA (show LocA (to_ B) w4 (R.ptr gl) from HL.out.fr KP.out)
 have SL:=mkA (show SlA (to_ B) w4 77 (ValA (to_ B) w4 n) sl r from SlA.fr HSS.out KP.out (fun v r h=>ValA.fr KP.out _ _ _ h))
 have s_0:w4.cell? ⟨gx,0,none⟩=some (R.ptr gt):=(blk_cell BX4.out 0).trans rfl
 have s_1:w4.cell? ⟨gv,0,none⟩=some (R.ptr g):=(blk_cell BV4.out 0).trans rfl
 have c_0:w4.cell? ⟨g,1,none⟩=some (R.ptr gl):=(blk_cell AL.out.2 1).trans rfl
 have T4:=mkA (show TK B gt w4 (rows) from HTK.out.step B4.out)
 have cP:=mkA (fun (u:World) (hu:Below w4.heap.size w4 u)=>(show Calls Tryz.prog 26 #[R.ptr gt,R.ptr gl,.agg #[.int .i64 17,.string ⟨#[]⟩,.string ⟨#[]⟩,.string ⟨#[]⟩,.int .i64 0,.int .i64 0],.func (.func 54) #[] #[R.ptr gv,R.ptr gx]] u (TP B gt w ((rows)++nd 17 ⟨#[]⟩ ⟨#[]⟩ ⟨#[]⟩ 0 r)) from (put_walk (T4.out.step hu) (LCL.out.fr (keeps_up hu)) (Nat.le_trans HBW.out (below_step B4.out hu).size) (by have h_:=HN.out;rw [nd_len] at h_;omega) (.inr ⟨54,_,rfl,(fun w=>by kernel_rfl),fun w1 rows1 f1 t1 b1=>clo_54 IH.out t1 (f1.big (Nat.le_trans HBW.out (below_step B4.out hu).size)) (f1.typ _ _ _ (blk_below BX4.out hu) (by decide) (by decide) (by decide)) (f1.typ _ _ _ (blk_below BV4.out hu) (by decide) (by decide) (by decide)) ((AL.out.fr (keeps_up hu)).fr f1.keeps) (SlA.fr (SlA.fr SL.out (keeps_up hu) (fun v r h=>ValA.fr (keeps_up hu) _ _ _ h)) f1.keeps (fun v r h=>ValA.fr f1.keeps _ _ _ h)) b1⟩)).mono fun e w' q=>⟨q.1,q.2.1,(TF.of HBW.out (below_step B4.out hu)).trans q.2.2⟩))
 go_still_tail 7,(by kernel_rfl)
 go_wp2_with (first
  | (go_at_call 26;refine (cP.out _ ?_).mono ?_;(first | exact below_drew1 (Below.refl _ _) | exact Below.refl _ _);rintro e w5 ⟨rfl,q1,q2⟩;have Q1:=mkA q1;have Q2:=mkA q2;clear q1 q2))
 go_end0
 exact ⟨rfl,Q1.out,Q2.out⟩
theorem tv_obj {w:World} {B gt g:Nat} {rows:List Row} {n:Nat} (ih:TVal n) {r:List Row} {k:ByteArray} {l sl:Value} (hT:TK B gt w rows) (hB:B≤w.heap.size) (hA:At (to_ B) w g #[.string k,l,sl] 148) (hN:SlA (to_ B) w 149 (FldA (to_ B) w (ValA (to_ B) w n)) sl r) (hL:LocA (to_ B) w l) (hn:rows.length+(nd 18 e0 e0 e0 0 r).length≤1000000):Calls Tryz.prog 29 #[ptr gt,.iface 145 (ptr g)] w (TP B gt w (rows++nd 18 e0 e0 e0 0 r)):=by
 have HTK:=mkA hT
 have HBW:=mkA hB
 have HN:=mkA hn
 have HA:=mkA hA
 have HL:=mkA hL
 have HSS:=mkA hN
 have IH:=mkA @ih
 clear ih
 have a73:=fun w=>ta_ne (P:=Tryz.prog) 145 73 (.pointer 83) (.pointer none) (by kernel_rfl) rfl (by kernel_rfl) (by decide) (R.ptr g) 77 w
 have a130:=fun w=>ta_ne (P:=Tryz.prog) 145 130 (.pointer 131) (.pointer none) (by kernel_rfl) rfl (by kernel_rfl) (by decide) (R.ptr g) 77 w
 have a132:=fun w=>ta_ne (P:=Tryz.prog) 145 132 (.pointer 133) (.pointer none) (by kernel_rfl) rfl (by kernel_rfl) (by decide) (R.ptr g) 77 w
 have a134:=fun w=>ta_ne (P:=Tryz.prog) 145 134 (.pointer 135) (.pointer none) (by kernel_rfl) rfl (by kernel_rfl) (by decide) (R.ptr g) 77 w
 have a136:=fun w=>ta_ne (P:=Tryz.prog) 145 136 (.pointer 138) (.pointer none) (by kernel_rfl) rfl (by kernel_rfl) (by decide) (R.ptr g) 77 w
 have a139:=fun w=>ta_ne (P:=Tryz.prog) 145 139 (.pointer 140) (.pointer none) (by kernel_rfl) rfl (by kernel_rfl) (by decide) (R.ptr g) 77 w
 have a141:=fun w=>ta_ne (P:=Tryz.prog) 145 141 (.pointer 144) (.pointer none) (by kernel_rfl) rfl (by kernel_rfl) (by decide) (R.ptr g) 77 w
 have a145:=fun w=>ta_eq (P:=Tryz.prog) 145 (.pointer 148) (by kernel_rfl) rfl (R.ptr g) 77 w
 clear hT hB hn hA hL hN
 obtain ⟨gl,la,lz,ls,rfl,HLC⟩:=HL.out
 go_enter Tryz.func29,Tryz.ntmps29
 go_upto_region 30 with (first
  | ((with_reducible refine gate_dst (N:=2) rfl ?_);refine bxe (cs:=#[R.ptr gt]) (t:=35) ?hr ?_;(case hr=>first | (go_simp;done) | (go_simp;rfl));intro gx hg w2 hbox hb;have B2:=mkA hb;have BX:=mkA hbox;clear hbox hb hg)
  | ((with_reducible refine gate_dst (N:=12) rfl ?_);refine bxe (cs:=#[.pointer none]) (t:=145) ?hr ?_;(case hr=>first | (go_simp;done) | (go_simp;rfl));intro gv hg w3 hbox hb;have B3:=mkA (below_step B2.out hb);have BV:=mkA hbox;have BX3:=mkA (blk_below BX.out hb);have GV:=mkA (show w.heap.size≤gv by rw [hg];exact B2.out.size);have GXV:=mkA (show gx≠gv from Nat.ne_of_lt (by rw [hg];exact blk_lt BX.out));have z0:w3.cell? ⟨gv,0,none⟩=some (.pointer none):=(blk_cell hbox 0).trans rfl;have zf0:=blk_frozen hbox 0;clear hbox hb hg))
 obtain ⟨w4,hw4⟩:∃ w4,w4=w3.setCell ⟨gv,0,none⟩ (R.ptr g):=⟨_,rfl⟩
 have B4:=mkA (show Below w.heap.size w w4 by rw [hw4];exact B3.out.setCell (p:=⟨gv,0,none⟩) GV.out _)
 have BV4:=mkA (show w4.heap[gv]?=some (.cells #[R.ptr g] 145 (0,0)) by rw [hw4];exact blk_put (cs:=#[.pointer none]) BV.out 0 _ rfl)
 have BX4:=mkA (show w4.heap[gx]?=some (.cells #[R.ptr gt] 35 (0,0)) by rw [hw4];exact blk_far (p:=⟨gv,0,none⟩) BX3.out GXV.out _)
 rw [← hw4]
 clear hw4 z0 zf0 B3 BX3 BV
 have KP:=mkA (keeps_up (n:=B) B4.out)
 have AL:=mkA (show At (to_ B) w4 g #[.string k,R.ptr gl,sl] 148 from HA.out.fr KP.out)
 have LCL:=mkA (show LocA (to_ B) w4 (R.ptr gl) from HL.out.fr KP.out)
 have SL:=mkA (show SlA (to_ B) w4 149 (FldA (to_ B) w4 (ValA (to_ B) w4 n)) sl r from SlA.fr HSS.out KP.out (fun v r h=>FldA.fr h KP.out (ValA.fr KP.out _)))
 have s_0:w4.cell? ⟨gx,0,none⟩=some (R.ptr gt):=(blk_cell BX4.out 0).trans rfl
 have s_1:w4.cell? ⟨gv,0,none⟩=some (R.ptr g):=(blk_cell BV4.out 0).trans rfl
 have c_0:w4.cell? ⟨g,1,none⟩=some (R.ptr gl):=(blk_cell AL.out.2 1).trans rfl
 have T4:=mkA (show TK B gt w4 (rows) from HTK.out.step B4.out)
 have cP:=mkA (fun (u:World) (hu:Below w4.heap.size w4 u)=>(show Calls Tryz.prog 26 #[R.ptr gt,R.ptr gl,.agg #[.int .i64 18,.string ⟨#[]⟩,.string ⟨#[]⟩,.string ⟨#[]⟩,.int .i64 0,.int .i64 0],.func (.func 55) #[] #[R.ptr gv,R.ptr gx]] u (TP B gt w ((rows)++nd 18 ⟨#[]⟩ ⟨#[]⟩ ⟨#[]⟩ 0 r)) from (put_walk (T4.out.step hu) (LCL.out.fr (keeps_up hu)) (Nat.le_trans HBW.out (below_step B4.out hu).size) (by have h_:=HN.out;rw [nd_len] at h_;omega) (.inr ⟨55,_,rfl,(fun w=>by kernel_rfl),fun w1 rows1 f1 t1 b1=>clo_55 IH.out t1 (f1.big (Nat.le_trans HBW.out (below_step B4.out hu).size)) (f1.typ _ _ _ (blk_below BX4.out hu) (by decide) (by decide) (by decide)) (f1.typ _ _ _ (blk_below BV4.out hu) (by decide) (by decide) (by decide)) ((AL.out.fr (keeps_up hu)).fr f1.keeps) (SlA.fr (SlA.fr SL.out (keeps_up hu) (fun v r h=>FldA.fr h (keeps_up hu) (ValA.fr (keeps_up hu) _))) f1.keeps (fun v r h=>FldA.fr h f1.keeps (ValA.fr f1.keeps _))) b1⟩)).mono fun e w' q=>⟨q.1,q.2.1,(TF.of HBW.out (below_step B4.out hu)).trans q.2.2⟩))
 go_still_tail 7,(by kernel_rfl)
 go_wp2_with (first
  | (go_at_call 26;refine (cP.out _ ?_).mono ?_;(first | exact below_drew1 (Below.refl _ _) | exact Below.refl _ _);rintro e w5 ⟨rfl,q1,q2⟩;have Q1:=mkA q1;have Q2:=mkA q2;clear q1 q2))
 go_end0
 exact ⟨rfl,Q1.out,Q2.out⟩
theorem val_take:∀ n,TVal n:=by
 intro n
 induction n with
 | zero=>intro w B gt rows r v hT hB hA hn;exact hA.elim
 | succ n ih =>
   intro w B gt rows r v hT hB hA hn
   cases hA with
   | var a b c=>exact tv_var hT hB a c b hn
   | int a b=>exact tv_int hT hB a b hn
   | flt a b=>exact tv_flt hT hB a b hn
   | str a b=>exact tv_str hT hB a b hn
   | @boo g k l b a c =>
     cases b
     ·exact tv_boo_false hT hB a c hn
     ·exact tv_boo_true hT hB a c hn
   | enm a b=>exact tv_enm hT hB a b hn
   | lst a b c=>exact tv_lst ih hT hB a c b hn
   | obj a b c=>exact tv_obj ih hT hB a c b hn
end Go.Proofs.YthgcghpcikbnkaaGreatDoor.R
