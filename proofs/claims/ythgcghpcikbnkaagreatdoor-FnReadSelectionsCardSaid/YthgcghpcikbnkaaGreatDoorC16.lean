/- A part of the proof of the theorem of this claim: Rst. No condition of its own. -/
import Derived.Test.YthgcghpcikbnkaaGreatDoorC14
import Derived.Test.YthgcghpcikbnkaaGreatDoorC15
set_option maxHeartbeats 16000000
set_option maxRecDepth 100000
namespace Go.Proofs.YthgcghpcikbnkaaGreatDoor.R
open Go.RowKit Go.Proofs.YthgcghpcikbnkaaGreatDoorW.PrintWords Go.Proofs.YthgcghpcikbnkaaGreatDoorW.PrintLast Go.Proofs.YthgcghpcikbnkaaGreatDoorW.PrintMore
set_option linter.unusedVariables false
set_option linter.unusedSimpArgs false
theorem buf_below {B b:Nat} {bs:List Value} {w w':World} (h:Go.Lib.IsBuffer 263 5 B b bs w) (hb:Below w.heap.size w w'):Go.Lib.IsBuffer 263 5 B b bs w':=by
 obtain ⟨hB,v,lr,hbk,hown,hne⟩:=h
 exact ⟨hB,v,lr,blk_below hbk hb,pw_own_below hown hb,hne⟩
theorem buf_new {w:World} {g:Nat} (h:w.heap[g]?=some (.cells #[.slice none 0 0,.int .i64 0,.int .i8 0] 263 (0,0))):Go.Lib.IsBuffer 263 5 g g [] w :=
 ⟨Nat.le_refl _,.slice none 0 0,0,h,World.ownsRow_nil _ _ _ _,by simp [Value.ownBlock]⟩
theorem write_chunk {w:World} {b gq cp:Nat} {t:ByteArray} {l:List UInt8} (hp:∀ j:Nat,j < t.size→w.cell? ⟨b,j,none⟩=some (.int .u8 (bt t j))) (hI:Go.Lib.IsBuffer 263 5 gq gq (Go.Lib.byteCells l) w) (hb:b < gq) (c p:Nat) (hcp:c≤p) (hpt:p≤t.size) (hl:l.length≤2000000) (ht:t.size≤2000000) :
 Calls Tryz.prog 147 #[.pointer (some ⟨gq,0,none⟩),.slice (some ⟨b,c,none⟩) (p - c) cp] w fun e w'=>e=.returned (.tuple #[.int .i64 ((p - c:Nat):Int),.nilIface])∧Go.Lib.IsBuffer 263 5 gq gq (Go.Lib.byteCells (l++(dr t c).take (p - c))) w'∧Below gq w w':=by
 have hn:((dr t c).take (p - c)).length=p - c:=by
  simp only [dr,List.length_take,List.length_drop,Array.length_toList,ByteArray.size_data];omega
 refine (Tryz.Buffer_Write_k gq gq (Go.Lib.byteCells l) (Go.Lib.byteCells ((dr t c).take (p - c))) ⟨b,c,none⟩ (p - c) cp w hI (Nat.le_of_lt hI.lt) (Go.Lib.byteCells_one _) (by rw [Go.Lib.byteCells_length,hn]) hb (fun j v hv=>?_) (Go.Lib.byteCells_one _) (by rw [Go.Lib.byteCells_length];omega)).mono fun e w' h=>⟨h.1,by rw [Go.Lib.byteCells_append];exact h.2.1,h.2.2.1⟩
 rw [Go.Lib.addr_add]
 have hj:j < p - c:=by
  have:=(List.getElem?_eq_some_iff.1 hv).1
  rw [Go.Lib.byteCells_length,hn] at this;exact this
 rw [hp (c+j) (by omega),← hv]
 unfold Go.Lib.byteCells
 rw [List.getElem?_map,List.getElem?_take,if_pos hj,dr,List.getElem?_drop]
 have hl2:c+j < t.data.toList.length:=by simp only [Array.length_toList,ByteArray.size_data];omega
 rw [List.getElem?_eq_getElem hl2]
 unfold bt
 rw [dif_pos (show ((c+j:Nat):Int).toNat < t.size by omega)]
 simp only [Int.toNat_natCast]
 rfl
theorem dr_take (t:ByteArray) (c p k:Nat) (h:c≤p):(dr t c).take (p+k - c)=(dr t c).take (p - c)++(dr t p).take k:=by
 unfold dr
 rw [show p+k - c=(p - c)+k by omega,List.take_add,List.drop_drop,show c+(p - c)=p by omega]
theorem write_rune {w:World} {gq:Nat} {l:List UInt8} (hI:Go.Lib.IsBuffer 263 5 gq gq (Go.Lib.byteCells l) w) (r:Int) (hr:0≤r∧r≤65535) (hl:l.length≤4000000) :
 Calls Tryz.prog 150 #[.pointer (some ⟨gq,0,none⟩),.int .i32 r] w fun e w'=>e=.returned (.tuple #[.int .i64 (Go.Lib.runeCells r).length,.nilIface])∧Go.Lib.IsBuffer 263 5 gq gq (Go.Lib.byteCells (l++Go.Lib.encodeRune r)) w'∧Below gq w w' :=
 (Tryz.Buffer_WriteRune_k gq gq _ r (by omega) (by omega) w hI (Nat.le_of_lt hI.lt) (Go.Lib.byteCells_one _) (by rw [Go.Lib.byteCells_length];omega)).mono fun e w' h=>⟨h.1,by rw [Go.Lib.byteCells_append,Go.Lib.byteCells_encodeRune];exact h.2.1,h.2.2.1⟩
theorem w_at {x:Int} {n:Nat} (h:x=n) (hn:n≤4000000):wrap64 x=(n:Int):=by rw [h];exact w64 (by omega) (by omega)
theorem es_int {c b:UInt8} (h:es c=some b):∃ cI bI:Int,(c.toNat:Int)=cI∧Go.Lib.encodeRune bI=[b]∧(0≤bI∧bI≤65535)∧((cI=34∧bI=34)∨(cI=47∧bI=47)∨(cI=92∧bI=92)∨(cI=98∧bI=8)∨(cI=102∧bI=12)∨(cI=110∧bI=10)∨(cI=114∧bI=13)∨(cI=116∧bI=9)):=by
 rcases es_ec h with ⟨rfl,rfl⟩ | ⟨rfl,rfl⟩ | ⟨rfl,rfl⟩ | ⟨rfl,rfl⟩ | ⟨rfl,rfl⟩ | ⟨rfl,rfl⟩ | ⟨rfl,rfl⟩ | ⟨rfl,rfl⟩
 ·exact ⟨34,34,rfl,by decide,by decide,by decide⟩
 ·exact ⟨47,47,rfl,by decide,by decide,by decide⟩
 ·exact ⟨92,92,rfl,by decide,by decide,by decide⟩
 ·exact ⟨98,8,rfl,by decide,by decide,by decide⟩
 ·exact ⟨102,12,rfl,by decide,by decide,by decide⟩
 ·exact ⟨110,10,rfl,by decide,by decide,by decide⟩
 ·exact ⟨114,13,rfl,by decide,by decide,by decide⟩
 ·exact ⟨116,9,rfl,by decide,by decide,by decide⟩
theorem pl2 (m:Nat) (h:m≤2005):wrap64 (wrap64 ((m:Int)+1)+1)=((m+2:Nat):Int):=by unfold wrap64;omega
theorem pl6 (m:Nat) (h:m≤2005):wrap64 (wrap64 (wrap64 ((m:Int)+1)+4)+1)=((m+6:Nat):Int):=by unfold wrap64;omega
theorem enc_len (r:Int):(Go.Lib.encodeRune r).length≤4:=by
 have h4:=(Go.Lib.runeCells_le r).2
 rw [Go.Lib.runeCells_length] at h4
 exact h4
theorem ud_lo {a b c d:UInt8} (h:Dg a.toNat∧Dg b.toNat∧Dg c.toNat∧Dg d.toNat):0≤ud a b c d∧ud a b c d≤65535:=by
 have a1:=hx_lo h.1;have b1:=hx_lo h.2.1;have c1:=hx_lo h.2.2.1;have d1:=hx_lo h.2.2.2
 unfold ud
 rw [uv_eq h.1 h.2.1 h.2.2.1 h.2.2.2]
 omega
theorem readString_all {w:World} {g b cap:Nat} {t:ByteArray} (h:Src w g b cap t) (p0:Nat) (hp0:p0 < t.size) (bad:Bool) (X:List UInt8) (z:Nat) (hz:z≤t.size) (hx:QS bad X (dr t z) [] (dr t (p0+1))) :
 Calls Tryz.prog 133 #[.pointer (some ⟨g,0,none⟩),.int .i64 p0] w fun e w'=>((bad=false→e=.returned (.tuple #[.agg #[.int .i64 18,.int .i64 p0,.int .i64 z,.string ⟨X.toArray⟩],.nilIface]))∧(bad=true→∃ ge:Nat,e=.returned (.tuple #[.agg #[.int .i64 0,.int .i64 0,.int .i64 0,.string ⟨#[]⟩],.iface 206 (.pointer (some ⟨ge,0,none⟩))])))∧Below w.heap.size w w':=by
 have HS:=mkA h
 have HX:=mkA hx
 have HSM:=mkA h.small
 have HZ:=mkA hz
 have HP0:=mkA hp0
 have hbg:b < w.heap.size:=World.block_lt_of_cell? w _ (h.bytes p0 hp0)
 clear h hx hz hp0
 go_enter Tryz.func133,Tryz.ntmps133
 go_wp2_with (first
  | ((with_reducible refine gate_dst (N:=4) rfl ?_);refine bxz ?hr ?_;(case hr=>first | (go_simp;done) | (go_simp;rfl));intro gb hg w2 hbox hb;have HB:=mkA hb;have GE:=mkA (Nat.le_of_eq hg.symm);have BK:=mkA hbox;clear hb hbox hg;have hc0:=(HS.out.below HB.out).body)
  | ((with_reducible refine gate_dst (N:=12) rfl ?_);refine bxe (cs:=#[.slice none 0 0,.int .i64 0,.int .i8 0]) (t:=263) ?hr ?_;(case hr=>first | (go_simp;done) | (go_simp;rfl));intro gq hg w3 hbox hb;have HQ:=mkA hb;have GQ:=mkA hg;have BQ:=mkA hbox;clear hb hbox hg))
 have HBG:=mkA (show b < gq by have:=HB.out.size;have:=GQ.out;omega)
 have HQ2:=mkA (show Below gq w2 w3 by have:=HQ.out;rw [← GQ.out] at this;exact this)
 clear hbg HQ
 go_simp
 go_loopw [7,8,9,10,11] (fun v7 v8 v9 v10 v11 wr=>∃ (p c m:Nat) (k n:Int) (l:List UInt8),v7=.int .i64 p∧v8=.int .i64 m∧v9=.int .i64 c∧v10=.int .i32 k∧v11=.int .i64 n∧Aside0 (Go.Lib.IsBuffer 263 5 gq gq (Go.Lib.byteCells l) wr)∧Aside0 (Below gq w2 wr)∧Aside0 (c≤p∧p≤t.size∧m≤p∧l.length≤c)∧Aside0 (QS bad X (dr t z) (l++(dr t c).take (p - c)) (dr t p))) (fun v7 _ _ _ _ _=>msr t v7)
 case atStart=>exact ⟨p0+1,p0+1,p0+1,0,0,[],congrArg (Value.int .i64) (pl1 p0 (by have:=HSM.out;have:=HP0.out;omega)),congrArg (Value.int .i64) (pl1 p0 (by have:=HSM.out;have:=HP0.out;omega)),congrArg (Value.int .i64) (pl1 p0 (by have:=HSM.out;have:=HP0.out;omega)),rfl,rfl,⟨buf_new BQ.out⟩,HQ2,⟨Nat.le_refl _,HP0.out,Nat.le_refl _,Nat.zero_le _⟩,⟨by simpa using HX.out⟩⟩
 case round =>
  obtain ⟨p,c,m,k,n,l,rfl,rfl,rfl,rfl,rfl,HU,HW,HP,HR⟩:=hrel
  have HW2:=mkA (show Below w2.heap.size w2 wr by have h2:=HW.out;rw [GQ.out] at h2;exact h2)
  have HWW:=mkA (below_step HB.out HW2.out)
  have c83:=runeAt_src (HS.out.below HWW.out) p HP.out.2.1
  have hll:l.length≤2000000:=by have h1:=HP.out;have:=HSM.out;omega
  have CW:=mkA (fun (w4:World) (hV:Below wr.heap.size wr w4)=>write_chunk (cp:=cap - c) (HS.out.below (below_step HWW.out hV)).bytes (buf_below HU.out hV) HBG.out c p HP.out.1 HP.out.2.1 hll (Nat.le_trans HSM.out (by decide)))
  clear hll
  have HM5:=mkA (show m≤2005 by have:=HSM.out;have:=HP.out;omega)
  have HLL:=mkA (show (l++(dr t c).take (p - c)).length≤4000000 by have h1:=HP.out.2.2.2;have h2:=HP.out.1;have h3:=HP.out.2.1;have:=HSM.out;simp only [List.length_append,List.length_take];omega)
  rcases qs_step t bad X (dr t z) _ p HP.out.2.1 HR.out with ⟨hbd,hlx,hlt,hr,hend⟩ | ⟨cc,kk,hr,hk,hc,hq⟩ | ⟨ch,bb,hes,hr,hr2,hp2,hq⟩ | ⟨a1,a2,a3,a4,hd,hr,hr2,hbs,hp6,hq⟩ | ⟨hbd,hbx⟩
  ·rw [hr] at c83
   have e1:decide ((p:Int) < (t.size:Int))=true:=decide_eq_true (by omega)
   have HE:=mkA (show p+1=z from dr_inj t (p+1) z hlt HZ.out hend)
   have HLX:=mkA hlx
   have HBD:=mkA hbd
   have q1:(c≤p)=True:=eq_true HP.out.1
   have q2:(p≤cap)=True:=eq_true (Nat.le_trans HP.out.2.1 HS.out.cap)
   have q3:(p < t.size)=True:=eq_true hlt
   have q4:(cap=c)=False:=eq_false (by have:=HP.out.1;have:=HS.out.cap;omega)
   have q5:wrap64 ((p:Int)+1)=(z:Int):=by rw [← HE.out];exact pl1 p (by have:=HSM.out;omega)
   clear hr hend e1 hlt hlx hbd
   go_wp2_with (first
    | (go_at_call 129;refine c83.mono ?_;rintro e w4 ⟨rfl,hB⟩;have HV:=mkA hB;have HV2:=mkA (below_step HW2.out hB);clear hB)
    | (go_at_call 147;(with_reducible refine (CW.out _ HV.out).mono ?_);rintro e w5 ⟨rfl,hI,hB⟩;have HI5:=mkA hI;have HW5:=mkA (show Below w2.heap.size w2 w5 by have h1:=(HW.out.trans (HV.out.mono (Nat.le_of_lt HU.out.lt))).trans hB;rw [GQ.out] at h1;exact h1);clear hI hB)
    | (go_at_call 149;(with_reducible refine (Tryz.Buffer_String gq gq _ _ HI5.out).mono ?_);rintro e w6 ⟨rfl,nd,rfl⟩;have HW6:=mkA (pw_below_drewN HW5.out nd))
    | (go_at_call 128;(with_reducible refine (makeToken_walk 18 (p0:Int) _ _ _).mono ?_);rintro e w7 ⟨rfl,hB⟩;have HW7:=mkA (below_step HW6.out hB);clear hB;have BK7:=mkA (blk_below BK.out HW7.out);obtain ⟨hz0,hz1,hz2,hz3,hf0,hf1,hf2,hf3⟩:=tkz BK7.out))
   rw [HLX.out]
   refine bodyPost_ret (results_ct rfl _ _ gb 63 #[.int .i64 18,.int .i64 p0,.int .i64 z,.string ⟨X.toArray⟩] (0,0) _ rfl (by exact tkp BK7.out) Tryz.underlying63 rfl (by kernel_rfl)) rfl ?_
   have hfin:=below_step HB.out HW7.out
   exact ⟨⟨fun _=>rfl,fun h=>by rw [HBD.out] at h;cases h⟩,below_set (below_set (below_set (below_set hfin GE.out) GE.out) GE.out) GE.out⟩
  ·rw [hr] at c83
   have q0:(p < t.size)=True:=eq_true (by omega)
   have q1:(cc != 10)=true:=by rw [bne_iff_ne];omega
   have q2:(cc != 13)=true:=by rw [bne_iff_ne];omega
   have q3:(cc != 34)=true:=by rw [bne_iff_ne];omega
   have q5:(cc == 92)=false:=by rw [beq_eq_false_iff_ne];omega
   have q4:(decide (cc < 32)=false)∨(decide (cc < 32)=true∧(cc != 9)=false):=by
    rcases hc.1 with h | h
    ·exact .inr ⟨decide_eq_true (by omega),by rw [h];rfl⟩
    ·exact .inl (decide_eq_false (by omega))
   have HK:=mkA hk
   have HQ3:=mkA hq
   have WK:=mkA (show wrap64 ((p:Int)+(kk:Int))=((p+kk:Nat):Int) from w_at (by omega) (by have:=HSM.out;omega))
   clear hr hk hc hq
   rcases q4 with q4 | ⟨q4,q6⟩
   all_goals
    go_wp2_with (first
     | (go_at_call 129;refine c83.mono ?_;rintro e w4 ⟨rfl,hB⟩;have HV:=mkA hB;have HV2:=mkA (below_step HW2.out hB);clear hB))
    go_roundw
    case rel=>exact ⟨p+kk,c,m+1,cc,kk,l,congrArg (Value.int .i64) WK.out,congrArg (Value.int .i64) (pl1 m HM5.out),rfl,rfl,rfl,⟨buf_below HU.out HV.out⟩,⟨HW.out.trans (HV.out.mono (Nat.le_of_lt HU.out.lt))⟩,⟨by have:=HP.out;have:=HK.out;omega⟩,⟨by rw [dr_take t c p kk HP.out.1,← List.append_assoc];exact HQ3.out⟩⟩
    case measure=>rw [WK.out,msr_int,msr_int,Int.toNat_natCast,Int.toNat_natCast];have:=HK.out;omega
  ·have W2:wrap64 (((m+1:Nat):Int)+1)=((m+2:Nat):Int):=pl1 (m+1) (by have:=HSM.out;have:=HP.out;omega)
   rw [hr] at c83
   obtain ⟨q,hqq⟩:∃ q:Nat,q=p+1:=⟨_,rfl⟩
   rw [← hqq] at hr2
   have c83b:=mkA (fun (w5:World) (h5:Below w.heap.size w w5)=>runeAt_src (HS.out.below h5) q (by omega))
   rw [hr2] at c83b
   have q0:(p < t.size)=True:=eq_true (by omega)
   have q1:(c≤p)=True:=eq_true HP.out.1
   have q2:(p≤cap)=True:=eq_true (Nat.le_trans HP.out.2.1 HS.out.cap)
   have q4:(cap=c)=False:=eq_false (by have:=HP.out.1;have:=HS.out.cap;omega)
   have QW:=mkA (show wrap64 ((p:Int)+1)=(q:Int)∧wrap64 ((q:Int) - 1)=(p:Int) from by have hz:=HSM.out;exact ⟨w_at (by omega) (by omega),w_at (by omega) (by omega)⟩)
   have HQE:=mkA hqq
   have M1:=mkA True.intro
   have Q7:=mkA (show wrap64 ((q:Int)+1)=((p+2:Nat):Int) from by have hz:=HSM.out;exact w_at (by omega) (by omega))
   have HK:=mkA hp2
   have HQ3:=mkA hq
   obtain ⟨cI,bI,hcI,henc,hbI,hcb⟩:=es_int hes
   rw [hcI] at c83b
   have HEN:=mkA henc
   have HBI:=mkA hbI
   clear hr hr2 hq hp2 hqq hes hcI henc hbI
   obtain ⟨q5,q6⟩:=QW.out
   rcases hcb with ⟨rfl,rfl⟩ | ⟨rfl,rfl⟩ | ⟨rfl,rfl⟩ | ⟨rfl,rfl⟩ | ⟨rfl,rfl⟩ | ⟨rfl,rfl⟩ | ⟨rfl,rfl⟩ | ⟨rfl,rfl⟩
   all_goals
    go_wp2_with (first
     | (clear M1;go_at_call 129;refine c83.mono ?_;rintro e w4 ⟨rfl,hB⟩;have HV:=mkA hB;have HV2:=mkA (below_step HW2.out hB);clear hB)
     | (go_at_call 147;(with_reducible refine (CW.out _ HV.out).mono ?_);rintro e w5 ⟨rfl,hI,hB⟩;have HI5:=mkA hI;have HW5:=mkA (show Below w2.heap.size w2 w5 by have h1:=(HW.out.trans (HV.out.mono (Nat.le_of_lt HU.out.lt))).trans hB;rw [GQ.out] at h1;exact h1);clear hI hB)
     | (go_at_call 129;(with_reducible refine (c83b.out _ (below_step HB.out HW5.out)).mono ?_);rintro e w6 ⟨rfl,hB⟩;have HI6:=mkA (buf_below HI5.out hB);have HW6:=mkA (below_step HW5.out hB);clear hB)
     | (go_at_call 150;(with_reducible refine (write_rune HI6.out _ HBI.out HLL.out).mono ?_);rintro e w7 ⟨rfl,hI,hB⟩;have HI7:=mkA hI;have HW7:=mkA (show Below gq w2 w7 by have h1:=HW6.out;rw [← GQ.out] at h1;exact h1.trans hB);clear hI hB))
   all_goals
    go_roundw
    case rel=>exact ⟨p+2,p+2,m+2,_,1,_,congrArg (Value.int .i64) Q7.out,congrArg (Value.int .i64) (pl2 m HM5.out),congrArg (Value.int .i64) Q7.out,rfl,rfl,HI7,HW7,⟨Nat.le_refl _,HK.out,by have:=HP.out;omega,by have h1:=HP.out.2.2.2;have h2:=HP.out.1;have h3:=HP.out.2.1;rw [HEN.out];simp only [List.length_append,List.length_take,List.length_cons,List.length_nil];omega⟩,⟨by rw [HEN.out,Nat.sub_self,List.take_zero,List.append_nil];exact HQ3.out⟩⟩
    case measure=>rw [Q7.out,msr_int,msr_int,Int.toNat_natCast,Int.toNat_natCast];have:=HK.out;omega
  ·obtain ⟨U,hU⟩:∃ U,U=uvx (a1.toNat:Int) (a2.toNat:Int) (a3.toNat:Int) (a4.toNat:Int):=⟨_,rfl⟩
   have hu:U=ud a1 a2 a3 a4:=by rw [hU];exact uvx_dg hd.1 hd.2.1 hd.2.2.1 hd.2.2.2
   have hu2:0≤U∧U≤65535:=by rw [hu];exact ud_lo hd
   have eu:decide (U < 0)=false:=decide_eq_false (by omega)
   have HUD:=mkA hu2
   have HUE:=mkA hU
   have HUQ:=mkA hu
   have HQ3:=mkA hq
   clear hU hu hu2 hq hd
   rw [hr] at c83
   obtain ⟨q,hqq⟩:∃ q:Nat,q=p+1:=⟨_,rfl⟩
   rw [← hqq] at hr2
   have c83b:=mkA (fun (w5:World) (h5:Below w.heap.size w w5)=>runeAt_src (HS.out.below h5) q (by omega))
   rw [hr2] at c83b
   have q0:(p < t.size)=True:=eq_true (by omega)
   have q1:(c≤p)=True:=eq_true HP.out.1
   have q2:(p≤cap)=True:=eq_true (Nat.le_trans HP.out.2.1 HS.out.cap)
   have q4:(cap=c)=False:=eq_false (by have:=HP.out.1;have:=HS.out.cap;omega)
   have QW:=mkA (show wrap64 ((p:Int)+1)=(q:Int)∧wrap64 ((q:Int) - 1)=(p:Int) from by have hz:=HSM.out;exact ⟨w_at (by omega) (by omega),w_at (by omega) (by omega)⟩)
   have HQE:=mkA hqq
   have M1:=mkA True.intro
   obtain ⟨p2,hq2⟩:∃ q:Nat,q=p+2:=⟨_,rfl⟩
   obtain ⟨p3,hq3⟩:∃ q:Nat,q=p+3:=⟨_,rfl⟩
   obtain ⟨p4,hq4⟩:∃ q:Nat,q=p+4:=⟨_,rfl⟩
   obtain ⟨p5,hq5⟩:∃ q:Nat,q=p+5:=⟨_,rfl⟩
   have hz:=HSM.out
   have QX:=mkA (show wrap64 ((q:Int)+1)=(p2:Int)∧wrap64 ((q:Int)+2)=(p3:Int)∧wrap64 ((q:Int)+3)=(p4:Int)∧wrap64 ((q:Int)+4)=(p5:Int)∧wrap64 ((p5:Int)+1)=((p+6:Nat):Int) from ⟨w_at (by omega) (by omega),w_at (by omega) (by omega),w_at (by omega) (by omega),w_at (by omega) (by omega),w_at (by omega) (by omega)⟩)
   have QY:=mkA (show ((t.size≤p5)=False)∧(((p2:Int) < (t.size:Int))=True)∧(((p3:Int) < (t.size:Int))=True)∧(((p4:Int) < (t.size:Int))=True)∧(((p5:Int) < (t.size:Int))=True)∧((0≤(p2:Int))=True)∧((0≤(p3:Int))=True)∧((0≤(p4:Int))=True)∧((0≤(p5:Int))=True) from ⟨eq_false (by omega),eq_true (by omega),eq_true (by omega),eq_true (by omega),eq_true (by omega),eq_true (by omega),eq_true (by omega),eq_true (by omega),eq_true (by omega)⟩)
   have wb:∀ a:UInt8,wrap32 (a.toNat:Int)=(a.toNat:Int):=fun a=>by have:=a.toNat_lt;unfold wrap32;omega
   have bd:∀ a:UInt8,(0:Int)≤(a.toNat:Int)∧(a.toNat:Int)≤255:=fun a=>by have:=a.toNat_lt;omega
   have z1:=wb a1
   have z2:=wb a2
   have z3:=wb a3
   have z4:=wb a4
   have CU:=mkA (fun (w8:World)=>(show Calls Tryz.prog 151 #[.int .i32 (a1.toNat:Int),.int .i32 (a2.toNat:Int),.int .i32 (a3.toNat:Int),.int .i32 (a4.toNat:Int)] w8 fun e w'=>e=.returned (.int .i32 U)∧w'=w8 by rw [HUE.out];exact uni_walk (a1.toNat:Int) (a2.toNat:Int) (a3.toNat:Int) (a4.toNat:Int) (bd a1) (bd a2) (bd a3) (bd a4) w8))
   have HCC:=mkA (show ∀ w8:World,Below w.heap.size w w8→(w8.cell? ⟨b,p2,none⟩=some (.int .u8 (a1.toNat:Int))∧w8.cell? ⟨b,p3,none⟩=some (.int .u8 (a2.toNat:Int))∧w8.cell? ⟨b,p4,none⟩=some (.int .u8 (a3.toNat:Int))∧w8.cell? ⟨b,p5,none⟩=some (.int .u8 (a4.toNat:Int))) from fun w8 h8=>by
    have hby:=(HS.out.below h8).bytes
    rw [← hq2,← hq3,← hq4,← hq5] at hbs
    refine ⟨?_,?_,?_,?_⟩
    ·rw [hby p2 (by omega),hbs.1]
    ·rw [hby p3 (by omega),hbs.2.1]
    ·rw [hby p4 (by omega),hbs.2.2.1]
    ·rw [hby p5 (by omega),hbs.2.2.2])
   have HK:=mkA hp6
   clear hr hr2 hp6 hqq hq2 hq3 hq4 hq5 wb bd hz hbs
   obtain ⟨q5,q6⟩:=QW.out
   obtain ⟨q7,q8,q9,q10,_⟩:=QX.out
   obtain ⟨q11,q12,q13,q14,q15,q16,q17,q18,q19⟩:=QY.out
   go_upto_region 38 with (first
    | (clear M1;go_at_call 129;refine c83.mono ?_;rintro e w4 ⟨rfl,hB⟩;have HV:=mkA hB;have HV2:=mkA (below_step HW2.out hB);clear hB)
    | (go_at_call 147;(with_reducible refine (CW.out _ HV.out).mono ?_);rintro e w5 ⟨rfl,hI,hB⟩;have HI5:=mkA hI;have HW5:=mkA (show Below w2.heap.size w2 w5 by have h1:=(HW.out.trans (HV.out.mono (Nat.le_of_lt HU.out.lt))).trans hB;rw [GQ.out] at h1;exact h1);clear hI hB)
    | (go_at_call 129;(with_reducible refine (c83b.out _ (below_step HB.out HW5.out)).mono ?_);rintro e w6 ⟨rfl,hB⟩;have HI6:=mkA (buf_below HI5.out hB);have HW6:=mkA (below_step HW5.out hB);clear hB;obtain ⟨k1,k2,k3,k4⟩:=HCC.out _ (below_step HB.out HW6.out)))
   go_quiet (first | (go_at_call 151;refine Calls.quiet_of_same (CU.out _)))
   have CR:=mkA (fun nd:Nat=>write_rune (w:=w6.drewN nd) HI6.out U HUD.out HLL.out)
   go_wp2_with (first
    | (go_at_call 150;(with_reducible refine (CR.out _).mono ?_);rintro e w7 ⟨rfl,hI,hB⟩;have HI7:=mkA hI;have HW7:=mkA (show Below gq w2 w7 by have h1:=HW6.out;rw [← GQ.out] at h1;exact (pw_below_drewN h1 _).trans hB);clear hI hB))
   clear q0 q1 q2 q4 q5 q6 q7 q8 q9 q10 q11 q12 q13 q14 q15 q16 q17 q18 q19 z1 z2 z3 z4
   go_roundw
   case rel=>exact ⟨p+6,p+6,m+6,_,1,_,congrArg (Value.int .i64) QX.out.2.2.2.2,congrArg (Value.int .i64) (pl6 m HM5.out),congrArg (Value.int .i64) QX.out.2.2.2.2,rfl,rfl,HI7,HW7,⟨Nat.le_refl _,HK.out,by have:=HP.out;omega,by have h1:=HP.out.2.2.2;have h2:=HP.out.1;have h3:=HP.out.2.1;have h4:=enc_len U;simp only [List.length_append,List.length_take];omega⟩,⟨by rw [Nat.sub_self,List.take_zero,List.append_nil,HUQ.out];exact HQ3.out⟩⟩
   case measure=>rw [QX.out.2.2.2.2,msr_int,msr_int,Int.toNat_natCast,Int.toNat_natCast];have:=HK.out;omega
  ·have HBD:=mkA hbd
   have HML:=mkA (show m≤t.size from Nat.le_trans HP.out.2.2.1 HP.out.2.1)
   clear hbd
   rcases hbx with ⟨hp,hr⟩ | ⟨cc,hr,hlt,h0,h1,h2⟩ | ⟨cc,kk,hr,hp1,hr2,hne,h117⟩ | ⟨hr,hr2,hp1,hz5⟩ | ⟨a1,a2,a3,a4,hd,hr,hr2,hbs,hp6⟩
   ·rw [hr] at c83
    have q0:(p < t.size)=False:=eq_false (by omega)
    clear hr hp
    go_wp2_with (first
     | (go_at_call 129;refine c83.mono ?_;rintro e w4 ⟨rfl,hB⟩;have HV:=mkA hB;have HV2:=mkA (below_step HW2.out hB);clear hB)
     | (go_at_call 101;refine (synErr' (HS.out.below (below_step HB.out HV2.out)) m (HML.out) _ _ (rfl)).mono ?_;rintro e w9 ⟨⟨ge,rfl⟩,hB⟩;have HW9:=mkA (below_step HV2.out hB);clear hB;have BK9:=mkA (blk_below BK.out HW9.out);obtain ⟨hz0,hz1,hz2,hz3,hf0,hf1,hf2,hf3⟩:=tkz BK9.out))
    refine bodyPost_ret (results_ct rfl _ _ gb 63 #[.int .i64 0,.int .i64 0,.int .i64 0,.string ⟨#[]⟩] (0,0) _ rfl (by exact tkp BK9.out) Tryz.underlying63 rfl (by kernel_rfl)) rfl ?_
    exact ⟨⟨fun h=>(by rw [HBD.out] at h;cases h),fun _=>⟨ge,rfl⟩⟩,below_set (below_set (below_set (below_set (below_step HB.out HW9.out) GE.out) GE.out) GE.out) GE.out⟩
   ·rw [hr] at c83
    have q0:(p < t.size)=True:=eq_true (by omega)
    have q1:decide (cc < 32)=true:=decide_eq_true h1
    have q2:(cc != 9)=true:=by rw [bne_iff_ne];exact h2
    have q3:(cc != 34)=true:=by rw [bne_iff_ne];omega
    have q4:(cc=10)∨(cc=13)∨((cc != 10)=true∧(cc != 13)=true):=by
     by_cases h:cc=10
     ·exact .inl h
     ·by_cases h':cc=13
      ·exact .inr (.inl h')
      ·exact .inr (.inr ⟨by rw [bne_iff_ne];exact h,by rw [bne_iff_ne];exact h'⟩)
    clear hr hlt h0 h1 h2
    rcases q4 with rfl | rfl | ⟨q4,q5⟩
    all_goals
     go_wp2_with (first
      | (go_at_call 129;refine c83.mono ?_;rintro e w4 ⟨rfl,hB⟩;have HV:=mkA hB;have HV2:=mkA (below_step HW2.out hB);clear hB)
      | (go_at_call 101;refine (synErr' (HS.out.below (below_step HB.out HV2.out)) m (HML.out) _ _ (rfl)).mono ?_;rintro e w9 ⟨⟨ge,rfl⟩,hB⟩;have HW9:=mkA (below_step HV2.out hB);clear hB;have BK9:=mkA (blk_below BK.out HW9.out);obtain ⟨hz0,hz1,hz2,hz3,hf0,hf1,hf2,hf3⟩:=tkz BK9.out))
     refine bodyPost_ret (results_ct rfl _ _ gb 63 #[.int .i64 0,.int .i64 0,.int .i64 0,.string ⟨#[]⟩] (0,0) _ rfl (by exact tkp BK9.out) Tryz.underlying63 rfl (by kernel_rfl)) rfl ?_
     exact ⟨⟨fun h=>(by rw [HBD.out] at h;cases h),fun _=>⟨ge,rfl⟩⟩,below_set (below_set (below_set (below_set (below_step HB.out HW9.out) GE.out) GE.out) GE.out) GE.out⟩
   ·have hqq0:=hp1
    rw [hr] at c83
    obtain ⟨q,hqq⟩:∃ q:Nat,q=p+1:=⟨_,rfl⟩
    rw [← hqq] at hr2
    have c83b:=mkA (fun (w5:World) (h5:Below w.heap.size w w5)=>runeAt_src (HS.out.below h5) q (by omega))
    rw [hr2] at c83b
    have q0:(p < t.size)=True:=eq_true (by omega)
    have q1:(c≤p)=True:=eq_true HP.out.1
    have q2:(p≤cap)=True:=eq_true (Nat.le_trans HP.out.2.1 HS.out.cap)
    have q4:(cap=c)=False:=eq_false (by have:=HP.out.1;have:=HS.out.cap;omega)
    have QW:=mkA (show wrap64 ((p:Int)+1)=(q:Int)∧wrap64 ((q:Int) - 1)=(p:Int) from by have hz:=HSM.out;exact ⟨w_at (by omega) (by omega),w_at (by omega) (by omega)⟩)
    have HQE:=mkA hqq
    have M1:=mkA True.intro
    have HMQ:=mkA (show m+1≤t.size by have:=HP.out;omega)
    have ne34:(cc == 34)=false:=by rw [beq_eq_false_iff_ne];exact fun h=>hne (.inl h)
    have ne47:(cc == 47)=false:=by rw [beq_eq_false_iff_ne];exact fun h=>hne (.inr (.inl h))
    have ne92:(cc == 92)=false:=by rw [beq_eq_false_iff_ne];exact fun h=>hne (.inr (.inr (.inl h)))
    have ne98:(cc == 98)=false:=by rw [beq_eq_false_iff_ne];exact fun h=>hne (.inr (.inr (.inr (.inl h))))
    have ne102:(cc == 102)=false:=by rw [beq_eq_false_iff_ne];exact fun h=>hne (.inr (.inr (.inr (.inr (.inl h)))))
    have ne110:(cc == 110)=false:=by rw [beq_eq_false_iff_ne];exact fun h=>hne (.inr (.inr (.inr (.inr (.inr (.inl h))))))
    have ne114:(cc == 114)=false:=by rw [beq_eq_false_iff_ne];exact fun h=>hne (.inr (.inr (.inr (.inr (.inr (.inr (.inl h)))))))
    have ne116:(cc == 116)=false:=by rw [beq_eq_false_iff_ne];exact fun h=>hne (.inr (.inr (.inr (.inr (.inr (.inr (.inr h)))))))
    have ne117:(cc == 117)=false:=by rw [beq_eq_false_iff_ne];exact h117
    clear hr hr2 hqq hne h117 hp1 hqq0
    obtain ⟨q5,q6⟩:=QW.out
    go_wp2_with (first
     | (clear M1;go_at_call 129;refine c83.mono ?_;rintro e w4 ⟨rfl,hB⟩;have HV:=mkA hB;have HV2:=mkA (below_step HW2.out hB);clear hB)
     | (go_at_call 147;(with_reducible refine (CW.out _ HV.out).mono ?_);rintro e w5 ⟨rfl,hI,hB⟩;have HI5:=mkA hI;have HW5:=mkA (show Below w2.heap.size w2 w5 by have h1:=(HW.out.trans (HV.out.mono (Nat.le_of_lt HU.out.lt))).trans hB;rw [GQ.out] at h1;exact h1);clear hI hB)
     | (go_at_call 129;(with_reducible refine (c83b.out _ (below_step HB.out HW5.out)).mono ?_);rintro e w6 ⟨rfl,hB⟩;have HI6:=mkA (buf_below HI5.out hB);have HW6:=mkA (below_step HW5.out hB);clear hB)
     | (go_at_call 101;refine (synErr' (HS.out.below (below_step HB.out HW6.out)) (m+1) (HMQ.out) _ _ (pl1 m HM5.out)).mono ?_;rintro e w9 ⟨⟨ge,rfl⟩,hB⟩;have HW9:=mkA (below_step HW6.out hB);clear hB;have BK9:=mkA (blk_below BK.out HW9.out);obtain ⟨hz0,hz1,hz2,hz3,hf0,hf1,hf2,hf3⟩:=tkz BK9.out))
    refine bodyPost_ret (results_ct rfl _ _ gb 63 #[.int .i64 0,.int .i64 0,.int .i64 0,.string ⟨#[]⟩] (0,0) _ rfl (by exact tkp BK9.out) Tryz.underlying63 rfl (by kernel_rfl)) rfl ?_
    exact ⟨⟨fun h=>(by rw [HBD.out] at h;cases h),fun _=>⟨ge,rfl⟩⟩,below_set (below_set (below_set (below_set (below_step HB.out HW9.out) GE.out) GE.out) GE.out) GE.out⟩
   ·have hqq0:=hp1
    rw [hr] at c83
    obtain ⟨q,hqq⟩:∃ q:Nat,q=p+1:=⟨_,rfl⟩
    rw [← hqq] at hr2
    have c83b:=mkA (fun (w5:World) (h5:Below w.heap.size w w5)=>runeAt_src (HS.out.below h5) q (by omega))
    rw [hr2] at c83b
    have q0:(p < t.size)=True:=eq_true (by omega)
    have q1:(c≤p)=True:=eq_true HP.out.1
    have q2:(p≤cap)=True:=eq_true (Nat.le_trans HP.out.2.1 HS.out.cap)
    have q4:(cap=c)=False:=eq_false (by have:=HP.out.1;have:=HS.out.cap;omega)
    have QW:=mkA (show wrap64 ((p:Int)+1)=(q:Int)∧wrap64 ((q:Int) - 1)=(p:Int) from by have hz:=HSM.out;exact ⟨w_at (by omega) (by omega),w_at (by omega) (by omega)⟩)
    have HQE:=mkA hqq
    have M1:=mkA True.intro
    have HMQ:=mkA (show m+1≤t.size by have:=HP.out;omega)
    obtain ⟨p5,hq5⟩:∃ q:Nat,q=p+5:=⟨_,rfl⟩
    have QX:=mkA (show wrap64 ((q:Int)+4)=(p5:Int) from w_at (by omega) (by have:=HSM.out;omega))
    have q11:(t.size≤p5)=True:=eq_true (by omega)
    clear hr hr2 hqq hp1 hqq0 hq5 hz5
    obtain ⟨q5,q6⟩:=QW.out
    have q10:=QX.out
    go_wp2_with (first
     | (clear M1;go_at_call 129;refine c83.mono ?_;rintro e w4 ⟨rfl,hB⟩;have HV:=mkA hB;have HV2:=mkA (below_step HW2.out hB);clear hB)
     | (go_at_call 147;(with_reducible refine (CW.out _ HV.out).mono ?_);rintro e w5 ⟨rfl,hI,hB⟩;have HI5:=mkA hI;have HW5:=mkA (show Below w2.heap.size w2 w5 by have h1:=(HW.out.trans (HV.out.mono (Nat.le_of_lt HU.out.lt))).trans hB;rw [GQ.out] at h1;exact h1);clear hI hB)
     | (go_at_call 129;(with_reducible refine (c83b.out _ (below_step HB.out HW5.out)).mono ?_);rintro e w6 ⟨rfl,hB⟩;have HI6:=mkA (buf_below HI5.out hB);have HW6:=mkA (below_step HW5.out hB);clear hB)
     | (go_at_call 101;refine (synErr' (HS.out.below (below_step HB.out HW6.out)) (m+1) (HMQ.out) _ _ (pl1 m HM5.out)).mono ?_;rintro e w9 ⟨⟨ge,rfl⟩,hB⟩;have HW9:=mkA (below_step HW6.out hB);clear hB;have BK9:=mkA (blk_below BK.out HW9.out);obtain ⟨hz0,hz1,hz2,hz3,hf0,hf1,hf2,hf3⟩:=tkz BK9.out))
    refine bodyPost_ret (results_ct rfl _ _ gb 63 #[.int .i64 0,.int .i64 0,.int .i64 0,.string ⟨#[]⟩] (0,0) _ rfl (by exact tkp BK9.out) Tryz.underlying63 rfl (by kernel_rfl)) rfl ?_
    exact ⟨⟨fun h=>(by rw [HBD.out] at h;cases h),fun _=>⟨ge,rfl⟩⟩,below_set (below_set (below_set (below_set (below_step HB.out HW9.out) GE.out) GE.out) GE.out) GE.out⟩
   ·obtain ⟨U,hU⟩:∃ U,U=uvx (a1.toNat:Int) (a2.toNat:Int) (a3.toNat:Int) (a4.toNat:Int):=⟨_,rfl⟩
    have hu2:U < 0:=by rw [hU];exact uvx_bad hd
    have eu:decide (U < 0)=true:=decide_eq_true hu2
    have HUE:=mkA hU
    clear hU hu2 hd
    rw [hr] at c83
    obtain ⟨q,hqq⟩:∃ q:Nat,q=p+1:=⟨_,rfl⟩
    rw [← hqq] at hr2
    have c83b:=mkA (fun (w5:World) (h5:Below w.heap.size w w5)=>runeAt_src (HS.out.below h5) q (by omega))
    rw [hr2] at c83b
    have q0:(p < t.size)=True:=eq_true (by omega)
    have q1:(c≤p)=True:=eq_true HP.out.1
    have q2:(p≤cap)=True:=eq_true (Nat.le_trans HP.out.2.1 HS.out.cap)
    have q4:(cap=c)=False:=eq_false (by have:=HP.out.1;have:=HS.out.cap;omega)
    have QW:=mkA (show wrap64 ((p:Int)+1)=(q:Int)∧wrap64 ((q:Int) - 1)=(p:Int) from by have hz:=HSM.out;exact ⟨w_at (by omega) (by omega),w_at (by omega) (by omega)⟩)
    have HQE:=mkA hqq
    have M1:=mkA True.intro
    have HMQ:=mkA (show m+1≤t.size by have:=HP.out;omega)
    obtain ⟨p2,hq2⟩:∃ q:Nat,q=p+2:=⟨_,rfl⟩
    obtain ⟨p3,hq3⟩:∃ q:Nat,q=p+3:=⟨_,rfl⟩
    obtain ⟨p4,hq4⟩:∃ q:Nat,q=p+4:=⟨_,rfl⟩
    obtain ⟨p5,hq5⟩:∃ q:Nat,q=p+5:=⟨_,rfl⟩
    have hz:=HSM.out
    have QX:=mkA (show wrap64 ((q:Int)+1)=(p2:Int)∧wrap64 ((q:Int)+2)=(p3:Int)∧wrap64 ((q:Int)+3)=(p4:Int)∧wrap64 ((q:Int)+4)=(p5:Int)∧wrap64 ((p5:Int)+1)=((p+6:Nat):Int) from ⟨w_at (by omega) (by omega),w_at (by omega) (by omega),w_at (by omega) (by omega),w_at (by omega) (by omega),w_at (by omega) (by omega)⟩)
    have QY:=mkA (show ((t.size≤p5)=False)∧(((p2:Int) < (t.size:Int))=True)∧(((p3:Int) < (t.size:Int))=True)∧(((p4:Int) < (t.size:Int))=True)∧(((p5:Int) < (t.size:Int))=True)∧((0≤(p2:Int))=True)∧((0≤(p3:Int))=True)∧((0≤(p4:Int))=True)∧((0≤(p5:Int))=True) from ⟨eq_false (by omega),eq_true (by omega),eq_true (by omega),eq_true (by omega),eq_true (by omega),eq_true (by omega),eq_true (by omega),eq_true (by omega),eq_true (by omega)⟩)
    have wb:∀ a:UInt8,wrap32 (a.toNat:Int)=(a.toNat:Int):=fun a=>by have:=a.toNat_lt;unfold wrap32;omega
    have bd:∀ a:UInt8,(0:Int)≤(a.toNat:Int)∧(a.toNat:Int)≤255:=fun a=>by have:=a.toNat_lt;omega
    have z1:=wb a1
    have z2:=wb a2
    have z3:=wb a3
    have z4:=wb a4
    have CU:=mkA (fun (w8:World)=>(show Calls Tryz.prog 151 #[.int .i32 (a1.toNat:Int),.int .i32 (a2.toNat:Int),.int .i32 (a3.toNat:Int),.int .i32 (a4.toNat:Int)] w8 fun e w'=>e=.returned (.int .i32 U)∧w'=w8 by rw [HUE.out];exact uni_walk (a1.toNat:Int) (a2.toNat:Int) (a3.toNat:Int) (a4.toNat:Int) (bd a1) (bd a2) (bd a3) (bd a4) w8))
    have HCC:=mkA (show ∀ w8:World,Below w.heap.size w w8→(w8.cell? ⟨b,p2,none⟩=some (.int .u8 (a1.toNat:Int))∧w8.cell? ⟨b,p3,none⟩=some (.int .u8 (a2.toNat:Int))∧w8.cell? ⟨b,p4,none⟩=some (.int .u8 (a3.toNat:Int))∧w8.cell? ⟨b,p5,none⟩=some (.int .u8 (a4.toNat:Int))) from fun w8 h8=>by
     have hby:=(HS.out.below h8).bytes
     rw [← hq2,← hq3,← hq4,← hq5] at hbs
     refine ⟨?_,?_,?_,?_⟩
     ·rw [hby p2 (by omega),hbs.1]
     ·rw [hby p3 (by omega),hbs.2.1]
     ·rw [hby p4 (by omega),hbs.2.2.1]
     ·rw [hby p5 (by omega),hbs.2.2.2])
    have HK:=mkA hp6
    clear hr hr2 hp6 hqq hq2 hq3 hq4 hq5 wb bd hz hbs
    obtain ⟨q5,q6⟩:=QW.out
    obtain ⟨q7,q8,q9,q10,_⟩:=QX.out
    obtain ⟨q11,q12,q13,q14,q15,q16,q17,q18,q19⟩:=QY.out
    go_upto_region 38 with (first
     | (clear M1;go_at_call 129;refine c83.mono ?_;rintro e w4 ⟨rfl,hB⟩;have HV:=mkA hB;have HV2:=mkA (below_step HW2.out hB);clear hB)
     | (go_at_call 147;(with_reducible refine (CW.out _ HV.out).mono ?_);rintro e w5 ⟨rfl,hI,hB⟩;have HI5:=mkA hI;have HW5:=mkA (show Below w2.heap.size w2 w5 by have h1:=(HW.out.trans (HV.out.mono (Nat.le_of_lt HU.out.lt))).trans hB;rw [GQ.out] at h1;exact h1);clear hI hB)
     | (go_at_call 129;(with_reducible refine (c83b.out _ (below_step HB.out HW5.out)).mono ?_);rintro e w6 ⟨rfl,hB⟩;have HI6:=mkA (buf_below HI5.out hB);have HW6:=mkA (below_step HW5.out hB);clear hB;obtain ⟨k1,k2,k3,k4⟩:=HCC.out _ (below_step HB.out HW6.out)))
    go_quiet (first | (go_at_call 151;refine Calls.quiet_of_same (CU.out _)))
    have HD6:=mkA (fun nd:Nat=>pw_below_drewN HW6.out nd)
    have CE:=mkA (fun (nd:Nat) (P:Int) (hP:P=((m+1:Nat):Int)) (mm:ByteArray)=>synErr' (w:=w6.drewN nd) (HS.out.below (below_step HB.out (HD6.out nd))) (m+1) HMQ.out mm P hP)
    go_wp2_with (first
     | (go_at_call 101;refine (CE.out _ _ (pl1 m HM5.out) _).mono ?_;rintro e w9 ⟨⟨ge,rfl⟩,hB⟩;have HW9:=mkA (below_step (HD6.out _) hB);clear hB;have BK9:=mkA (blk_below BK.out HW9.out);obtain ⟨hz0,hz1,hz2,hz3,hf0,hf1,hf2,hf3⟩:=tkz BK9.out))
    refine bodyPost_ret (results_ct rfl _ _ gb 63 #[.int .i64 0,.int .i64 0,.int .i64 0,.string ⟨#[]⟩] (0,0) _ rfl (by exact tkp BK9.out) Tryz.underlying63 rfl (by kernel_rfl)) rfl ?_
    exact ⟨⟨fun h=>(by rw [HBD.out] at h;cases h),fun _=>⟨ge,rfl⟩⟩,below_set (below_set (below_set (below_set (below_step HB.out HW9.out) GE.out) GE.out) GE.out) GE.out⟩
theorem readString_ok {w:World} {g b cap:Nat} {t:ByteArray} (h:Src w g b cap t) (p:Nat) (hp:p < t.size) (X:List UInt8) (z:Nat) (hz:z≤t.size) (hx:Qt X (dr t (p+1)) (dr t z)) :
 Calls Tryz.prog 133 #[.pointer (some ⟨g,0,none⟩),.int .i64 p] w fun e w'=>e=.returned (.tuple #[.agg #[.int .i64 18,.int .i64 p,.int .i64 z,.string ⟨X.toArray⟩],.nilIface])∧Below w.heap.size w w' :=
 (readString_all h p hp false X z hz (.inl ⟨rfl,X,rfl,hx⟩)).mono fun e w' q=>⟨q.1.1 rfl,q.2⟩
theorem readString_bad {w:World} {g b cap:Nat} {t:ByteArray} (h:Src w g b cap t) (p:Nat) (hp:p < t.size) (hx:Qb (dr t (p+1))) :
 Calls Tryz.prog 133 #[.pointer (some ⟨g,0,none⟩),.int .i64 p] w fun e w'=>(∃ ge:Nat,e=.returned (.tuple #[.agg #[.int .i64 0,.int .i64 0,.int .i64 0,.string ⟨#[]⟩],.iface 206 (.pointer (some ⟨ge,0,none⟩))]))∧Below w.heap.size w w' :=
 (readString_all h p hp true [] 0 (Nat.zero_le _) (.inr ⟨rfl,hx⟩)).mono fun e w' q=>⟨q.1.2 rfl,q.2⟩
end Go.Proofs.YthgcghpcikbnkaaGreatDoor.R
