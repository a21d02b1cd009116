/- A part of the proof of the theorem of this claim: Rnn, Uni, Qsx, Raf. No condition of its own. -/
import Derived.Test.YthgcghpcikbnkaaGreatDoorC13
set_option maxHeartbeats 16000000
set_option maxRecDepth 100000
namespace Go.Proofs.YthgcghpcikbnkaaGreatDoor.R
open Go.RowKit Go.Proofs.YthgcghpcikbnkaaGreatDoorW.PrintWords Go.Proofs.YthgcghpcikbnkaaGreatDoorW.PrintLast Go.Proofs.YthgcghpcikbnkaaGreatDoorW.PrintMore
set_option linter.unusedVariables false
set_option linter.unusedSimpArgs false
instance (a:Int):Decidable (Dg a):=by unfold Dg;infer_instance
instance (b:UInt8):Decidable (Pl b):=by unfold Pl;infer_instance
instance (b:UInt8):Decidable (Bl b):=by unfold Bl;infer_instance
theorem isN_cases (c:Int) (h:isN c=true):c=95∨(48≤c∧c≤57)∨(65≤c∧c≤90)∨(97≤c∧c≤122):=by
 unfold isN isB isD at h;simp at h;omega
theorem isN_not (c:Int) (h:isN c=false):c < 48∨(57 < c∧c < 65)∨(90 < c∧c < 97∧c≠95)∨122 < c:=by
 unfold isN isB isD at h;simp at h;omega
theorem rn_nm (s:ByteArray) (i:Nat) (hi:i≤s.size) (h:isN (nx s i)=true):∃ c:Int,rn s i=(c,1)∧i < s.size∧(c=95∨(48≤c∧c≤57)∨(65≤c∧c≤90)∨(97≤c∧c≤122)):=by
 have hd:=isN_cases _ h
 rcases rn_cases s i hi with ⟨a,b,c⟩ | ⟨c,k,a,b,d⟩ | ⟨a,b,c⟩
 ·exact ⟨_,c,b,hd⟩
 ·omega
 ·omega
theorem rn_nonm (s:ByteArray) (i:Nat) (hi:i < s.size) (h:isN (nx s i)=false):∃ c k:Int,rn s i=(c,k)∧(c < 48∨(57 < c∧c < 65)∨(90 < c∧c < 97∧c≠95)∨122 < c):=by
 have hd:=isN_not _ h
 rcases rn_cases s i (by omega) with ⟨a,b,c⟩ | ⟨c,k,a,b,d⟩ | ⟨a,b,c⟩
 ·exact ⟨_,_,c,hd⟩
 ·exact ⟨c,k,a,by omega⟩
 ·omega
theorem readName_walk {w:World} {g b cap:Nat} {s:ByteArray} (h:Src w g b cap s) (p:Nat) (hp:p < s.size) :
 Calls Tryz.prog 130 #[.pointer (some ⟨g,0,none⟩),.int .i64 p,.int .i64 p] w fun e w'=>e=.returned (.agg #[.int .i64 15,.int .i64 p,.int .i64 (nm s (p+1):Nat),.string (s.extract p (nm s (p+1)))])∧Below w.heap.size w w':=by
 have HS:=mkA h
 have HSM:=mkA h.small
 have HC:=mkA h.cap
 have HP0:=mkA hp
 have hc0:=h.body
 clear h hp
 go_enter Tryz.func130,Tryz.ntmps130
 go_wp2_with (first | ((with_reducible refine gate_dst (N:=6) rfl ?_);refine bxz ?hr ?_;(case hr=>first | (go_simp;done) | (go_simp;rfl));intro gb hg w2 hbox hb;have HB:=mkA hb;have GE:=mkA (Nat.le_of_eq hg.symm);have BK:=mkA hbox;clear hb hbox hg;have hs0:=HS.out.below HB.out;have hb0:=hs0.body))
 repeat (go_quiet (fail);try go_wp2)
 have P1:=pl1 p (by have:=HSM.out;have:=HP0.out;omega)
 go_loopw [9,10] (fun v9 v10 wr=>∃ j:Nat,v9=.int .i64 j∧v10=.int .i64 j∧Aside0 (p < j∧j≤s.size∧nm s j=nm s (p+1))∧Aside0 (Below w.heap.size w wr)∧Aside0 (wr.heap[gb]?=some (.cells #[.int .i64 0,.int .i64 0,.int .i64 0,.string ⟨#[]⟩] 63 (0,0)))) (fun v9 _ _=>msr s v9)
 case atStart=>exact ⟨p+1,by first | rfl | exact congrArg (Value.int .i64) P1,by first | rfl | exact congrArg (Value.int .i64) P1,⟨Nat.lt_succ_self p,HP0.out,rfl⟩,HB,BK⟩
 case round =>
  clear HB BK P1
  obtain ⟨j,rfl,rfl,HJ,HB,BK⟩:=hrel
  have cR:=runeAt_src (HS.out.below HB.out) j HJ.out.2.1
  cases hd:isN (nx s j) with
  | true =>
    obtain ⟨c,hr,hlt,hcc⟩:=rn_nm s j HJ.out.2.1 hd
    rw [hr] at cR
    have HD:=mkA hd
    have HLT:=mkA hlt
    have n0:(j == s.size)=false:=beq_eq_false_iff_ne.2 (by omega)
    have n1:(j=s.size)=False:=eq_false (by omega)
    have n2:((j:Int)=(s.size:Int))=False:=eq_false (by omega)
    clear hr hlt hd
    rcases hcc with rfl | hcc | hcc | hcc
    rotate_left
    all_goals try have e95:(c == 95)=false:=beq_eq_false_iff_ne.2 (by omega)
    all_goals try have f95:(c=95)=False:=eq_false (by omega)
    all_goals try have e0:decide (48≤c)=true:=decide_eq_true (by omega)
    case' inr.inl=>have e1:decide (c≤57)=true:=decide_eq_true (by omega)
    case' inr.inr.inl=>have e1:decide (c≤57)=false:=decide_eq_false (by omega)
    case' inr.inr.inl=>have e2:decide (65≤c)=true:=decide_eq_true (by omega)
    case' inr.inr.inl=>have e3:decide (c≤90)=true:=decide_eq_true (by omega)
    case' inr.inr.inr=>have e1:decide (c≤57)=false:=decide_eq_false (by omega)
    case' inr.inr.inr=>have e2:decide (65≤c)=true:=decide_eq_true (by omega)
    case' inr.inr.inr=>have e3:decide (c≤90)=false:=decide_eq_false (by omega)
    case' inr.inr.inr=>have e4:decide (97≤c)=true:=decide_eq_true (by omega)
    case' inr.inr.inr=>have e5:decide (c≤122)=true:=decide_eq_true (by omega)
    all_goals
     try clear hcc
     go_wp2_with (first | (go_at_call 129;refine cR.mono ?_;rintro e w' ⟨rfl,hB⟩;replace HB:=mkA (below_step HB.out hB);replace BK:=mkA (blk_below BK.out hB);clear hB))
     repeat (go_quiet (fail);try go_wp2)
     go_roundw
     case rel=>exact ⟨j+1,by have:=HSM.out;have:=HLT.out;exact w_up (by omega),by have:=HSM.out;have:=HLT.out;exact w_up (by omega),⟨Nat.lt_succ_of_lt HJ.out.1,HLT.out,(nm_yes s j HD.out).symm.trans HJ.out.2.2⟩,HB,BK⟩
     case measure=>exact msr_upb s j HLT.out (by have:=HSM.out;omega)
  | false =>
    have HN:=mkA ((nm_no s j hd).symm.trans HJ.out.2.2)
    have conv:∀ {u:World},Below w.heap.size w u→_:=fun {u} hu=>conv_bytes (HS.out.below hu) p j (Nat.le_of_lt HJ.out.1) HJ.out.2.1
    have CV:=mkA @conv
    clear conv
    have p0:((p:Int)≤(j:Int))=True:=eq_true (by have h:p < j:=HJ.out.1;omega)
    have p1:((j:Int)≤(cap:Int))=True:=eq_true (by have:=HJ.out.2.1;have:=HC.out;omega)
    have p2:(p≤j)=True:=eq_true (Nat.le_of_lt HJ.out.1)
    have p3:(j≤cap)=True:=eq_true (by have:=HJ.out.2.1;have:=HC.out;omega)
    have p4:(cap=p)=False:=eq_false (by have:=HP0.out;have:=HC.out;omega)
    by_cases hlt:j < s.size
    ·obtain ⟨c,k,hr,hcc⟩:=rn_nonm s j hlt hd
     rw [hr] at cR
     have n0:(j == s.size)=false:=beq_eq_false_iff_ne.2 (by omega)
     have n1:(j=s.size)=False:=eq_false (by omega)
     have n2:((j:Int)=(s.size:Int))=False:=eq_false (by omega)
     clear hr hlt hd
     have e95:(c == 95)=false:=beq_eq_false_iff_ne.2 (by omega)
     have f95:(c=95)=False:=eq_false (by omega)
     have es:(decide (48≤c)=false∧decide (65≤c)=false∧decide (97≤c)=false)∨(decide (48≤c)=true∧decide (c≤57)=false∧decide (65≤c)=false∧decide (97≤c)=false)∨(decide (48≤c)=true∧decide (c≤57)=false∧decide (65≤c)=true∧decide (c≤90)=false∧decide (97≤c)=false)∨(decide (48≤c)=true∧decide (c≤57)=false∧decide (65≤c)=true∧decide (c≤90)=false∧decide (97≤c)=true∧decide (c≤122)=false):=by
      rcases hcc with h | h | h | h
      ·exact .inl ⟨decide_eq_false (by omega),decide_eq_false (by omega),decide_eq_false (by omega)⟩
      ·exact .inr (.inl ⟨decide_eq_true (by omega),decide_eq_false (by omega),decide_eq_false (by omega),decide_eq_false (by omega)⟩)
      ·exact .inr (.inr (.inl ⟨decide_eq_true (by omega),decide_eq_false (by omega),decide_eq_true (by omega),decide_eq_false (by omega),decide_eq_false (by omega)⟩))
      ·exact .inr (.inr (.inr ⟨decide_eq_true (by omega),decide_eq_false (by omega),decide_eq_true (by omega),decide_eq_false (by omega),decide_eq_true (by omega),decide_eq_false (by omega)⟩))
     clear hcc
     rcases es with ⟨e0,e1,e2⟩ | ⟨e0,e1,e2,e3⟩ | ⟨e0,e1,e2,e3,e4⟩ | ⟨e0,e1,e2,e3,e4,e5⟩
     all_goals
      go_wp2_with (first | (go_at_call 129;refine cR.mono ?_;rintro e w' ⟨rfl,hB⟩;replace HB:=mkA (below_step HB.out hB);replace BK:=mkA (blk_below BK.out hB);clear hB;have hcv:=CV.out HB.out) | (go_at_call 128;refine (makeToken_walk 15 (p:Int) (j:Int) (s.extract p j) _).mono ?_;rintro e w6 ⟨rfl,hB⟩;replace HB:=mkA (below_step HB.out hB);replace BK:=mkA (blk_below BK.out hB);clear hB;obtain ⟨hz0,hz1,hz2,hz3,hf0,hf1,hf2,hf3⟩:=tkz BK.out))
      refine bodyPost_ret (results_cell_row rfl _ _ gb 63 #[.int .i64 15,.int .i64 p,.int .i64 (j:Nat),.string (s.extract p j)] (0,0) _ rfl (by exact tkp BK.out) Tryz.underlying63 rfl (by kernel_rfl)) rfl ?_
      exact ⟨by rw [← HN.out],below_set (below_set (below_set (below_set HB.out GE.out) GE.out) GE.out) GE.out⟩
    ·obtain rfl:j=s.size:=by have:=HJ.out.2.1;omega
     rw [rn_end s s.size (Nat.lt_irrefl _)] at cR
     clear hlt hd
     go_wp2_with (first | (go_at_call 129;refine cR.mono ?_;rintro e w' ⟨rfl,hB⟩;replace HB:=mkA (below_step HB.out hB);replace BK:=mkA (blk_below BK.out hB);clear hB;have hcv:=CV.out HB.out) | (go_at_call 128;refine (makeToken_walk 15 (p:Int) (s.size:Int) (s.extract p s.size) _).mono ?_;rintro e w6 ⟨rfl,hB⟩;replace HB:=mkA (below_step HB.out hB);replace BK:=mkA (blk_below BK.out hB);clear hB;obtain ⟨hz0,hz1,hz2,hz3,hf0,hf1,hf2,hf3⟩:=tkz BK.out))
     refine bodyPost_ret (results_cell_row rfl _ _ gb 63 #[.int .i64 15,.int .i64 p,.int .i64 (s.size:Nat),.string (s.extract p s.size)] (0,0) _ rfl (by exact tkp BK.out) Tryz.underlying63 rfl (by kernel_rfl)) rfl ?_
     exact ⟨by rw [← HN.out],below_set (below_set (below_set (below_set HB.out GE.out) GE.out) GE.out) GE.out⟩
theorem or_nat (x y:Int):Go.bits .or .i64 x y=wrap64 (((BitVec.ofInt 64 x).toNat ||| (BitVec.ofInt 64 y).toNat:Nat):Int):=by
 have e:Go.bits .or .i64 x y=IntKind.i64.wrap (((BitVec.ofInt 64 x ||| BitVec.ofInt 64 y).toNat:Nat):Int):=rfl
 rw [e,BitVec.toNat_or,IntKind.wrap_i64]
 unfold wrap64
 rfl
theorem or_neg (x y:Int) (hx:-9223372036854775808≤x∧x≤9223372036854775807) (hy:-9223372036854775808≤y∧y≤9223372036854775807) (h:x < 0∨y < 0):min x y≤Go.bits .or .i64 x y∧Go.bits .or .i64 x y < 0:=by
 have key:∀ a b:Nat,a < 18446744073709551616→b < 18446744073709551616→(9223372036854775808≤a∨9223372036854775808≤b)→(9223372036854775808≤(a ||| b)∧(a ||| b) < 18446744073709551616∧a≤(a ||| b)∧b≤(a ||| b)):=by
  intro a b ha hb h
  have h1:a≤a ||| b:=Nat.left_le_or
  have h2:b≤a ||| b:=Nat.right_le_or
  have h3:a ||| b < 2 ^ 64:=Nat.or_lt_two_pow (by omega) (by omega)
  exact ⟨by omega,by omega,h1,h2⟩
 have e:∀ z:Int,-9223372036854775808≤z→z≤9223372036854775807→((BitVec.ofInt 64 z).toNat:Int)=if z < 0 then z+18446744073709551616 else z:=by
  intro z h1 h2
  rw [BitVec.toNat_ofInt]
  split <;> omega
 have hX:=e x hx.1 hx.2
 have hY:=e y hy.1 hy.2
 have ka:=(BitVec.ofInt 64 x).isLt
 have kb:=(BitVec.ofInt 64 y).isLt
 have hk:=key (BitVec.ofInt 64 x).toNat (BitVec.ofInt 64 y).toNat (by omega) (by omega) (by split at hX <;> split at hY <;> omega)
 have hB:Go.bits .or .i64 x y=wrap64 (((BitVec.ofInt 64 x).toNat ||| (BitVec.ofInt 64 y).toNat:Nat):Int):=or_nat x y
 rw [hB]
 generalize (BitVec.ofInt 64 x).toNat ||| (BitVec.ofInt 64 y).toNat=r at *
 unfold wrap64
 split at hX <;> split at hY <;> omega
theorem or_add (a b i:Nat) (hb:b < 2 ^ i) (h:a * 2 ^ i+b < 9223372036854775808):Go.bits .or .i64 ((a * 2 ^ i:Nat):Int) (b:Int)=((a * 2 ^ i+b:Nat):Int):=by
 have h1:(BitVec.ofInt 64 ((a * 2 ^ i:Nat):Int)).toNat=a * 2 ^ i:=by rw [BitVec.toNat_ofInt];omega
 have h2:(BitVec.ofInt 64 (b:Int)).toNat=b:=by rw [BitVec.toNat_ofInt];omega
 have hB:Go.bits .or .i64 ((a * 2 ^ i:Nat):Int) (b:Int)=wrap64 (((a * 2 ^ i) ||| b:Nat):Int):=by
  rw [or_nat,h1,h2]
 have h3:=Nat.shiftLeft_add_eq_or_of_lt hb a
 rw [Nat.shiftLeft_eq] at h3
 rw [hB,← h3]
 exact w64 (by omega) (by omega)
theorem hx_lo {a:Int} (h:Dg a):0≤hx a∧hx a≤15:=by
 unfold hx
 rcases h with h | h | h
 ·rw [if_pos (by omega)];omega
 ·rw [if_neg (by omega),if_neg (by omega)];omega
 ·rw [if_neg (by omega),if_pos (by omega)];omega
theorem uv_eq {a b c d:Int} (ha:Dg a) (hb:Dg b) (hc:Dg c) (hd:Dg d):uv a b c d=hx a * 4096+hx b * 256+hx c * 16+hx d:=by
 have a1:=hx_lo ha;have b1:=hx_lo hb;have c1:=hx_lo hc;have d1:=hx_lo hd
 obtain ⟨A,hA⟩:=Int.eq_ofNat_of_zero_le a1.1
 obtain ⟨B,hB⟩:=Int.eq_ofNat_of_zero_le b1.1
 obtain ⟨C,hC⟩:=Int.eq_ofNat_of_zero_le c1.1
 obtain ⟨D,hD⟩:=Int.eq_ofNat_of_zero_le d1.1
 unfold uv
 have a2:A≤15:=by omega
 have b2:B≤15:=by omega
 have c2:C≤15:=by omega
 have d2:D≤15:=by omega
 rw [hA,hB,hC,hD]
 clear a1 b1 c1 d1 hA hB hC hD
 have w1:wrap64 ((A:Int) * 4096)=((A * 2 ^ 12:Nat):Int):=(w64 (by omega) (by omega)).trans (by omega)
 have w2:wrap64 ((B:Int) * 256)=((B * 256:Nat):Int):=(w64 (by omega) (by omega)).trans (by omega)
 have w3:wrap64 ((C:Int) * 16)=((C * 16:Nat):Int):=(w64 (by omega) (by omega)).trans (by omega)
 have o1:=or_add A (B * 256) 12 (by omega) (by omega)
 have o2:=or_add (A * 16+B) (C * 16) 8 (by omega) (by omega)
 have o3:=or_add (A * 256+B * 16+C) D 4 (by omega) (by omega)
 rw [w1,w2,w3,o1,show A * 2 ^ 12+B * 256=(A * 16+B) * 2 ^ 8 from by omega,o2,show (A * 16+B) * 2 ^ 8+C * 16=(A * 256+B * 16+C) * 2 ^ 4 from by omega,o3]
 have w5:wrap32 (((A * 256+B * 16+C) * 2 ^ 4+D:Nat):Int)=(((A * 256+B * 16+C) * 2 ^ 4+D:Nat):Int):=by unfold wrap32;omega
 rw [w5]
 omega
def hxx (a:Int):Int:=if Dg a then hx a else -1
theorem hxx_dg {a:Int} (h:Dg a):hxx a=hx a:=if_pos h
def uvx (a b c d:Int):Int:=wrap32 (Go.bits .or .i64 (Go.bits .or .i64 (Go.bits .or .i64 (wrap64 (hxx a * 4096)) (wrap64 (hxx b * 256))) (wrap64 (hxx c * 16))) (hxx d))
theorem uvx_dg {a b c d:Int} (ha:Dg a) (hb:Dg b) (hc:Dg c) (hd:Dg d):uvx a b c d=uv a b c d:=by
 unfold uvx uv;rw [hxx_dg ha,hxx_dg hb,hxx_dg hc,hxx_dg hd]
theorem or_pos (x y:Int) (hx:0≤x∧x≤9223372036854775807) (hy:0≤y∧y≤9223372036854775807):0≤Go.bits .or .i64 x y∧Go.bits .or .i64 x y≤9223372036854775807:=by
 have h1:((BitVec.ofInt 64 x).toNat:Int)=x:=by rw [BitVec.toNat_ofInt];omega
 have h2:((BitVec.ofInt 64 y).toNat:Int)=y:=by rw [BitVec.toNat_ofInt];omega
 have hB:Go.bits .or .i64 x y=wrap64 (((BitVec.ofInt 64 x).toNat ||| (BitVec.ofInt 64 y).toNat:Nat):Int):=or_nat x y
 have h3:(BitVec.ofInt 64 x).toNat ||| (BitVec.ofInt 64 y).toNat < 2 ^ 63:=Nat.or_lt_two_pow (by omega) (by omega)
 rw [hB,w64 (by omega) (by omega)]
 omega
theorem uvx_bad {a b c d:Int} (h:¬ (Dg a∧Dg b∧Dg c∧Dg d)):uvx a b c d < 0:=by
 have L:∀ a:Int,(hxx a=-1∧¬ Dg a)∨(0≤hxx a∧hxx a≤15∧Dg a):=by
  intro a
  unfold hxx
  by_cases hd:Dg a
  ·rw [if_pos hd];exact .inr ⟨(hx_lo hd).1,(hx_lo hd).2,hd⟩
  ·rw [if_neg hd];exact .inl ⟨rfl,hd⟩
 have la:=L a;have lb:=L b;have lc:=L c;have ld:=L d
 unfold uvx
 rw [w64 (x:=hxx a * 4096) (by omega) (by omega),w64 (x:=hxx b * 256) (by omega) (by omega),w64 (x:=hxx c * 16) (by omega) (by omega)]
 have s1:(-4096≤Go.bits .or .i64 (hxx a * 4096) (hxx b * 256)∧Go.bits .or .i64 (hxx a * 4096) (hxx b * 256) < 0∧¬ (Dg a∧Dg b))∨(0≤Go.bits .or .i64 (hxx a * 4096) (hxx b * 256)∧Go.bits .or .i64 (hxx a * 4096) (hxx b * 256)≤9223372036854775807∧Dg a∧Dg b):=by
  by_cases hn:hxx a * 4096 < 0∨hxx b * 256 < 0
  ·have:=or_neg _ _ (by omega) (by omega) hn
   refine .inl ⟨by omega,by omega,fun ⟨h1,h2⟩=>?_⟩
   rcases la with la | la <;> rcases lb with lb | lb <;> first | exact la.2 h1 | exact lb.2 h2 | omega
  ·have:=or_pos (hxx a * 4096) (hxx b * 256) (by omega) (by omega)
   refine .inr ⟨by omega,by omega,?_⟩
   rcases la with la | la <;> rcases lb with lb | lb <;> first | exact ⟨la.2.2,lb.2.2⟩ | omega
 generalize Go.bits .or .i64 (hxx a * 4096) (hxx b * 256)=X at *
 have s2:(-4096≤Go.bits .or .i64 X (hxx c * 16)∧Go.bits .or .i64 X (hxx c * 16) < 0∧¬ (Dg a∧Dg b∧Dg c))∨(0≤Go.bits .or .i64 X (hxx c * 16)∧Go.bits .or .i64 X (hxx c * 16)≤9223372036854775807∧Dg a∧Dg b∧Dg c):=by
  by_cases hn:X < 0∨hxx c * 16 < 0
  ·have:=or_neg X (hxx c * 16) (by omega) (by omega) hn
   refine .inl ⟨by omega,by omega,fun ⟨h1,h2,h3⟩=>?_⟩
   rcases s1 with s1 | s1 <;> rcases lc with lc | lc <;> first | exact s1.2.2 ⟨h1,h2⟩ | exact lc.2 h3 | omega
  ·have:=or_pos X (hxx c * 16) (by omega) (by omega)
   refine .inr ⟨by omega,by omega,?_⟩
   rcases s1 with s1 | s1 <;> rcases lc with lc | lc <;> first | exact ⟨s1.2.2.1,s1.2.2.2,lc.2.2⟩ | omega
 generalize Go.bits .or .i64 X (hxx c * 16)=Y at *
 have s3:-4096≤Go.bits .or .i64 Y (hxx d)∧Go.bits .or .i64 Y (hxx d) < 0:=by
  have hn:Y < 0∨hxx d < 0:=by
   rcases s2 with s2 | s2
   ·exact .inl s2.2.1
   ·rcases ld with ld | ld
    ·exact .inr (by omega)
    ·exact absurd ⟨s2.2.2.1,s2.2.2.2.1,s2.2.2.2.2,ld.2.2⟩ h
  have:=or_neg Y (hxx d) (by omega) (by omega) hn
  omega
 generalize Go.bits .or .i64 Y (hxx d)=Z at *
 unfold wrap32;omega
set_option maxRecDepth 100000 in
theorem char2hex_walk (a:Int) (ha:0≤a∧a≤255) (w:World):Calls Tryz.prog 165 #[.int .i32 a] w fun e w'=>e=.returned (.int .i64 (hxx a))∧w'=w:=by
 have hc:(decide (48≤a)=true∧decide (a≤57)=true∧hxx a=a - 48)∨(((decide (48≤a)=false)∨(decide (48≤a)=true∧decide (a≤57)=false))∧((decide (65≤a)=true∧decide (a≤70)=true∧hxx a=a - 55)∨((decide (65≤a)=false∨(decide (65≤a)=true∧decide (a≤70)=false))∧((decide (97≤a)=true∧decide (a≤102)=true∧hxx a=a - 87)∨((decide (97≤a)=false∨(decide (97≤a)=true∧decide (a≤102)=false))∧hxx a=-1))))):=by
  simp only [decide_eq_true_eq,decide_eq_false_iff_not]
  unfold hxx hx Dg
  by_cases h1:48≤a <;> by_cases h2:a≤57 <;> by_cases h3:65≤a <;> by_cases h4:a≤70 <;> by_cases h5:97≤a <;> by_cases h6:a≤102 <;> simp [h1,h2,h3,h4,h5,h6] <;> omega
 have e5:wrap64 a=a:=w64 (by omega) (by omega)
 have e6:wrap64 (a - 48)=a - 48:=w64 (by omega) (by omega)
 have e7:wrap64 (a - 55)=a - 55:=w64 (by omega) (by omega)
 have e8:wrap64 (a - 87)=a - 87:=w64 (by omega) (by omega)
 clear ha
 rcases hc with ⟨e0,e1,e2⟩ | ⟨e0 | ⟨e0,e1⟩,⟨f0,f1,e2⟩ | ⟨f0 | ⟨f0,f1⟩,⟨g0,g1,e2⟩ | ⟨g0 | ⟨g0,g1⟩,e2⟩⟩⟩
 all_goals
  rw [e2]
  clear e2
  go_enter Tryz.func165,Tryz.ntmps165
  go_wp2
  repeat (go_quiet (fail);try go_wp2)
  go_ret
  exact ⟨by simp [e5,e6,e7,e8],rfl⟩
set_option maxHeartbeats 4000000 in
set_option maxRecDepth 100000 in
theorem uni_walk (a b c d:Int) (ha:0≤a∧a≤255) (hb:0≤b∧b≤255) (hc:0≤c∧c≤255) (hd:0≤d∧d≤255) (w:World):Calls Tryz.prog 151 #[.int .i32 a,.int .i32 b,.int .i32 c,.int .i32 d] w fun e w'=>e=.returned (.int .i32 (uvx a b c d))∧w'=w:=by
 have ca:=char2hex_walk a ha w
 have cb:=char2hex_walk b hb w
 have cc:=char2hex_walk c hc w
 have cd:=char2hex_walk d hd w
 clear ha hb hc hd
 go_enter Tryz.func151,Tryz.ntmps151
 go_wp2_with (first | (go_at_call 165;(first | (with_reducible refine ca.mono ?_) | (with_reducible refine cb.mono ?_) | (with_reducible refine cc.mono ?_) | (with_reducible refine cd.mono ?_));rintro e w' ⟨rfl,rfl⟩))
 go_ret
 exact ⟨rfl,rfl⟩
theorem dr_cons (t:ByteArray) (p:Nat) (b:UInt8) (r:List UInt8) (h:dr t p=b :: r):p < t.size∧bt t p=(b.toNat:Int)∧dr t (p+1)=r:=by
 unfold dr at h ⊢
 have hl:p < t.data.toList.length:=by
  refine Nat.lt_of_not_le fun hn=>?_
  rw [List.drop_eq_nil_of_le hn] at h
  cases h
 rw [List.drop_eq_getElem_cons hl] at h
 injection h with h1 h2
 have hs:p < t.size:=by simpa using hl
 refine ⟨hs,?_,h2⟩
 unfold bt
 rw [dif_pos (show ((p:Nat):Int).toNat < t.size by omega),← h1]
 simp only [Int.toNat_natCast]
 rfl
theorem dr_nil (t:ByteArray) (p:Nat) (h:dr t p=[]):t.size≤p:=by
 unfold dr at h
 have:=List.drop_eq_nil_iff.1 h
 simpa using this
theorem dr_byte (t:ByteArray) (p:Nat) (h:p < t.size):∃ b,dr t p=b :: dr t (p+1):=by
 have hl:p < t.data.toList.length:=by simpa using h
 exact ⟨_,List.drop_eq_getElem_cons hl⟩
theorem rn_low (t:ByteArray) (p:Nat) (c:Int) (hp:p < t.size) (h:bt t p=c) (hc:c < 128):rn t p=(c,1):=by
 unfold rn;rw [if_neg (by omega),if_pos (by omega),h]
theorem rn_high (t:ByteArray) (p:Nat) (hp:p < t.size) (h:128≤bt t p):∃ (c:Int) (k:Nat),rn t p=(c,(k:Int))∧128≤c∧1≤k∧p+k≤t.size∧∀ j:Nat,j < k→128≤bt t ((p+j:Nat):Int):=by
 obtain ⟨k,h1,h2,h3,h4⟩:=wide_at t p hp h
 have h5:=high_at t p hp h
 refine ⟨Int.ofNat (Go.Lib.decodeGo (t.extract p t.size)).1,k,?_,by simp only [Int.ofNat_eq_natCast];omega,h2,h3,h4⟩
 unfold rn
 rw [if_neg (by omega),if_neg (by omega),h1]
 rfl
theorem dr_fin (t:ByteArray):dr t t.size=[]:=List.drop_eq_nil_of_le (by simp)
theorem dr_inj (t:ByteArray) (a z:Nat) (ha:a≤t.size) (hz:z≤t.size) (h:dr t a=dr t z):a=z:=by
 have h1:=congrArg List.length h
 simp only [dr,List.length_drop,Array.length_toList,ByteArray.size_data] at h1
 omega
def QS (bad:Bool) (X e l r:List UInt8):Prop:=(bad=false∧∃ x,l++x=X∧Qt x r e)∨(bad=true∧Qb r)
theorem QS.cons {bad:Bool} {X e l r:List UInt8} {b:UInt8} (hp:Pl b) (h:QS bad X e l (b :: r)):QS bad X e (l++[b]) r:=by
 rcases h with ⟨h1,x,h2,h3⟩ | ⟨h1,h2⟩
 ·cases h3 with
  | done=>exact absurd hp (by unfold Pl;decide)
  | plain p q=>exact .inl ⟨h1,_,by rw [← h2,List.append_assoc];rfl,q⟩
  | esc1 p q=>exact absurd hp (by unfold Pl;decide)
  | escu p q=>exact absurd hp (by unfold Pl;decide)
 ·cases h2 with
  | ctl p p'=>exact absurd hp (by unfold Pl;omega)
  | plain p q=>exact .inr ⟨h1,q⟩
  | esc1 p q=>exact absurd hp (by unfold Pl;decide)
  | escu p q=>exact absurd hp (by unfold Pl;decide)
  | back=>exact absurd hp (by unfold Pl;decide)
  | bade p q=>exact absurd hp (by unfold Pl;decide)
  | badu p=>exact absurd hp (by unfold Pl;decide)
theorem qs_many (t:ByteArray) (bad:Bool) (X e:List UInt8):∀ (k p:Nat) (l:List UInt8),QS bad X e l (dr t p)→p+k≤t.size→(∀ j:Nat,j < k→128≤bt t ((p+j:Nat):Int))→QS bad X e (l++(dr t p).take k) (dr t (p+k)):=by
 intro k
 induction k with
 | zero=>intro p l h _ _;simpa using h
 | succ k ih =>
   intro p l h hk hb
   have h0:=hb 0 (by omega)
   rw [Nat.add_zero] at h0
   obtain ⟨b,hr⟩:=dr_byte t p (by omega)
   obtain ⟨q1,q2,q3⟩:=dr_cons t p _ _ hr
   rw [hr] at h
   have h2:=ih (p+1) (l++[b]) (h.cons (.inr ⟨by omega,by omega,by omega⟩)) (by omega) (fun j hj=>by have:=hb (j+1) (by omega);rw [show p+(j+1)=p+1+j by omega] at this;exact this)
   rw [show p+(k+1)=p+1+k by omega,hr,List.take_succ_cons]
   rw [List.append_assoc] at h2
   exact h2
def Ec (c:Int):Prop:=c=34∨c=47∨c=92∨c=98∨c=102∨c=110∨c=114∨c=116
theorem es_ec {c b:UInt8} (h:es c=some b):(c=34∧b=34)∨(c=47∧b=47)∨(c=92∧b=92)∨(c=98∧b=8)∨(c=102∧b=12)∨(c=110∧b=10)∨(c=114∧b=13)∨(c=116∧b=9):=by
 unfold es at h
 split at h <;> first | (rename_i h1;injection h with h;simp_all;done) | skip
 split at h <;> first | (rename_i h1;injection h with h;simp_all;done) | skip
 split at h <;> first | (rename_i h1;injection h with h;simp_all;done) | skip
 split at h <;> first | (rename_i h1;injection h with h;simp_all;done) | skip
 split at h <;> first | (rename_i h1;injection h with h;simp_all;done) | skip
 split at h <;> first | (rename_i h1;injection h with h;simp_all;done) | skip
 split at h <;> first | (rename_i h1;injection h with h;simp_all;done) | skip
 split at h <;> first | (rename_i h1;injection h with h;simp_all;done) | skip
 cases h
theorem es_none {c:UInt8} (h:es c=none):¬ Ec (c.toNat:Int):=by
 have k:∀ n:Nat,n < 256→(c.toNat:Int)=(n:Int)→c=UInt8.ofNat n:=fun n hn hc=>UInt8.toNat_inj.1 (by rw [UInt8.toNat_ofNat_of_lt' hn];omega)
 rintro (hc | hc | hc | hc | hc | hc | hc | hc)
 ·rw [k 34 (by decide) hc] at h;revert h;decide
 ·rw [k 47 (by decide) hc] at h;revert h;decide
 ·rw [k 92 (by decide) hc] at h;revert h;decide
 ·rw [k 98 (by decide) hc] at h;revert h;decide
 ·rw [k 102 (by decide) hc] at h;revert h;decide
 ·rw [k 110 (by decide) hc] at h;revert h;decide
 ·rw [k 114 (by decide) hc] at h;revert h;decide
 ·rw [k 116 (by decide) hc] at h;revert h;decide
theorem qs_step (t:ByteArray) (bad:Bool) (X e l:List UInt8) (p:Nat) (hps:p≤t.size) (h:QS bad X e l (dr t p)) :
 (bad=false∧l=X∧p < t.size∧rn t p=(34,1)∧dr t (p+1)=e) ∨
 (∃ (c:Int) (k:Nat),rn t p=(c,(k:Int))∧(1≤k∧p+k≤t.size)∧((c=9∨32≤c)∧c≠34∧c≠92)∧QS bad X e (l++(dr t p).take k) (dr t (p+k))) ∨
 (∃ (c b:UInt8),es c=some b∧rn t p=(92,1)∧rn t (p+1)=((c.toNat:Int),1)∧p+2≤t.size∧QS bad X e (l++[b]) (dr t (p+2))) ∨
 (∃ (a b c d:UInt8),(Dg a.toNat∧Dg b.toNat∧Dg c.toNat∧Dg d.toNat)∧rn t p=(92,1)∧rn t (p+1)=(117,1)∧(bt t ((p+2:Nat):Int)=(a.toNat:Int)∧bt t ((p+3:Nat):Int)=(b.toNat:Int)∧bt t ((p+4:Nat):Int)=(c.toNat:Int)∧bt t ((p+5:Nat):Int)=(d.toNat:Int))∧p+6≤t.size∧QS bad X e (l++Go.Lib.encodeRune (ud a b c d)) (dr t (p+6))) ∨
 (bad=true∧((p=t.size∧rn t p=(-1,65533))∨(∃ c:Int,rn t p=(c,1)∧p < t.size∧0≤c∧c < 32∧c≠9) ∨
  (∃ c k:Int,rn t p=(92,1)∧p+1≤t.size∧rn t (p+1)=(c,k)∧¬ Ec c∧c≠117) ∨
  (rn t p=(92,1)∧rn t (p+1)=(117,1)∧p+2≤t.size∧t.size≤p+5) ∨
  (∃ (a b c d:UInt8),¬ (Dg a.toNat∧Dg b.toNat∧Dg c.toNat∧Dg d.toNat)∧rn t p=(92,1)∧rn t (p+1)=(117,1)∧(bt t ((p+2:Nat):Int)=(a.toNat:Int)∧bt t ((p+3:Nat):Int)=(b.toNat:Int)∧bt t ((p+4:Nat):Int)=(c.toNat:Int)∧bt t ((p+5:Nat):Int)=(d.toNat:Int))∧p+6≤t.size))):=by
 have PLAIN:∀ (b:UInt8) (r:List UInt8),dr t p=b :: r→Pl b→(∃ (c:Int) (k:Nat),rn t p=(c,(k:Int))∧(1≤k∧p+k≤t.size)∧((c=9∨32≤c)∧c≠34∧c≠92)∧QS bad X e (l++(dr t p).take k) (dr t (p+k))):=by
  intro b r hr hp
  obtain ⟨q1,q2,q3⟩:=dr_cons t p _ _ hr
  by_cases hh:b.toNat < 128
  ·refine ⟨(b.toNat:Int),1,rn_low t p _ q1 q2 (by omega),⟨by omega,by omega⟩,?_,?_⟩
   ·rcases hp with hp | hp
    ·exact ⟨.inl (by omega),by omega,by omega⟩
    ·exact ⟨.inr (by omega),by omega,by omega⟩
   ·rw [hr] at h ⊢
    rw [q3]
    exact h.cons hp
  ·obtain ⟨c,k,e1,e2,e3,e4,e5⟩:=rn_high t p q1 (by rw [q2];omega)
   exact ⟨c,k,e1,⟨e3,e4⟩,⟨.inr (by omega),by omega,by omega⟩,qs_many t bad X e k p l h e4 e5⟩
 have B4:∀ (a b c d:UInt8) (r:List UInt8),dr t p=92 :: 117 :: a :: b :: c :: d :: r→rn t p=(92,1)∧rn t (p+1)=(117,1)∧(bt t ((p+2:Nat):Int)=(a.toNat:Int)∧bt t ((p+3:Nat):Int)=(b.toNat:Int)∧bt t ((p+4:Nat):Int)=(c.toNat:Int)∧bt t ((p+5:Nat):Int)=(d.toNat:Int))∧p+6≤t.size∧dr t (p+6)=r:=by
  intro a b c d r hr
  obtain ⟨q1,q2,q3⟩:=dr_cons t p _ _ hr
  obtain ⟨s1,s2,s3⟩:=dr_cons t (p+1) _ _ q3
  obtain ⟨u1,u2,u3⟩:=dr_cons t (p+1+1) _ _ s3
  obtain ⟨v1,v2,v3⟩:=dr_cons t (p+1+1+1) _ _ u3
  obtain ⟨w1,w2,w3⟩:=dr_cons t (p+1+1+1+1) _ _ v3
  obtain ⟨y1,y2,y3⟩:=dr_cons t (p+1+1+1+1+1) _ _ w3
  exact ⟨rn_low t p 92 q1 q2 (by decide),rn_low t (p+1) 117 s1 s2 (by decide),⟨u2,v2,w2,y2⟩,by omega,y3⟩
 have ESC:∀ (c b:UInt8) (r:List UInt8),dr t p=92 :: c :: r→es c=some b→rn t p=(92,1)∧rn t (p+1)=((c.toNat:Int),1)∧p+2≤t.size∧dr t (p+2)=r:=by
  intro c b r hr hc
  obtain ⟨q1,q2,q3⟩:=dr_cons t p _ _ hr
  obtain ⟨s1,s2,s3⟩:=dr_cons t (p+1) _ _ q3
  refine ⟨rn_low t p 92 q1 q2 (by decide),rn_low t (p+1) _ s1 s2 ?_,by omega,s3⟩
  rcases es_ec hc with h | h | h | h | h | h | h | h <;> rw [h.1] <;> decide
 rcases h with ⟨hb,x,hx,hq⟩ | ⟨hb,hq⟩
 ·generalize hr:dr t p=r at hq
  cases hq with
  | done =>
    obtain ⟨q1,q2,q3⟩:=dr_cons t p _ _ hr
    exact .inl ⟨hb,by simpa using hx,q1,rn_low t p 34 q1 q2 (by decide),q3⟩
  | plain hp hq=>exact .inr (.inl (by rw [← hr];exact PLAIN _ _ hr hp))
  | @esc1 c b x' r' _ hp hq =>
    obtain ⟨g1,g2,g3,g4⟩:=ESC _ _ _ hr hp
    exact .inr (.inr (.inl ⟨c,b,hp,g1,g2,g3,.inl ⟨hb,x',by rw [← hx,List.append_assoc];rfl,by rw [g4];exact hq⟩⟩))
  | @escu a b c d x' r' _ hd hq =>
    obtain ⟨g1,g2,g3,g4,g5⟩:=B4 _ _ _ _ _ hr
    exact .inr (.inr (.inr (.inl ⟨a,b,c,d,hd,g1,g2,g3,g4,.inl ⟨hb,x',by rw [← hx,List.append_assoc],by rw [g5];exact hq⟩⟩)))
 ·generalize hr:dr t p=r at hq
  cases hq with
  | fin =>
    have:=dr_nil t p hr
    exact .inr (.inr (.inr (.inr ⟨hb,.inl ⟨by omega,rn_end t p (by omega)⟩⟩)))
  | @ctl b r' h1 h2 =>
    obtain ⟨q1,q2,q3⟩:=dr_cons t p _ _ hr
    exact .inr (.inr (.inr (.inr ⟨hb,.inr (.inl ⟨(b.toNat:Int),rn_low t p _ q1 q2 (by omega),q1,by omega,by omega,by omega⟩)⟩)))
  | plain hp hq=>exact .inr (.inl (by rw [← hr];exact PLAIN _ _ hr hp))
  | @esc1 c b r' hp hq =>
    obtain ⟨g1,g2,g3,g4⟩:=ESC _ _ _ hr hp
    exact .inr (.inr (.inl ⟨c,b,hp,g1,g2,g3,.inr ⟨hb,by rw [g4];exact hq⟩⟩))
  | @escu a b c d r' hd hq =>
    obtain ⟨g1,g2,g3,g4,g5⟩:=B4 _ _ _ _ _ hr
    exact .inr (.inr (.inr (.inl ⟨a,b,c,d,hd,g1,g2,g3,g4,.inr ⟨hb,by rw [g5];exact hq⟩⟩)))
  | back =>
    obtain ⟨q1,q2,q3⟩:=dr_cons t p _ _ hr
    have:=dr_nil t (p+1) q3
    exact .inr (.inr (.inr (.inr ⟨hb,.inr (.inr (.inl ⟨-1,65533,rn_low t p 92 q1 q2 (by decide),q1,rn_end t (p+1) (by omega),by unfold Ec;decide,by decide⟩))⟩)))
  | @bade c r' h1 h2 =>
    obtain ⟨q1,q2,q3⟩:=dr_cons t p _ _ hr
    obtain ⟨s1,s2,s3⟩:=dr_cons t (p+1) _ _ q3
    refine .inr (.inr (.inr (.inr ⟨hb,.inr (.inr (.inl ?_))⟩)))
    by_cases hh:c.toNat < 128
    ·exact ⟨_,1,rn_low t p 92 q1 q2 (by decide),q1,rn_low t (p+1) _ s1 s2 (by omega),es_none h1,fun h=>h2 (UInt8.toNat_inj.1 (by have h:(c.toNat:Int)=117:=h;show c.toNat=117;omega))⟩
    ·obtain ⟨c',k,e1,e2,e3,e4,e5⟩:=rn_high t (p+1) s1 (by rw [s2];omega)
     exact ⟨c',k,rn_low t p 92 q1 q2 (by decide),q1,e1,by unfold Ec;omega,by omega⟩
  | @badu r' h1 =>
    obtain ⟨q1,q2,q3⟩:=dr_cons t p _ _ hr
    obtain ⟨s1,s2,s3⟩:=dr_cons t (p+1) _ _ q3
    refine .inr (.inr (.inr (.inr ⟨hb,.inr (.inr (.inr ?_))⟩)))
    by_cases hz:t.size≤p+5
    ·exact .inl ⟨rn_low t p 92 q1 q2 (by decide),rn_low t (p+1) 117 s1 s2 (by decide),by omega,hz⟩
    ·obtain ⟨a,ea⟩:=dr_byte t (p+1+1) (by omega)
     obtain ⟨b,eb⟩:=dr_byte t (p+1+1+1) (by omega)
     obtain ⟨c,ec⟩:=dr_byte t (p+1+1+1+1) (by omega)
     obtain ⟨d,ed⟩:=dr_byte t (p+1+1+1+1+1) (by omega)
     have e9:r'=a :: b :: c :: d :: dr t (p+1+1+1+1+1+1):=by rw [← s3,ea,eb,ec,ed]
     subst e9
     obtain ⟨g1,g2,g3,g4,g5⟩:=B4 _ _ _ _ _ hr
     exact .inr ⟨a,b,c,d,h1,g1,g2,g3,g4⟩
set_option maxHeartbeats 4000000 in
set_option maxRecDepth 100000 in
theorem runeAt_far (s:ByteArray) (b cap:Nat) (w:World) (i:Nat) (h1:s.size≤i) :
 Calls Tryz.prog 129 #[.slice (some ⟨b,0,none⟩) s.size cap,.int .i64 i] w fun e w'=>e=.returned (.tuple #[.int .i32 (rn s i).1,.int .i64 (rn s i).2])∧Below w.heap.size w w':=by
 have e1:decide ((s.size:Int)≤(i:Int))=true:=decide_eq_true (by omega)
 have er:rn s i=(-1,65533):=by unfold rn;rw [if_pos h1]
 rw [er]
 clear er
 go_enter Tryz.func129,Tryz.ntmps129
 go_wp2
 repeat (go_quiet (fail);try go_wp2)
 go_ret2
 exact ⟨rfl,by repeat (first | exact Below.refl _ _ | apply below_alloc | apply pw_below_drewN | apply below_drew1)⟩
theorem runeAt_any {w:World} {g b cap:Nat} {s:ByteArray} (h:Src w g b cap s) (i:Nat) :
 Calls Tryz.prog 129 #[.slice (some ⟨b,0,none⟩) s.size cap,.int .i64 i] w fun e w'=>e=.returned (.tuple #[.int .i32 (rn s i).1,.int .i64 (rn s i).2])∧Below w.heap.size w w':=by
 by_cases hi:i≤s.size
 ·exact runeAt_src h i hi
 ·exact runeAt_far s b cap w i (by omega)
end Go.Proofs.YthgcghpcikbnkaaGreatDoor.R
