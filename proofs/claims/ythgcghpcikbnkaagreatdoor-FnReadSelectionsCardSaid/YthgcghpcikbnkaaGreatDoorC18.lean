/- A part of the proof of the theorem of this claim: Rt1, Rt2. No condition of its own. -/
import Derived.Test.YthgcghpcikbnkaaGreatDoorC14
set_option maxHeartbeats 16000000
set_option maxRecDepth 100000
namespace Go.Proofs.YthgcghpcikbnkaaGreatDoor.R
open Go.RowKit Go.Proofs.YthgcghpcikbnkaaGreatDoorW.PrintWords Go.Proofs.YthgcghpcikbnkaaGreatDoorW.PrintLast Go.Proofs.YthgcghpcikbnkaaGreatDoorW.PrintMore
set_option linter.unusedVariables false
set_option linter.unusedSimpArgs false
theorem scn_le (s:ByteArray):∀ (f:Nat) (b:Bool) (i q:Nat),i≤s.size→scn s f b i=some q→i≤q∧q≤s.size∧(q < s.size→b=false→isBl (bt s q)=false∧bt s q≠35∧bomAt s q=false)∧(q < s.size→isBl (bt s q)=false∧bt s q≠35∧bomAt s q=false):=by
 intro f
 induction f with
 | zero=>intro b i q _ h;cases b <;> cases h
 | succ f ih =>
   intro b i q hi h
   cases b with
   | false =>
     simp only [scn] at h
     split at h
     ·rename_i hlt
      split at h
      ·have:=ih false (i+1) q hlt h;exact ⟨by omega,this.2.1,this.2.2.1,this.2.2.2⟩
      ·rename_i h1
       split at h
       ·have:=ih true (i+1) q hlt h;exact ⟨by omega,this.2.1,fun hq _=>this.2.2.2 hq,this.2.2.2⟩
       ·rename_i h2
        split at h
        ·cases h
        ·rename_i h3
         injection h with h
         subst h
         have h3':bomAt s i=false:=Bool.not_eq_true _ ▸ h3
         have h1':isBl (bt s i)=false:=Bool.not_eq_true _ ▸ h1
         exact ⟨Nat.le_refl _,hi,fun _ _=>⟨h1',h2,h3'⟩,fun _=>⟨h1',h2,h3'⟩⟩
     ·injection h with h;subst h;exact ⟨Nat.le_refl _,hi,fun hq=>by omega,fun hq=>by omega⟩
   | true =>
     simp only [scn] at h
     split at h
     ·rename_i hlt
      split at h
      ·have:=ih false (i+1) q hlt h;exact ⟨by omega,this.2.1,fun hq=>fun _=>this.2.2.2 hq,this.2.2.2⟩
      ·split at h
       ·cases h
       ·have:=ih true (i+1) q hlt h;exact ⟨by omega,this.2.1,fun hq=>fun _=>this.2.2.2 hq,this.2.2.2⟩
     ·injection h with h;subst h;exact ⟨Nat.le_refl _,hi,fun hq=>by omega,fun hq=>by omega⟩
theorem sc_at {s:ByteArray} {p q:Nat} (h:Sc s false p=some q):p≤s.size:=by
 unfold Sc at h
 refine Nat.le_of_not_lt fun hn=>?_
 rw [show s.size+1 - p=0 by omega] at h
 cases h
theorem sc_le {s:ByteArray} {p q:Nat} (h:Sc s false p=some q):p≤q∧q≤s.size∧(q < s.size→isBl (bt s q)=false∧bt s q≠35∧bomAt s q=false):=by
 have hp:=sc_at h
 unfold Sc at h
 have:=scn_le s _ _ _ _ hp h
 exact ⟨this.1,this.2.1,this.2.2.2⟩
theorem rtk_end {w:World} {g b cap:Nat} {s:ByteArray} (h:Src w g b cap s) (p q:Nat) (hsc:Sc s false p=some q) (hq:s.size≤q) :
 Calls Tryz.prog 99 #[.pointer (some ⟨g,0,none⟩),.int .i64 p] w fun e w'=>e=.returned (.tuple #[.agg #[.int .i64 1,.int .i64 s.size,.int .i64 s.size,.string ⟨#[]⟩],.nilIface])∧Below w.heap.size w w':=by
 have HS:=mkA h
 have HSM:=mkA h.small
 have hp:=sc_at hsc
 have HQL:=mkA (sc_le hsc).2.1
 have HPW:=mkA (fun (w:World) (hs:Src w g b cap s)=>paw_walk s b cap w hs.glob hs.small hs.cap hs.bytes p hp q hsc)
 obtain rfl:q=s.size:=by have:=HQL.out;omega
 have HB:=mkA (Below.refl w.heap.size w)
 have M1:=mkA True.intro
 clear h hsc hp hq
 go_enter Tryz.func99,Tryz.ntmps99
 go_wp2_with (first
  | ((with_reducible refine gate_dst (N:=4) rfl ?_);refine bxz ?hr ?_;(case hr=>first | (go_simp;done) | (go_simp;rfl));intro gb hg w2 hbox hb;have n0_:=mkA (below_step HB.out hb);have GE:=mkA ((by rw [hg];exact below_size HB.out:w.heap.size≤gb));clear HB;have HB:=n0_;have BK:=mkA hbox;clear n0_ hb hbox hg;have hc0:=(HS.out.below HB.out).body)
  | (go_at_call 127;(with_reducible refine (HPW.out _ (HS.out.below HB.out)).mono ?_);rintro e w3 ⟨rfl,hB⟩;replace HB:=mkA (below_step HB.out hB);replace BK:=mkA (blk_below BK.out hB);clear hB)
  | (go_at_call 128;(with_reducible refine (makeToken_walk 1 (s.size:Int) (s.size:Int) _ _).mono ?_);rintro e w6 ⟨rfl,hB⟩;replace HB:=mkA (below_step HB.out hB);replace BK:=mkA (blk_below BK.out hB);clear hB;obtain ⟨hz0,hz1,hz2,hz3,hf0,hf1,hf2,hf3⟩:=tkz BK.out))
 refine bodyPost_ret (results_ct rfl _ _ gb 63 #[.int .i64 1,.int .i64 s.size,.int .i64 s.size,.string ⟨#[]⟩] (0,0) _ rfl (by exact tkp BK.out) Tryz.underlying63 rfl (by kernel_rfl)) rfl ?_
 exact ⟨rfl,below_set (below_set (below_set (below_set (HB.out) GE.out) GE.out) GE.out) GE.out⟩
theorem sg_cases {c k:Int} (h:sg c=k) (hk:k≠0):(c=33∧k=2)∨(c=36∧k=3)∨(c=40∧k=4)∨(c=41∧k=5)∨(c=58∧k=7)∨(c=61∧k=8)∨(c=64∧k=9)∨(c=91∧k=10)∨(c=93∧k=11)∨(c=123∧k=12)∨(c=124∧k=13)∨(c=125∧k=14)∨(c=38∧k=20):=by
 unfold sg at h
 by_cases h0:c=33
 ·rw [if_pos h0] at h;exact .inl ⟨h0,h.symm⟩
 rw [if_neg h0] at h
 by_cases h1:c=36
 ·rw [if_pos h1] at h;exact .inr (.inl ⟨h1,h.symm⟩)
 rw [if_neg h1] at h
 by_cases h2:c=40
 ·rw [if_pos h2] at h;exact .inr (.inr (.inl ⟨h2,h.symm⟩))
 rw [if_neg h2] at h
 by_cases h3:c=41
 ·rw [if_pos h3] at h;exact .inr (.inr (.inr (.inl ⟨h3,h.symm⟩)))
 rw [if_neg h3] at h
 by_cases h4:c=58
 ·rw [if_pos h4] at h;exact .inr (.inr (.inr (.inr (.inl ⟨h4,h.symm⟩))))
 rw [if_neg h4] at h
 by_cases h5:c=61
 ·rw [if_pos h5] at h;exact .inr (.inr (.inr (.inr (.inr (.inl ⟨h5,h.symm⟩)))))
 rw [if_neg h5] at h
 by_cases h6:c=64
 ·rw [if_pos h6] at h;exact .inr (.inr (.inr (.inr (.inr (.inr (.inl ⟨h6,h.symm⟩))))))
 rw [if_neg h6] at h
 by_cases h7:c=91
 ·rw [if_pos h7] at h;exact .inr (.inr (.inr (.inr (.inr (.inr (.inr (.inl ⟨h7,h.symm⟩)))))))
 rw [if_neg h7] at h
 by_cases h8:c=93
 ·rw [if_pos h8] at h;exact .inr (.inr (.inr (.inr (.inr (.inr (.inr (.inr (.inl ⟨h8,h.symm⟩))))))))
 rw [if_neg h8] at h
 by_cases h9:c=123
 ·rw [if_pos h9] at h;exact .inr (.inr (.inr (.inr (.inr (.inr (.inr (.inr (.inr (.inl ⟨h9,h.symm⟩)))))))))
 rw [if_neg h9] at h
 by_cases h10:c=124
 ·rw [if_pos h10] at h;exact .inr (.inr (.inr (.inr (.inr (.inr (.inr (.inr (.inr (.inr (.inl ⟨h10,h.symm⟩))))))))))
 rw [if_neg h10] at h
 by_cases h11:c=125
 ·rw [if_pos h11] at h;exact .inr (.inr (.inr (.inr (.inr (.inr (.inr (.inr (.inr (.inr (.inr (.inl ⟨h11,h.symm⟩)))))))))))
 rw [if_neg h11] at h
 by_cases h12:c=38
 ·rw [if_pos h12] at h;exact .inr (.inr (.inr (.inr (.inr (.inr (.inr (.inr (.inr (.inr (.inr (.inr (⟨h12,h.symm⟩))))))))))))
 rw [if_neg h12] at h
 exact absurd h.symm hk
theorem rtk_sign {w:World} {g b cap:Nat} {s:ByteArray} (h:Src w g b cap s) (p q:Nat) (hsc:Sc s false p=some q) (hq:q < s.size) (k:Int) (hk:sg (bt s q)=k) (hk0:k≠0) :
 Calls Tryz.prog 99 #[.pointer (some ⟨g,0,none⟩),.int .i64 p] w fun e w'=>e=.returned (.tuple #[.agg #[.int .i64 k,.int .i64 q,.int .i64 (q+1:Nat),.string ⟨#[]⟩],.nilIface])∧Below w.heap.size w w':=by
 have HS:=mkA h
 have HSM:=mkA h.small
 have hp:=sc_at hsc
 have HQL:=mkA (sc_le hsc).2.1
 have HPW:=mkA (fun (w:World) (hs:Src w g b cap s)=>paw_walk s b cap w hs.glob hs.small hs.cap hs.bytes p hp q hsc)
 have hr:=rn_low s q _ hq rfl (show bt s q < 128 by rcases sg_cases hk hk0 with h | h | h | h | h | h | h | h | h | h | h | h | h <;> omega)
 have hcc:=sg_cases hk hk0
 generalize bt s q=c at hr hcc
 have q1:((s.size:Int)≤(q:Int))=False:=eq_false (by omega)
 have q2:decide ((s.size:Int)≤(q:Int))=false:=decide_eq_false (by omega)
 have q3:(s.size≤q)=False:=eq_false (by omega)
 have C0:=mkA (fun (w:World) (hs:Src w g b cap s)=>(show Calls Tryz.prog 129 #[.slice (some ⟨b,0,none⟩) s.size cap,.int .i64 q] w fun e w'=>e=.returned (.tuple #[.int .i32 c,.int .i64 1])∧Below w.heap.size w w' by
  have h:=runeAt_any hs q
  rw [hr] at h
  exact h))
 have w1:wrap64 ((q:Int)+1)=((q+1:Nat):Int):=pl1 q (by have:=HSM.out;have:=HQL.out;omega)
 have HB:=mkA (Below.refl w.heap.size w)
 have M1:=mkA True.intro
 clear h hsc hp hq hr hk hk0
 rcases hcc with ⟨rfl,rfl⟩ | ⟨rfl,rfl⟩ | ⟨rfl,rfl⟩ | ⟨rfl,rfl⟩ | ⟨rfl,rfl⟩ | ⟨rfl,rfl⟩ | ⟨rfl,rfl⟩ | ⟨rfl,rfl⟩ | ⟨rfl,rfl⟩ | ⟨rfl,rfl⟩ | ⟨rfl,rfl⟩ | ⟨rfl,rfl⟩ | ⟨rfl,rfl⟩
 all_goals
  go_enter Tryz.func99,Tryz.ntmps99
  go_wp2_with (first
   | ((with_reducible refine gate_dst (N:=4) rfl ?_);refine bxz ?hr ?_;(case hr=>first | (go_simp;done) | (go_simp;rfl));intro gb hg w2 hbox hb;have n0_:=mkA (below_step HB.out hb);have GE:=mkA ((by rw [hg];exact below_size HB.out:w.heap.size≤gb));clear HB;have HB:=n0_;have BK:=mkA hbox;clear n0_ hb hbox hg;have hc0:=(HS.out.below HB.out).body)
   | (go_at_call 127;(with_reducible refine (HPW.out _ (HS.out.below HB.out)).mono ?_);rintro e w3 ⟨rfl,hB⟩;replace HB:=mkA (below_step HB.out hB);replace BK:=mkA (blk_below BK.out hB);clear hB)
   | (clear M1;go_at_call 129;(with_reducible refine (C0.out _ (HS.out.below HB.out)).mono ?_);rintro e w4 ⟨rfl,hB⟩;replace HB:=mkA (below_step HB.out hB);replace BK:=mkA (blk_below BK.out hB);clear hB)
   | (go_at_call 128;(with_reducible refine (makeToken_walk _ (q:Int) _ _ _).mono ?_);rintro e w6 ⟨rfl,hB⟩;replace HB:=mkA (below_step HB.out hB);replace BK:=mkA (blk_below BK.out hB);clear hB;obtain ⟨hz0,hz1,hz2,hz3,hf0,hf1,hf2,hf3⟩:=tkz BK.out))
 ·refine bodyPost_ret (results_ct rfl _ _ gb 63 #[.int .i64 2,.int .i64 q,.int .i64 (q+1:Nat),.string ⟨#[]⟩] (0,0) _ rfl (by exact tkp BK.out) Tryz.underlying63 rfl (by kernel_rfl)) rfl ?_
  exact ⟨rfl,below_set (below_set (below_set (below_set (HB.out) GE.out) GE.out) GE.out) GE.out⟩
 ·refine bodyPost_ret (results_ct rfl _ _ gb 63 #[.int .i64 3,.int .i64 q,.int .i64 (q+1:Nat),.string ⟨#[]⟩] (0,0) _ rfl (by exact tkp BK.out) Tryz.underlying63 rfl (by kernel_rfl)) rfl ?_
  exact ⟨rfl,below_set (below_set (below_set (below_set (HB.out) GE.out) GE.out) GE.out) GE.out⟩
 ·refine bodyPost_ret (results_ct rfl _ _ gb 63 #[.int .i64 4,.int .i64 q,.int .i64 (q+1:Nat),.string ⟨#[]⟩] (0,0) _ rfl (by exact tkp BK.out) Tryz.underlying63 rfl (by kernel_rfl)) rfl ?_
  exact ⟨rfl,below_set (below_set (below_set (below_set (HB.out) GE.out) GE.out) GE.out) GE.out⟩
 ·refine bodyPost_ret (results_ct rfl _ _ gb 63 #[.int .i64 5,.int .i64 q,.int .i64 (q+1:Nat),.string ⟨#[]⟩] (0,0) _ rfl (by exact tkp BK.out) Tryz.underlying63 rfl (by kernel_rfl)) rfl ?_
  exact ⟨rfl,below_set (below_set (below_set (below_set (HB.out) GE.out) GE.out) GE.out) GE.out⟩
 ·refine bodyPost_ret (results_ct rfl _ _ gb 63 #[.int .i64 7,.int .i64 q,.int .i64 (q+1:Nat),.string ⟨#[]⟩] (0,0) _ rfl (by exact tkp BK.out) Tryz.underlying63 rfl (by kernel_rfl)) rfl ?_
  exact ⟨rfl,below_set (below_set (below_set (below_set (HB.out) GE.out) GE.out) GE.out) GE.out⟩
 ·refine bodyPost_ret (results_ct rfl _ _ gb 63 #[.int .i64 8,.int .i64 q,.int .i64 (q+1:Nat),.string ⟨#[]⟩] (0,0) _ rfl (by exact tkp BK.out) Tryz.underlying63 rfl (by kernel_rfl)) rfl ?_
  exact ⟨rfl,below_set (below_set (below_set (below_set (HB.out) GE.out) GE.out) GE.out) GE.out⟩
 ·refine bodyPost_ret (results_ct rfl _ _ gb 63 #[.int .i64 9,.int .i64 q,.int .i64 (q+1:Nat),.string ⟨#[]⟩] (0,0) _ rfl (by exact tkp BK.out) Tryz.underlying63 rfl (by kernel_rfl)) rfl ?_
  exact ⟨rfl,below_set (below_set (below_set (below_set (HB.out) GE.out) GE.out) GE.out) GE.out⟩
 ·refine bodyPost_ret (results_ct rfl _ _ gb 63 #[.int .i64 10,.int .i64 q,.int .i64 (q+1:Nat),.string ⟨#[]⟩] (0,0) _ rfl (by exact tkp BK.out) Tryz.underlying63 rfl (by kernel_rfl)) rfl ?_
  exact ⟨rfl,below_set (below_set (below_set (below_set (HB.out) GE.out) GE.out) GE.out) GE.out⟩
 ·refine bodyPost_ret (results_ct rfl _ _ gb 63 #[.int .i64 11,.int .i64 q,.int .i64 (q+1:Nat),.string ⟨#[]⟩] (0,0) _ rfl (by exact tkp BK.out) Tryz.underlying63 rfl (by kernel_rfl)) rfl ?_
  exact ⟨rfl,below_set (below_set (below_set (below_set (HB.out) GE.out) GE.out) GE.out) GE.out⟩
 ·refine bodyPost_ret (results_ct rfl _ _ gb 63 #[.int .i64 12,.int .i64 q,.int .i64 (q+1:Nat),.string ⟨#[]⟩] (0,0) _ rfl (by exact tkp BK.out) Tryz.underlying63 rfl (by kernel_rfl)) rfl ?_
  exact ⟨rfl,below_set (below_set (below_set (below_set (HB.out) GE.out) GE.out) GE.out) GE.out⟩
 ·refine bodyPost_ret (results_ct rfl _ _ gb 63 #[.int .i64 13,.int .i64 q,.int .i64 (q+1:Nat),.string ⟨#[]⟩] (0,0) _ rfl (by exact tkp BK.out) Tryz.underlying63 rfl (by kernel_rfl)) rfl ?_
  exact ⟨rfl,below_set (below_set (below_set (below_set (HB.out) GE.out) GE.out) GE.out) GE.out⟩
 ·refine bodyPost_ret (results_ct rfl _ _ gb 63 #[.int .i64 14,.int .i64 q,.int .i64 (q+1:Nat),.string ⟨#[]⟩] (0,0) _ rfl (by exact tkp BK.out) Tryz.underlying63 rfl (by kernel_rfl)) rfl ?_
  exact ⟨rfl,below_set (below_set (below_set (below_set (HB.out) GE.out) GE.out) GE.out) GE.out⟩
 ·refine bodyPost_ret (results_ct rfl _ _ gb 63 #[.int .i64 20,.int .i64 q,.int .i64 (q+1:Nat),.string ⟨#[]⟩] (0,0) _ rfl (by exact tkp BK.out) Tryz.underlying63 rfl (by kernel_rfl)) rfl ?_
  exact ⟨rfl,below_set (below_set (below_set (below_set (HB.out) GE.out) GE.out) GE.out) GE.out⟩
theorem rtk_upper {w:World} {g b cap:Nat} {s:ByteArray} (h:Src w g b cap s) (p q:Nat) (hsc:Sc s false p=some q) (hq:q < s.size) (hb:bt s q=65∨bt s q=66∨bt s q=67∨bt s q=68∨bt s q=69∨bt s q=70∨bt s q=71∨bt s q=72∨bt s q=73∨bt s q=74∨bt s q=75∨bt s q=76∨bt s q=77∨bt s q=78∨bt s q=79∨bt s q=80∨bt s q=81∨bt s q=82∨bt s q=83∨bt s q=84∨bt s q=85∨bt s q=86∨bt s q=87∨bt s q=88∨bt s q=89∨bt s q=90) :
 Calls Tryz.prog 99 #[.pointer (some ⟨g,0,none⟩),.int .i64 p] w fun e w'=>e=.returned (.tuple #[.agg #[.int .i64 15,.int .i64 q,.int .i64 (nm s (q+1):Nat),.string (s.extract q (nm s (q+1)))],.nilIface])∧Below w.heap.size w w':=by
 have HS:=mkA h
 have HSM:=mkA h.small
 have hp:=sc_at hsc
 have HQL:=mkA (sc_le hsc).2.1
 have HPW:=mkA (fun (w:World) (hs:Src w g b cap s)=>paw_walk s b cap w hs.glob hs.small hs.cap hs.bytes p hp q hsc)
 have hr:=rn_low s q _ hq rfl (show bt s q < 128 by omega)
 have CN:=mkA (fun (w:World) (hs:Src w g b cap s)=>readName_walk hs q hq)
 generalize bt s q=c at hr hb
 have q1:((s.size:Int)≤(q:Int))=False:=eq_false (by omega)
 have q2:decide ((s.size:Int)≤(q:Int))=false:=decide_eq_false (by omega)
 have q3:(s.size≤q)=False:=eq_false (by omega)
 have C0:=mkA (fun (w:World) (hs:Src w g b cap s)=>(show Calls Tryz.prog 129 #[.slice (some ⟨b,0,none⟩) s.size cap,.int .i64 q] w fun e w'=>e=.returned (.tuple #[.int .i32 c,.int .i64 1])∧Below w.heap.size w w' by
  have h:=runeAt_any hs q
  rw [hr] at h
  exact h))
 have HB:=mkA (Below.refl w.heap.size w)
 have M1:=mkA True.intro
 clear h hsc hp hq hr
 rcases hb with rfl | rfl | rfl | rfl | rfl | rfl | rfl | rfl | rfl | rfl | rfl | rfl | rfl | rfl | rfl | rfl | rfl | rfl | rfl | rfl | rfl | rfl | rfl | rfl | rfl | rfl
 all_goals
  go_enter Tryz.func99,Tryz.ntmps99
  go_wp2_with (first
   | ((with_reducible refine gate_dst (N:=4) rfl ?_);refine bxz ?hr ?_;(case hr=>first | (go_simp;done) | (go_simp;rfl));intro gb hg w2 hbox hb;have n0_:=mkA (below_step HB.out hb);have GE:=mkA ((by rw [hg];exact below_size HB.out:w.heap.size≤gb));clear HB;have HB:=n0_;have BK:=mkA hbox;clear n0_ hb hbox hg;have hc0:=(HS.out.below HB.out).body)
   | (go_at_call 127;(with_reducible refine (HPW.out _ (HS.out.below HB.out)).mono ?_);rintro e w3 ⟨rfl,hB⟩;replace HB:=mkA (below_step HB.out hB);replace BK:=mkA (blk_below BK.out hB);clear hB)
   | (clear M1;go_at_call 129;(with_reducible refine (C0.out _ (HS.out.below HB.out)).mono ?_);rintro e w4 ⟨rfl,hB⟩;replace HB:=mkA (below_step HB.out hB);replace BK:=mkA (blk_below BK.out hB);clear hB)
   | (go_at_call 130;(with_reducible refine (CN.out _ (HS.out.below HB.out)).mono ?_);rintro e w6 ⟨rfl,hB⟩;replace HB:=mkA (below_step HB.out hB);replace BK:=mkA (blk_below BK.out hB);clear hB;obtain ⟨hz0,hz1,hz2,hz3,hf0,hf1,hf2,hf3⟩:=tkz BK.out))
  refine bodyPost_ret (results_ct rfl _ _ gb 63 #[.int .i64 15,.int .i64 q,.int .i64 (nm s (q+1):Nat),.string (s.extract q (nm s (q+1)))] (0,0) _ rfl (by exact tkp BK.out) Tryz.underlying63 rfl (by kernel_rfl)) rfl ?_
  exact ⟨rfl,below_set (below_set (below_set (below_set (HB.out) GE.out) GE.out) GE.out) GE.out⟩
end Go.Proofs.YthgcghpcikbnkaaGreatDoor.R
