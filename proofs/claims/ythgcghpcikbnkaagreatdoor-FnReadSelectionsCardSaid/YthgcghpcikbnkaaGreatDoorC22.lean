/- A part of the proof of the theorem of this claim: Rt6. No condition of its own. -/
import Derived.Test.YthgcghpcikbnkaaGreatDoorC18
import Derived.Test.YthgcghpcikbnkaaGreatDoorC16
set_option maxHeartbeats 16000000
set_option maxRecDepth 100000
namespace Go.Proofs.YthgcghpcikbnkaaGreatDoor.R
open Go.RowKit Go.Proofs.YthgcghpcikbnkaaGreatDoorW.PrintWords Go.Proofs.YthgcghpcikbnkaaGreatDoorW.PrintLast Go.Proofs.YthgcghpcikbnkaaGreatDoorW.PrintMore
set_option linter.unusedVariables false
set_option linter.unusedSimpArgs false
theorem rn_dot (t:ByteArray) (p:Nat):∃ (c k:Int),rn t p=(c,k)∧(((p < t.size∧bt t (p:Nat)=46)∧c=46)∨(¬ (p < t.size∧bt t (p:Nat)=46)∧(c == 46)=false)):=by
 by_cases h:p < t.size
 ·by_cases hb:bt t p < 128
  ·refine ⟨bt t p,1,rn_low t p _ h rfl hb,?_⟩
   by_cases h34:bt t p=46
   ·exact .inl ⟨⟨h,h34⟩,h34⟩
   ·exact .inr ⟨fun q=>h34 q.2,by rw [beq_eq_false_iff_ne];exact h34⟩
  ·obtain ⟨c,k,h1,h2,_⟩:=rn_high t p h (by omega)
   exact ⟨c,k,h1,.inr ⟨fun q=>by omega,by rw [beq_eq_false_iff_ne];omega⟩⟩
 ·exact ⟨-1,65533,rn_end t p h,.inr ⟨fun q=>h q.1,rfl⟩⟩
def Oth (c:Int):Prop:=c≠33∧c≠36∧c≠40∧c≠41∧c≠58∧c≠61∧c≠64∧c≠91∧c≠93∧c≠123∧c≠124∧c≠125∧c≠38∧c≠46∧c≠65∧c≠66∧c≠67∧c≠68∧c≠69∧c≠70∧c≠71∧c≠72∧c≠73∧c≠74∧c≠75∧c≠76∧c≠77∧c≠78∧c≠79∧c≠80∧c≠81∧c≠82∧c≠83∧c≠84∧c≠85∧c≠86∧c≠87∧c≠88∧c≠89∧c≠90∧c≠95∧c≠97∧c≠98∧c≠99∧c≠100∧c≠101∧c≠102∧c≠103∧c≠104∧c≠105∧c≠106∧c≠107∧c≠108∧c≠109∧c≠110∧c≠111∧c≠112∧c≠113∧c≠114∧c≠115∧c≠116∧c≠117∧c≠118∧c≠119∧c≠120∧c≠121∧c≠122∧c≠45∧c≠48∧c≠49∧c≠50∧c≠51∧c≠52∧c≠53∧c≠54∧c≠55∧c≠56∧c≠57∧c≠34
theorem oth_of {c:Int} (h1:sg c=0) (h2:isB c=false) (h3:c≠45) (h4:isD c=false) (h5:c≠34) (h6:c≠46):Oth c:=by
 have b:¬ (97≤c∧c≤122)∧¬ (65≤c∧c≤90)∧c≠95:=by
  unfold isB at h2;simp at h2;omega
 have d:¬ (48≤c∧c≤57):=by
  unfold isD at h4;simp at h4;omega
 have s:∀ x:Int,sg x≠0→c≠x:=fun x hx e=>hx (e ▸ h1)
 refine ⟨s 33 (by decide),s 36 (by decide),s 40 (by decide),s 41 (by decide),s 58 (by decide),s 61 (by decide),s 64 (by decide),s 91 (by decide),s 93 (by decide),s 123 (by decide),s 124 (by decide),s 125 (by decide),s 38 (by decide),h6,fun e=>b.2.1 (by omega),fun e=>b.2.1 (by omega),fun e=>b.2.1 (by omega),fun e=>b.2.1 (by omega),fun e=>b.2.1 (by omega),fun e=>b.2.1 (by omega),fun e=>b.2.1 (by omega),fun e=>b.2.1 (by omega),fun e=>b.2.1 (by omega),fun e=>b.2.1 (by omega),fun e=>b.2.1 (by omega),fun e=>b.2.1 (by omega),fun e=>b.2.1 (by omega),fun e=>b.2.1 (by omega),fun e=>b.2.1 (by omega),fun e=>b.2.1 (by omega),fun e=>b.2.1 (by omega),fun e=>b.2.1 (by omega),fun e=>b.2.1 (by omega),fun e=>b.2.1 (by omega),fun e=>b.2.1 (by omega),fun e=>b.2.1 (by omega),fun e=>b.2.1 (by omega),fun e=>b.2.1 (by omega),fun e=>b.2.1 (by omega),fun e=>b.2.1 (by omega),b.2.2,fun e=>b.1 (by omega),fun e=>b.1 (by omega),fun e=>b.1 (by omega),fun e=>b.1 (by omega),fun e=>b.1 (by omega),fun e=>b.1 (by omega),fun e=>b.1 (by omega),fun e=>b.1 (by omega),fun e=>b.1 (by omega),fun e=>b.1 (by omega),fun e=>b.1 (by omega),fun e=>b.1 (by omega),fun e=>b.1 (by omega),fun e=>b.1 (by omega),fun e=>b.1 (by omega),fun e=>b.1 (by omega),fun e=>b.1 (by omega),fun e=>b.1 (by omega),fun e=>b.1 (by omega),fun e=>b.1 (by omega),fun e=>b.1 (by omega),fun e=>b.1 (by omega),fun e=>b.1 (by omega),fun e=>b.1 (by omega),fun e=>b.1 (by omega),fun e=>b.1 (by omega),h3,fun e=>d (by omega),fun e=>d (by omega),fun e=>d (by omega),fun e=>d (by omega),fun e=>d (by omega),fun e=>d (by omega),fun e=>d (by omega),fun e=>d (by omega),fun e=>d (by omega),fun e=>d (by omega),h5⟩
theorem oth_high {c:Int} (h:128≤c):Oth c:=⟨fun e=>by omega,fun e=>by omega,fun e=>by omega,fun e=>by omega,fun e=>by omega,fun e=>by omega,fun e=>by omega,fun e=>by omega,fun e=>by omega,fun e=>by omega,fun e=>by omega,fun e=>by omega,fun e=>by omega,fun e=>by omega,fun e=>by omega,fun e=>by omega,fun e=>by omega,fun e=>by omega,fun e=>by omega,fun e=>by omega,fun e=>by omega,fun e=>by omega,fun e=>by omega,fun e=>by omega,fun e=>by omega,fun e=>by omega,fun e=>by omega,fun e=>by omega,fun e=>by omega,fun e=>by omega,fun e=>by omega,fun e=>by omega,fun e=>by omega,fun e=>by omega,fun e=>by omega,fun e=>by omega,fun e=>by omega,fun e=>by omega,fun e=>by omega,fun e=>by omega,fun e=>by omega,fun e=>by omega,fun e=>by omega,fun e=>by omega,fun e=>by omega,fun e=>by omega,fun e=>by omega,fun e=>by omega,fun e=>by omega,fun e=>by omega,fun e=>by omega,fun e=>by omega,fun e=>by omega,fun e=>by omega,fun e=>by omega,fun e=>by omega,fun e=>by omega,fun e=>by omega,fun e=>by omega,fun e=>by omega,fun e=>by omega,fun e=>by omega,fun e=>by omega,fun e=>by omega,fun e=>by omega,fun e=>by omega,fun e=>by omega,fun e=>by omega,fun e=>by omega,fun e=>by omega,fun e=>by omega,fun e=>by omega,fun e=>by omega,fun e=>by omega,fun e=>by omega,fun e=>by omega,fun e=>by omega,fun e=>by omega,fun e=>by omega⟩
theorem rtk_spread {w:World} {g b cap:Nat} {s:ByteArray} (h:Src w g b cap s) (p q:Nat) (hsc:Sc s false p=some q) (hq:q+2 < s.size) (hb:bt s q=46) (hb1:bt s (q+1:Nat)=46) (hb2:bt s (q+2:Nat)=46) :
 Calls Tryz.prog 99 #[.pointer (some ⟨g,0,none⟩),.int .i64 p] w fun e w'=>e=.returned (.tuple #[.agg #[.int .i64 6,.int .i64 q,.int .i64 (q+3:Nat),.string ⟨#[]⟩],.nilIface])∧Below w.heap.size w w':=by
 have HS:=mkA h
 have HSM:=mkA h.small
 have hp:=sc_at hsc
 have HQL:=mkA (sc_le hsc).2.1
 have HPW:=mkA (fun (w:World) (hs:Src w g b cap s)=>paw_walk s b cap w hs.glob hs.small hs.cap hs.bytes p hp q hsc)
 have hr:=rn_low s q _ (by omega) hb (by decide)
 have q1:((s.size:Int)≤(q:Int))=False:=eq_false (by omega)
 have q2:decide ((s.size:Int)≤(q:Int))=false:=decide_eq_false (by omega)
 have q3:(s.size≤q)=False:=eq_false (by omega)
 have HB:=mkA (Below.refl w.heap.size w)
 have M1:=mkA True.intro
 have r1:=rn_low s (q+1) _ (by omega) hb1 (by decide)
 have r2:=rn_low s (q+2) _ (by omega) hb2 (by decide)
 obtain ⟨q1',hq1'⟩:∃ x:Nat,x=q+1:=⟨_,rfl⟩
 obtain ⟨q2',hq2'⟩:∃ x:Nat,x=q+2:=⟨_,rfl⟩
 rw [← hq1'] at r1
 rw [← hq2'] at r2
 have C0:=mkA (fun (w:World) (hs:Src w g b cap s)=>(show Calls Tryz.prog 129 #[.slice (some ⟨b,0,none⟩) s.size cap,.int .i64 q] w fun e w'=>e=.returned (.tuple #[.int .i32 46,.int .i64 1])∧Below w.heap.size w w' by
  have h:=runeAt_any hs q
  rw [hr] at h
  exact h))
 have C1:=mkA (fun (w:World) (hs:Src w g b cap s)=>(show Calls Tryz.prog 129 #[.slice (some ⟨b,0,none⟩) s.size cap,.int .i64 q1'] w fun e w'=>e=.returned (.tuple #[.int .i32 46,.int .i64 1])∧Below w.heap.size w w' by
  have h:=runeAt_any hs q1'
  rw [r1] at h
  exact h))
 have C2:=mkA (fun (w:World) (hs:Src w g b cap s)=>(show Calls Tryz.prog 129 #[.slice (some ⟨b,0,none⟩) s.size cap,.int .i64 q2'] w fun e w'=>e=.returned (.tuple #[.int .i32 46,.int .i64 1])∧Below w.heap.size w w' by
  have h:=runeAt_any hs q2'
  rw [r2] at h
  exact h))
 have hz:=HSM.out
 have y1:wrap64 ((q:Int)+1)=(q1':Int):=w_at (by omega) (by omega)
 have y2:wrap64 ((q:Int)+2)=(q2':Int):=w_at (by omega) (by omega)
 have Y3:=mkA (show wrap64 ((q:Int)+3)=((q+3:Nat):Int) from w_at (by omega) (by omega))
 have M2:=mkA True.intro
 have M3:=mkA True.intro
 clear h hsc hp hq hr hb r1 r2 hq1' hq2' hz hb1 hb2
 have y3:=Y3.out
 go_enter Tryz.func99,Tryz.ntmps99
 go_wp2_with (first
  | ((with_reducible refine gate_dst (N:=4) rfl ?_);refine bxz ?hr ?_;(case hr=>first | (go_simp;done) | (go_simp;rfl));intro gb hg w2 hbox hb;have n0_:=mkA (below_step HB.out hb);have GE:=mkA ((by rw [hg];exact below_size HB.out:w.heap.size≤gb));clear HB;have HB:=n0_;have BK:=mkA hbox;clear n0_ hb hbox hg;have hc0:=(HS.out.below HB.out).body)
  | (go_at_call 127;(with_reducible refine (HPW.out _ (HS.out.below HB.out)).mono ?_);rintro e w3 ⟨rfl,hB⟩;replace HB:=mkA (below_step HB.out hB);replace BK:=mkA (blk_below BK.out hB);clear hB)
  | (clear M1;go_at_call 129;(with_reducible refine (C0.out _ (HS.out.below HB.out)).mono ?_);rintro e w4 ⟨rfl,hB⟩;replace HB:=mkA (below_step HB.out hB);replace BK:=mkA (blk_below BK.out hB);clear hB)
  | (clear M2;go_at_call 129;(with_reducible refine (C1.out _ (HS.out.below HB.out)).mono ?_);rintro e w6 ⟨rfl,hB⟩;replace HB:=mkA (below_step HB.out hB);replace BK:=mkA (blk_below BK.out hB);clear hB)
  | (clear M3;go_at_call 129;(with_reducible refine (C2.out _ (HS.out.below HB.out)).mono ?_);rintro e w7 ⟨rfl,hB⟩;replace HB:=mkA (below_step HB.out hB);replace BK:=mkA (blk_below BK.out hB);clear hB)
  | (go_at_call 128;(with_reducible refine (makeToken_walk 6 (q:Int) _ _ _).mono ?_);rintro e w9 ⟨rfl,hB⟩;replace HB:=mkA (below_step HB.out hB);replace BK:=mkA (blk_below BK.out hB);clear hB;obtain ⟨hz0,hz1,hz2,hz3,hf0,hf1,hf2,hf3⟩:=tkz BK.out))
 refine bodyPost_ret (results_ct rfl _ _ gb 63 #[(.int .i64 6),(.int .i64 q),(.int .i64 (q+3:Nat)),(.string ⟨#[]⟩)] (0,0) _ rfl (by exact tkp BK.out) Tryz.underlying63 rfl (by kernel_rfl)) rfl ?_
 exact ⟨rfl,below_set (below_set (below_set (below_set (HB.out) GE.out) GE.out) GE.out) GE.out⟩
theorem rtk_dotbad {w:World} {g b cap:Nat} {s:ByteArray} (h:Src w g b cap s) (p q:Nat) (hsc:Sc s false p=some q) (hq:q < s.size) (hb:bt s q=46) (hn:¬ (q+2 < s.size∧bt s (q+1:Nat)=46∧bt s (q+2:Nat)=46)) :
 Calls Tryz.prog 99 #[.pointer (some ⟨g,0,none⟩),.int .i64 p] w fun e w'=>(∃ ge:Nat,e=.returned (.tuple #[.agg #[.int .i64 0,.int .i64 0,.int .i64 0,.string ⟨#[]⟩],.iface 206 (.pointer (some ⟨ge,0,none⟩))]))∧Below w.heap.size w w':=by
 have HS:=mkA h
 have HSM:=mkA h.small
 have hp:=sc_at hsc
 have HQL:=mkA (sc_le hsc).2.1
 have HPW:=mkA (fun (w:World) (hs:Src w g b cap s)=>paw_walk s b cap w hs.glob hs.small hs.cap hs.bytes p hp q hsc)
 have hr:=rn_low s q _ (by omega) hb (by decide)
 have q1:((s.size:Int)≤(q:Int))=False:=eq_false (by omega)
 have q2:decide ((s.size:Int)≤(q:Int))=false:=decide_eq_false (by omega)
 have q3:(s.size≤q)=False:=eq_false (by omega)
 have HB:=mkA (Below.refl w.heap.size w)
 have M1:=mkA True.intro
 obtain ⟨c1,k1,r1,v1⟩:=rn_dot s (q+1)
 obtain ⟨c2,k2,r2,v2⟩:=rn_dot s (q+2)
 have hcd:(c1 == 46)=false∨(c1=46∧(c2 == 46)=false):=by
  rcases v1 with v1 | v1
  ·rcases v2 with v2 | v2
   ·exact absurd ⟨v2.1.1,v1.1.2,v2.1.2⟩ hn
   ·exact .inr ⟨v1.2,v2.2⟩
  ·exact .inl v1.2
 obtain ⟨q1',hq1'⟩:∃ x:Nat,x=q+1:=⟨_,rfl⟩
 obtain ⟨q2',hq2'⟩:∃ x:Nat,x=q+2:=⟨_,rfl⟩
 rw [← hq1'] at r1
 rw [← hq2'] at r2
 have C0:=mkA (fun (w:World) (hs:Src w g b cap s)=>(show Calls Tryz.prog 129 #[.slice (some ⟨b,0,none⟩) s.size cap,.int .i64 q] w fun e w'=>e=.returned (.tuple #[.int .i32 46,.int .i64 1])∧Below w.heap.size w w' by
  have h:=runeAt_any hs q
  rw [hr] at h
  exact h))
 have C1:=mkA (fun (w:World) (hs:Src w g b cap s)=>(show Calls Tryz.prog 129 #[.slice (some ⟨b,0,none⟩) s.size cap,.int .i64 q1'] w fun e w'=>e=.returned (.tuple #[.int .i32 c1,.int .i64 k1])∧Below w.heap.size w w' by
  have h:=runeAt_any hs q1'
  rw [r1] at h
  exact h))
 have C2:=mkA (fun (w:World) (hs:Src w g b cap s)=>(show Calls Tryz.prog 129 #[.slice (some ⟨b,0,none⟩) s.size cap,.int .i64 q2'] w fun e w'=>e=.returned (.tuple #[.int .i32 c2,.int .i64 k2])∧Below w.heap.size w w' by
  have h:=runeAt_any hs q2'
  rw [r2] at h
  exact h))
 have hz:=HSM.out
 have y1:wrap64 ((q:Int)+1)=(q1':Int):=w_at (by omega) (by omega)
 have y2:wrap64 ((q:Int)+2)=(q2':Int):=w_at (by omega) (by omega)
 have Y3:=mkA (show wrap64 ((q:Int)+3)=((q+3:Nat):Int) from w_at (by omega) (by omega))
 have M2:=mkA True.intro
 have M3:=mkA True.intro
 clear h hsc hp hq hr hb r1 r2 hq1' hq2' hz hn v1 v2
 rcases hcd with hcd | ⟨rfl,hcd⟩
 all_goals
  go_enter Tryz.func99,Tryz.ntmps99
  go_wp2_with (first
   | ((with_reducible refine gate_dst (N:=4) rfl ?_);refine bxz ?hr ?_;(case hr=>first | (go_simp;done) | (go_simp;rfl));intro gb hg w2 hbox hb;have n0_:=mkA (below_step HB.out hb);have GE:=mkA ((by rw [hg];exact below_size HB.out:w.heap.size≤gb));clear HB;have HB:=n0_;have BK:=mkA hbox;clear n0_ hb hbox hg;have hc0:=(HS.out.below HB.out).body)
   | (go_at_call 127;(with_reducible refine (HPW.out _ (HS.out.below HB.out)).mono ?_);rintro e w3 ⟨rfl,hB⟩;replace HB:=mkA (below_step HB.out hB);replace BK:=mkA (blk_below BK.out hB);clear hB)
   | (clear M1;go_at_call 129;(with_reducible refine (C0.out _ (HS.out.below HB.out)).mono ?_);rintro e w4 ⟨rfl,hB⟩;replace HB:=mkA (below_step HB.out hB);replace BK:=mkA (blk_below BK.out hB);clear hB)
   | (clear M2;go_at_call 129;(with_reducible refine (C1.out _ (HS.out.below HB.out)).mono ?_);rintro e w6 ⟨rfl,hB⟩;replace HB:=mkA (below_step HB.out hB);replace BK:=mkA (blk_below BK.out hB);clear hB)
   | (clear M3;go_at_call 129;(with_reducible refine (C2.out _ (HS.out.below HB.out)).mono ?_);rintro e w7 ⟨rfl,hB⟩;replace HB:=mkA (below_step HB.out hB);replace BK:=mkA (blk_below BK.out hB);clear hB)
   | (go_at_call 101;refine (synErr' (HS.out.below HB.out) q HQL.out _ _ rfl).mono ?_;rintro e w9 ⟨⟨ge,rfl⟩,hB⟩;replace HB:=mkA (below_step HB.out hB);replace BK:=mkA (blk_below BK.out hB);clear hB;obtain ⟨hz0,hz1,hz2,hz3,hf0,hf1,hf2,hf3⟩:=tkz BK.out))
  refine bodyPost_ret (results_ct rfl _ _ gb 63 #[.int .i64 0,.int .i64 0,.int .i64 0,.string ⟨#[]⟩] (0,0) _ rfl (by exact tkp BK.out) Tryz.underlying63 rfl (by kernel_rfl)) rfl ?_
  exact ⟨⟨ge,rfl⟩,below_set (below_set (below_set (below_set (HB.out) GE.out) GE.out) GE.out) GE.out⟩
theorem rtk_other {w:World} {g b cap:Nat} {s:ByteArray} (h:Src w g b cap s) (p q:Nat) (hsc:Sc s false p=some q) (hq:q < s.size) (hb:Oth (bt s q)) :
 Calls Tryz.prog 99 #[.pointer (some ⟨g,0,none⟩),.int .i64 p] w fun e w'=>(∃ ge:Nat,e=.returned (.tuple #[.agg #[.int .i64 0,.int .i64 0,.int .i64 0,.string ⟨#[]⟩],.iface 206 (.pointer (some ⟨ge,0,none⟩))]))∧Below w.heap.size w w':=by
 have HS:=mkA h
 have HSM:=mkA h.small
 have hp:=sc_at hsc
 have HQL:=mkA (sc_le hsc).2.1
 have HPW:=mkA (fun (w:World) (hs:Src w g b cap s)=>paw_walk s b cap w hs.glob hs.small hs.cap hs.bytes p hp q hsc)
 have hbl:=((sc_le hsc).2.2 hq).1
 have hr:∃ c k:Int,rn s q=(c,k)∧Oth c∧((decide (c < 32)=true∧(c != 9)=true∧(c != 10)=true∧(c != 13)=true)∨decide (c < 32)=false):=by
  by_cases hh:bt s q < 128
  ·refine ⟨_,1,rn_low s q _ hq rfl hh,hb,?_⟩
   by_cases h32:bt s q < 32
   ·unfold isBl at hbl;simp at hbl
    exact .inl ⟨decide_eq_true h32,by rw [bne_iff_ne];omega,by rw [bne_iff_ne];omega,by rw [bne_iff_ne];omega⟩
   ·exact .inr (decide_eq_false h32)
  ·obtain ⟨c,k,h1,h2,_⟩:=rn_high s q hq (by omega)
   exact ⟨c,k,h1,oth_high h2,.inr (decide_eq_false (by omega))⟩
 obtain ⟨c,k,hr,ho,hlo⟩:=hr
 have q1:((s.size:Int)≤(q:Int))=False:=eq_false (by omega)
 have q2:decide ((s.size:Int)≤(q:Int))=false:=decide_eq_false (by omega)
 have q3:(s.size≤q)=False:=eq_false (by omega)
 have C0:=mkA (fun (w:World) (hs:Src w g b cap s)=>(show Calls Tryz.prog 129 #[.slice (some ⟨b,0,none⟩) s.size cap,.int .i64 q] w fun e w'=>e=.returned (.tuple #[.int .i32 c,.int .i64 k])∧Below w.heap.size w w' by
  have h:=runeAt_any hs q
  rw [hr] at h
  exact h))
 have HB:=mkA (Below.refl w.heap.size w)
 have M1:=mkA True.intro
 clear h hsc hp hq hr hb hbl
 rcases hlo with ⟨e0,e1,e2,e3⟩ | e0
 ·clear ho
  go_enter Tryz.func99,Tryz.ntmps99
  go_wp2_with (first
   | ((with_reducible refine gate_dst (N:=4) rfl ?_);refine bxz ?hr ?_;(case hr=>first | (go_simp;done) | (go_simp;rfl));intro gb hg w2 hbox hb;have n0_:=mkA (below_step HB.out hb);have GE:=mkA ((by rw [hg];exact below_size HB.out:w.heap.size≤gb));clear HB;have HB:=n0_;have BK:=mkA hbox;clear n0_ hb hbox hg;have hc0:=(HS.out.below HB.out).body)
   | (go_at_call 127;(with_reducible refine (HPW.out _ (HS.out.below HB.out)).mono ?_);rintro e w3 ⟨rfl,hB⟩;replace HB:=mkA (below_step HB.out hB);replace BK:=mkA (blk_below BK.out hB);clear hB)
   | (clear M1;go_at_call 129;(with_reducible refine (C0.out _ (HS.out.below HB.out)).mono ?_);rintro e w4 ⟨rfl,hB⟩;replace HB:=mkA (below_step HB.out hB);replace BK:=mkA (blk_below BK.out hB);clear hB)
   | (go_at_call 101;refine (synErr' (HS.out.below HB.out) q HQL.out _ _ rfl).mono ?_;rintro e w9 ⟨⟨ge,rfl⟩,hB⟩;replace HB:=mkA (below_step HB.out hB);replace BK:=mkA (blk_below BK.out hB);clear hB;obtain ⟨hz0,hz1,hz2,hz3,hf0,hf1,hf2,hf3⟩:=tkz BK.out))
  refine bodyPost_ret (results_ct rfl _ _ gb 63 #[.int .i64 0,.int .i64 0,.int .i64 0,.string ⟨#[]⟩] (0,0) _ rfl (by exact tkp BK.out) Tryz.underlying63 rfl (by kernel_rfl)) rfl ?_
  exact ⟨⟨ge,rfl⟩,below_set (below_set (below_set (below_set (HB.out) GE.out) GE.out) GE.out) GE.out⟩
 ·obtain ⟨o33,o36,o40,o41,o58,o61,o64,o91,o93,o123,o124,o125,o38,o46,o65,o66,o67,o68,o69,o70,o71,o72,o73,o74,o75,o76,o77,o78,o79,o80,o81,o82,o83,o84,o85,o86,o87,o88,o89,o90,o95,o97,o98,o99,o100,o101,o102,o103,o104,o105,o106,o107,o108,o109,o110,o111,o112,o113,o114,o115,o116,o117,o118,o119,o120,o121,o122,o45,o48,o49,o50,o51,o52,o53,o54,o55,o56,o57,o34⟩:=ho
  have p33:(c == 33)=false:=beq_eq_false_iff_ne.2 o33
  have p36:(c == 36)=false:=beq_eq_false_iff_ne.2 o36
  have p40:(c == 40)=false:=beq_eq_false_iff_ne.2 o40
  have p41:(c == 41)=false:=beq_eq_false_iff_ne.2 o41
  have p58:(c == 58)=false:=beq_eq_false_iff_ne.2 o58
  have p61:(c == 61)=false:=beq_eq_false_iff_ne.2 o61
  have p64:(c == 64)=false:=beq_eq_false_iff_ne.2 o64
  have p91:(c == 91)=false:=beq_eq_false_iff_ne.2 o91
  have p93:(c == 93)=false:=beq_eq_false_iff_ne.2 o93
  have p123:(c == 123)=false:=beq_eq_false_iff_ne.2 o123
  have p124:(c == 124)=false:=beq_eq_false_iff_ne.2 o124
  have p125:(c == 125)=false:=beq_eq_false_iff_ne.2 o125
  have p38:(c == 38)=false:=beq_eq_false_iff_ne.2 o38
  have p46:(c == 46)=false:=beq_eq_false_iff_ne.2 o46
  have p65:(c == 65)=false:=beq_eq_false_iff_ne.2 o65
  have p66:(c == 66)=false:=beq_eq_false_iff_ne.2 o66
  have p67:(c == 67)=false:=beq_eq_false_iff_ne.2 o67
  have p68:(c == 68)=false:=beq_eq_false_iff_ne.2 o68
  have p69:(c == 69)=false:=beq_eq_false_iff_ne.2 o69
  have p70:(c == 70)=false:=beq_eq_false_iff_ne.2 o70
  have p71:(c == 71)=false:=beq_eq_false_iff_ne.2 o71
  have p72:(c == 72)=false:=beq_eq_false_iff_ne.2 o72
  have p73:(c == 73)=false:=beq_eq_false_iff_ne.2 o73
  have p74:(c == 74)=false:=beq_eq_false_iff_ne.2 o74
  have p75:(c == 75)=false:=beq_eq_false_iff_ne.2 o75
  have p76:(c == 76)=false:=beq_eq_false_iff_ne.2 o76
  have p77:(c == 77)=false:=beq_eq_false_iff_ne.2 o77
  have p78:(c == 78)=false:=beq_eq_false_iff_ne.2 o78
  have p79:(c == 79)=false:=beq_eq_false_iff_ne.2 o79
  have p80:(c == 80)=false:=beq_eq_false_iff_ne.2 o80
  have p81:(c == 81)=false:=beq_eq_false_iff_ne.2 o81
  have p82:(c == 82)=false:=beq_eq_false_iff_ne.2 o82
  have p83:(c == 83)=false:=beq_eq_false_iff_ne.2 o83
  have p84:(c == 84)=false:=beq_eq_false_iff_ne.2 o84
  have p85:(c == 85)=false:=beq_eq_false_iff_ne.2 o85
  have p86:(c == 86)=false:=beq_eq_false_iff_ne.2 o86
  have p87:(c == 87)=false:=beq_eq_false_iff_ne.2 o87
  have p88:(c == 88)=false:=beq_eq_false_iff_ne.2 o88
  have p89:(c == 89)=false:=beq_eq_false_iff_ne.2 o89
  have p90:(c == 90)=false:=beq_eq_false_iff_ne.2 o90
  have p95:(c == 95)=false:=beq_eq_false_iff_ne.2 o95
  have p97:(c == 97)=false:=beq_eq_false_iff_ne.2 o97
  have p98:(c == 98)=false:=beq_eq_false_iff_ne.2 o98
  have p99:(c == 99)=false:=beq_eq_false_iff_ne.2 o99
  have p100:(c == 100)=false:=beq_eq_false_iff_ne.2 o100
  have p101:(c == 101)=false:=beq_eq_false_iff_ne.2 o101
  have p102:(c == 102)=false:=beq_eq_false_iff_ne.2 o102
  have p103:(c == 103)=false:=beq_eq_false_iff_ne.2 o103
  have p104:(c == 104)=false:=beq_eq_false_iff_ne.2 o104
  have p105:(c == 105)=false:=beq_eq_false_iff_ne.2 o105
  have p106:(c == 106)=false:=beq_eq_false_iff_ne.2 o106
  have p107:(c == 107)=false:=beq_eq_false_iff_ne.2 o107
  have p108:(c == 108)=false:=beq_eq_false_iff_ne.2 o108
  have p109:(c == 109)=false:=beq_eq_false_iff_ne.2 o109
  have p110:(c == 110)=false:=beq_eq_false_iff_ne.2 o110
  have p111:(c == 111)=false:=beq_eq_false_iff_ne.2 o111
  have p112:(c == 112)=false:=beq_eq_false_iff_ne.2 o112
  have p113:(c == 113)=false:=beq_eq_false_iff_ne.2 o113
  have p114:(c == 114)=false:=beq_eq_false_iff_ne.2 o114
  have p115:(c == 115)=false:=beq_eq_false_iff_ne.2 o115
  have p116:(c == 116)=false:=beq_eq_false_iff_ne.2 o116
  have p117:(c == 117)=false:=beq_eq_false_iff_ne.2 o117
  have p118:(c == 118)=false:=beq_eq_false_iff_ne.2 o118
  have p119:(c == 119)=false:=beq_eq_false_iff_ne.2 o119
  have p120:(c == 120)=false:=beq_eq_false_iff_ne.2 o120
  have p121:(c == 121)=false:=beq_eq_false_iff_ne.2 o121
  have p122:(c == 122)=false:=beq_eq_false_iff_ne.2 o122
  have p45:(c == 45)=false:=beq_eq_false_iff_ne.2 o45
  have p48:(c == 48)=false:=beq_eq_false_iff_ne.2 o48
  have p49:(c == 49)=false:=beq_eq_false_iff_ne.2 o49
  have p50:(c == 50)=false:=beq_eq_false_iff_ne.2 o50
  have p51:(c == 51)=false:=beq_eq_false_iff_ne.2 o51
  have p52:(c == 52)=false:=beq_eq_false_iff_ne.2 o52
  have p53:(c == 53)=false:=beq_eq_false_iff_ne.2 o53
  have p54:(c == 54)=false:=beq_eq_false_iff_ne.2 o54
  have p55:(c == 55)=false:=beq_eq_false_iff_ne.2 o55
  have p56:(c == 56)=false:=beq_eq_false_iff_ne.2 o56
  have p57:(c == 57)=false:=beq_eq_false_iff_ne.2 o57
  have p34:(c == 34)=false:=beq_eq_false_iff_ne.2 o34
  clear o33 o36 o40 o41 o58 o61 o64 o91 o93 o123 o124 o125 o38 o46 o65 o66 o67 o68 o69 o70 o71 o72 o73 o74 o75 o76 o77 o78 o79 o80 o81 o82 o83 o84 o85 o86 o87 o88 o89 o90 o95 o97 o98 o99 o100 o101 o102 o103 o104 o105 o106 o107 o108 o109 o110 o111 o112 o113 o114 o115 o116 o117 o118 o119 o120 o121 o122 o45 o48 o49 o50 o51 o52 o53 o54 o55 o56 o57 o34
  go_enter Tryz.func99,Tryz.ntmps99
  go_wp2_with (first
   | ((with_reducible refine gate_dst (N:=4) rfl ?_);refine bxz ?hr ?_;(case hr=>first | (go_simp;done) | (go_simp;rfl));intro gb hg w2 hbox hb;have n0_:=mkA (below_step HB.out hb);have GE:=mkA ((by rw [hg];exact below_size HB.out:w.heap.size≤gb));clear HB;have HB:=n0_;have BK:=mkA hbox;clear n0_ hb hbox hg;have hc0:=(HS.out.below HB.out).body)
   | (go_at_call 127;(with_reducible refine (HPW.out _ (HS.out.below HB.out)).mono ?_);rintro e w3 ⟨rfl,hB⟩;replace HB:=mkA (below_step HB.out hB);replace BK:=mkA (blk_below BK.out hB);clear hB)
   | (clear M1;go_at_call 129;(with_reducible refine (C0.out _ (HS.out.below HB.out)).mono ?_);rintro e w4 ⟨rfl,hB⟩;replace HB:=mkA (below_step HB.out hB);replace BK:=mkA (blk_below BK.out hB);clear hB)
   | (go_at_call 101;refine (synErr' (HS.out.below HB.out) q HQL.out _ _ rfl).mono ?_;rintro e w9 ⟨⟨ge,rfl⟩,hB⟩;replace HB:=mkA (below_step HB.out hB);replace BK:=mkA (blk_below BK.out hB);clear hB;obtain ⟨hz0,hz1,hz2,hz3,hf0,hf1,hf2,hf3⟩:=tkz BK.out))
  refine bodyPost_ret (results_ct rfl _ _ gb 63 #[.int .i64 0,.int .i64 0,.int .i64 0,.string ⟨#[]⟩] (0,0) _ rfl (by exact tkp BK.out) Tryz.underlying63 rfl (by kernel_rfl)) rfl ?_
  exact ⟨⟨ge,rfl⟩,below_set (below_set (below_set (below_set (HB.out) GE.out) GE.out) GE.out) GE.out⟩
end Go.Proofs.YthgcghpcikbnkaaGreatDoor.R
