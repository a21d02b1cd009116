/- A part of the proof of the theorem of this claim: Rt5. No condition of its own. -/
import Derived.Test.YthgcghpcikbnkaaGreatDoorC18
import Derived.Test.YthgcghpcikbnkaaGreatDoorC17
set_option maxHeartbeats 16000000
set_option maxRecDepth 100000
namespace Go.Proofs.YthgcghpcikbnkaaGreatDoor.R
open Go.RowKit Go.Proofs.YthgcghpcikbnkaaGreatDoorW.PrintWords Go.Proofs.YthgcghpcikbnkaaGreatDoorW.PrintLast Go.Proofs.YthgcghpcikbnkaaGreatDoorW.PrintMore
set_option linter.unusedVariables false
set_option linter.unusedSimpArgs false
theorem rtk_str {w:World} {g b cap:Nat} {s:ByteArray} (h:Src w g b cap s) (p q:Nat) (hsc:Sc s false p=some q) (hq:q < s.size) (hb:bt s q=34) (htri:tri (dr s q)=false) (X:List UInt8) (z:Nat) (hz':z≤s.size) (hx:Qt X (dr s (q+1)) (dr s z)) :
 Calls Tryz.prog 99 #[.pointer (some ⟨g,0,none⟩),.int .i64 p] w fun e w'=>e=.returned (.tuple #[.agg #[.int .i64 18,.int .i64 q,.int .i64 (z:Nat),.string ⟨X.toArray⟩],.nilIface])∧Below w.heap.size w w':=by
 have HS:=mkA h
 have HSM:=mkA h.small
 have hp:=sc_at hsc
 have HQL:=mkA (sc_le hsc).2.1
 have HPW:=mkA (fun (w:World) (hs:Src w g b cap s)=>paw_walk s b cap w hs.glob hs.small hs.cap hs.bytes p hp q hsc)
 have hr:=rn_low s q _ hq hb (by decide)
 have CN:=mkA (fun (w:World) (hs:Src w g b cap s)=>(show Calls Tryz.prog 133 #[.pointer (some ⟨g,0,none⟩),.int .i64 q] w fun e w'=>e=.returned (.tuple #[.agg #[.int .i64 18,.int .i64 q,.int .i64 (z:Nat),.string ⟨X.toArray⟩],.nilIface])∧Below w.heap.size w w' from readString_ok hs q hq X z hz' hx))
 have q1:((s.size:Int)≤(q:Int))=False:=eq_false (by omega)
 have q2:decide ((s.size:Int)≤(q:Int))=false:=decide_eq_false (by omega)
 have q3:(s.size≤q)=False:=eq_false (by omega)
 have HB:=mkA (Below.refl w.heap.size w)
 have M1:=mkA True.intro
 obtain ⟨c1,k1,r1,v1⟩:=rn_q s (q+1)
 obtain ⟨c2,k2,r2,v2⟩:=rn_q s (q+2)
 have hcd:(c1 == 34)=false∨(c1=34∧(c2 == 34)=false):=by
  rcases v1 with v1 | v1
  ·rcases v2 with v2 | v2
   ·have:=(tri_iff s q).2 ⟨⟨hq,hb⟩,v1.1,v2.1⟩;rw [this] at htri;cases htri
   ·exact .inr ⟨v1.2.1,v2.2⟩
  ·exact .inl v1.2
 obtain ⟨q1',hq1'⟩:∃ x:Nat,x=q+1:=⟨_,rfl⟩
 obtain ⟨q2',hq2'⟩:∃ x:Nat,x=q+2:=⟨_,rfl⟩
 rw [← hq1'] at r1
 rw [← hq2'] at r2
 have C0:=mkA (fun (w:World) (hs:Src w g b cap s)=>(show Calls Tryz.prog 129 #[.slice (some ⟨b,0,none⟩) s.size cap,.int .i64 q] w fun e w'=>e=.returned (.tuple #[.int .i32 34,.int .i64 1])∧Below w.heap.size w w' by
  have h:=runeAt_any hs q
  rw [hr] at h
  exact h))
 have C1:=mkA (fun (w:World) (hs:Src w g b cap s)=>(show Calls Tryz.prog 129 #[.slice (some ⟨b,0,none⟩) s.size cap,.int .i64 q1'] w fun e w'=>e=.returned (.tuple #[.int .i32 c1,.int .i64 k1])∧Below w.heap.size w w' by
  have h:=runeAt_any hs q1'
  rw [r1] at h
  exact h))
 have C2:=mkA (fun (w:World) (hs:Src w g b cap s)=>(show Calls Tryz.prog 129 #[.slice (some ⟨b,0,none⟩) s.size cap,.int .i64 q2'] w fun e w'=>e=.returned (.tuple #[.int .i32 c2,.int .i64 k2])∧Below w.heap.size w w' by
  have h:=runeAt_any hs q2'
  rw [r2] at h
  exact h))
 have hz:=HSM.out
 have y1:wrap64 ((q:Int)+1)=(q1':Int):=w_at (by omega) (by omega)
 have y2:wrap64 ((q:Int)+2)=(q2':Int):=w_at (by omega) (by omega)
 have M2:=mkA True.intro
 have M3:=mkA True.intro
 clear h hsc hp hq hr hb r1 r2 v1 v2 hq1' hq2' hz htri
 rcases hcd with hcd | ⟨rfl,hcd⟩
 all_goals
  go_enter Tryz.func99,Tryz.ntmps99
  go_wp2_with (first
   | ((with_reducible refine gate_dst (N:=4) rfl ?_);refine bxz ?hr ?_;(case hr=>first | (go_simp;done) | (go_simp;rfl));intro gb hg w2 hbox hb;have n0_:=mkA (below_step HB.out hb);have GE:=mkA ((by rw [hg];exact below_size HB.out:w.heap.size≤gb));clear HB;have HB:=n0_;have BK:=mkA hbox;clear n0_ hb hbox hg;have hc0:=(HS.out.below HB.out).body)
   | (go_at_call 127;(with_reducible refine (HPW.out _ (HS.out.below HB.out)).mono ?_);rintro e w3 ⟨rfl,hB⟩;replace HB:=mkA (below_step HB.out hB);replace BK:=mkA (blk_below BK.out hB);clear hB)
   | (clear M1;go_at_call 129;(with_reducible refine (C0.out _ (HS.out.below HB.out)).mono ?_);rintro e w4 ⟨rfl,hB⟩;replace HB:=mkA (below_step HB.out hB);replace BK:=mkA (blk_below BK.out hB);clear hB)
   | ((with_reducible refine gate_dst (N:=18) rfl ?_);refine bxz ?hr ?_;(case hr=>first | (go_simp;done) | (go_simp;rfl));intro gt hg w5 hbox hb;have n0_:=mkA (below_step HB.out hb);have GT:=mkA ((by rw [hg];exact below_size HB.out:w.heap.size≤gt));have NE:=mkA ((by rw [hg];exact Nat.ne_of_lt (blk_lt BK.out)):gb≠gt);have n1_:=mkA (blk_below BK.out hb);clear HB BK;have HB:=n0_;have BK:=n1_;have BT:=mkA hbox;clear n0_ n1_ hb hbox hg;have hne:=NE.out;have hne2:gt≠gb:=fun e=>NE.out e.symm)
   | (clear M2;go_at_call 129;(with_reducible refine (C1.out _ (HS.out.below HB.out)).mono ?_);rintro e w6 ⟨rfl,hB⟩;replace HB:=mkA (below_step HB.out hB);replace BK:=mkA (blk_below BK.out hB);replace BT:=mkA (blk_below BT.out hB);clear hB)
   | (clear M3;go_at_call 129;(with_reducible refine (C2.out _ (HS.out.below HB.out)).mono ?_);rintro e w7 ⟨rfl,hB⟩;replace HB:=mkA (below_step HB.out hB);replace BK:=mkA (blk_below BK.out hB);replace BT:=mkA (blk_below BT.out hB);clear hB)
   | (go_at_call 133;(with_reducible refine (CN.out _ (HS.out.below HB.out)).mono ?_);rintro e w8 ⟨rfl,hB⟩;replace HB:=mkA (below_step HB.out hB);replace BK:=mkA (blk_below BK.out hB);replace BT:=mkA (blk_below BT.out hB);clear hB;obtain ⟨hz0,hz1,hz2,hz3,hf0,hf1,hf2,hf3⟩:=tkz BK.out;obtain ⟨tz0,tz1,tz2,tz3,tf0,tf1,tf2,tf3⟩:=tkz BT.out))
  refine bodyPost_ret (results_ct rfl _ _ gb 63 #[(.int .i64 18),(.int .i64 q),(.int .i64 z),(.string ⟨X.toArray⟩)] (0,0) _ rfl (by refine blk_put (cs:=#[(.int .i64 18),(.int .i64 q),(.int .i64 z),.string ⟨#[]⟩]) ?_ 3 _ rfl;refine blk_put (cs:=#[(.int .i64 18),(.int .i64 q),.int .i64 0,.string ⟨#[]⟩]) ?_ 2 _ rfl;refine blk_put (cs:=#[(.int .i64 18),.int .i64 0,.int .i64 0,.string ⟨#[]⟩]) ?_ 1 _ rfl;refine blk_put (cs:=#[.int .i64 0,.int .i64 0,.int .i64 0,.string ⟨#[]⟩]) ?_ 0 _ rfl;refine blk_far ?_ NE.out _;refine blk_far ?_ NE.out _;refine blk_far ?_ NE.out _;refine blk_far ?_ NE.out _;exact BK.out) Tryz.underlying63 rfl (by kernel_rfl)) rfl ?_
  exact ⟨rfl,below_set (below_set (below_set (below_set (below_set (below_set (below_set (below_set (HB.out) GT.out) GT.out) GT.out) GT.out) GE.out) GE.out) GE.out) GE.out⟩
theorem rtk_strbad {w:World} {g b cap:Nat} {s:ByteArray} (h:Src w g b cap s) (p q:Nat) (hsc:Sc s false p=some q) (hq:q < s.size) (hb:bt s q=34) (htri:tri (dr s q)=false) (hx:Qb (dr s (q+1))) :
 Calls Tryz.prog 99 #[.pointer (some ⟨g,0,none⟩),.int .i64 p] w fun e w'=>(∃ ge:Nat,e=.returned (.tuple #[.agg #[.int .i64 0,.int .i64 0,.int .i64 0,.string ⟨#[]⟩],.iface 206 (.pointer (some ⟨ge,0,none⟩))]))∧Below w.heap.size w w':=by
 have HS:=mkA h
 have HSM:=mkA h.small
 have hp:=sc_at hsc
 have HQL:=mkA (sc_le hsc).2.1
 have HPW:=mkA (fun (w:World) (hs:Src w g b cap s)=>paw_walk s b cap w hs.glob hs.small hs.cap hs.bytes p hp q hsc)
 have hr:=rn_low s q _ hq hb (by decide)
 have CN:=mkA (fun (w:World) (hs:Src w g b cap s)=>(show Calls Tryz.prog 133 #[.pointer (some ⟨g,0,none⟩),.int .i64 q] w fun e w'=>(∃ ge:Nat,e=.returned (.tuple #[.agg #[.int .i64 0,.int .i64 0,.int .i64 0,.string ⟨#[]⟩],.iface 206 (.pointer (some ⟨ge,0,none⟩))]))∧Below w.heap.size w w' from readString_bad hs q hq hx))
 have q1:((s.size:Int)≤(q:Int))=False:=eq_false (by omega)
 have q2:decide ((s.size:Int)≤(q:Int))=false:=decide_eq_false (by omega)
 have q3:(s.size≤q)=False:=eq_false (by omega)
 have HB:=mkA (Below.refl w.heap.size w)
 have M1:=mkA True.intro
 obtain ⟨c1,k1,r1,v1⟩:=rn_q s (q+1)
 obtain ⟨c2,k2,r2,v2⟩:=rn_q s (q+2)
 have hcd:(c1 == 34)=false∨(c1=34∧(c2 == 34)=false):=by
  rcases v1 with v1 | v1
  ·rcases v2 with v2 | v2
   ·have:=(tri_iff s q).2 ⟨⟨hq,hb⟩,v1.1,v2.1⟩;rw [this] at htri;cases htri
   ·exact .inr ⟨v1.2.1,v2.2⟩
  ·exact .inl v1.2
 obtain ⟨q1',hq1'⟩:∃ x:Nat,x=q+1:=⟨_,rfl⟩
 obtain ⟨q2',hq2'⟩:∃ x:Nat,x=q+2:=⟨_,rfl⟩
 rw [← hq1'] at r1
 rw [← hq2'] at r2
 have C0:=mkA (fun (w:World) (hs:Src w g b cap s)=>(show Calls Tryz.prog 129 #[.slice (some ⟨b,0,none⟩) s.size cap,.int .i64 q] w fun e w'=>e=.returned (.tuple #[.int .i32 34,.int .i64 1])∧Below w.heap.size w w' by
  have h:=runeAt_any hs q
  rw [hr] at h
  exact h))
 have C1:=mkA (fun (w:World) (hs:Src w g b cap s)=>(show Calls Tryz.prog 129 #[.slice (some ⟨b,0,none⟩) s.size cap,.int .i64 q1'] w fun e w'=>e=.returned (.tuple #[.int .i32 c1,.int .i64 k1])∧Below w.heap.size w w' by
  have h:=runeAt_any hs q1'
  rw [r1] at h
  exact h))
 have C2:=mkA (fun (w:World) (hs:Src w g b cap s)=>(show Calls Tryz.prog 129 #[.slice (some ⟨b,0,none⟩) s.size cap,.int .i64 q2'] w fun e w'=>e=.returned (.tuple #[.int .i32 c2,.int .i64 k2])∧Below w.heap.size w w' by
  have h:=runeAt_any hs q2'
  rw [r2] at h
  exact h))
 have hz:=HSM.out
 have y1:wrap64 ((q:Int)+1)=(q1':Int):=w_at (by omega) (by omega)
 have y2:wrap64 ((q:Int)+2)=(q2':Int):=w_at (by omega) (by omega)
 have M2:=mkA True.intro
 have M3:=mkA True.intro
 clear h hsc hp hq hr hb r1 r2 v1 v2 hq1' hq2' hz htri
 rcases hcd with hcd | ⟨rfl,hcd⟩
 all_goals
  go_enter Tryz.func99,Tryz.ntmps99
  go_wp2_with (first
   | ((with_reducible refine gate_dst (N:=4) rfl ?_);refine bxz ?hr ?_;(case hr=>first | (go_simp;done) | (go_simp;rfl));intro gb hg w2 hbox hb;have n0_:=mkA (below_step HB.out hb);have GE:=mkA ((by rw [hg];exact below_size HB.out:w.heap.size≤gb));clear HB;have HB:=n0_;have BK:=mkA hbox;clear n0_ hb hbox hg;have hc0:=(HS.out.below HB.out).body)
   | (go_at_call 127;(with_reducible refine (HPW.out _ (HS.out.below HB.out)).mono ?_);rintro e w3 ⟨rfl,hB⟩;replace HB:=mkA (below_step HB.out hB);replace BK:=mkA (blk_below BK.out hB);clear hB)
   | (clear M1;go_at_call 129;(with_reducible refine (C0.out _ (HS.out.below HB.out)).mono ?_);rintro e w4 ⟨rfl,hB⟩;replace HB:=mkA (below_step HB.out hB);replace BK:=mkA (blk_below BK.out hB);clear hB)
   | ((with_reducible refine gate_dst (N:=18) rfl ?_);refine bxz ?hr ?_;(case hr=>first | (go_simp;done) | (go_simp;rfl));intro gt hg w5 hbox hb;have n0_:=mkA (below_step HB.out hb);have GT:=mkA ((by rw [hg];exact below_size HB.out:w.heap.size≤gt));have NE:=mkA ((by rw [hg];exact Nat.ne_of_lt (blk_lt BK.out)):gb≠gt);have n1_:=mkA (blk_below BK.out hb);clear HB BK;have HB:=n0_;have BK:=n1_;have BT:=mkA hbox;clear n0_ n1_ hb hbox hg;have hne:=NE.out;have hne2:gt≠gb:=fun e=>NE.out e.symm)
   | (clear M2;go_at_call 129;(with_reducible refine (C1.out _ (HS.out.below HB.out)).mono ?_);rintro e w6 ⟨rfl,hB⟩;replace HB:=mkA (below_step HB.out hB);replace BK:=mkA (blk_below BK.out hB);replace BT:=mkA (blk_below BT.out hB);clear hB)
   | (clear M3;go_at_call 129;(with_reducible refine (C2.out _ (HS.out.below HB.out)).mono ?_);rintro e w7 ⟨rfl,hB⟩;replace HB:=mkA (below_step HB.out hB);replace BK:=mkA (blk_below BK.out hB);replace BT:=mkA (blk_below BT.out hB);clear hB)
   | (go_at_call 133;(with_reducible refine (CN.out _ (HS.out.below HB.out)).mono ?_);rintro e w8 ⟨⟨ge,rfl⟩,hB⟩;replace HB:=mkA (below_step HB.out hB);replace BK:=mkA (blk_below BK.out hB);replace BT:=mkA (blk_below BT.out hB);clear hB;obtain ⟨hz0,hz1,hz2,hz3,hf0,hf1,hf2,hf3⟩:=tkz BK.out;obtain ⟨tz0,tz1,tz2,tz3,tf0,tf1,tf2,tf3⟩:=tkz BT.out))
  refine bodyPost_ret (results_ct rfl _ _ gb 63 #[.int .i64 0,.int .i64 0,.int .i64 0,.string ⟨#[]⟩] (0,0) _ rfl (by refine blk_put (cs:=#[.int .i64 0,.int .i64 0,.int .i64 0,.string ⟨#[]⟩]) ?_ 3 _ rfl;refine blk_put (cs:=#[.int .i64 0,.int .i64 0,.int .i64 0,.string ⟨#[]⟩]) ?_ 2 _ rfl;refine blk_put (cs:=#[.int .i64 0,.int .i64 0,.int .i64 0,.string ⟨#[]⟩]) ?_ 1 _ rfl;refine blk_put (cs:=#[.int .i64 0,.int .i64 0,.int .i64 0,.string ⟨#[]⟩]) ?_ 0 _ rfl;refine blk_far ?_ NE.out _;refine blk_far ?_ NE.out _;refine blk_far ?_ NE.out _;refine blk_far ?_ NE.out _;exact BK.out) Tryz.underlying63 rfl (by kernel_rfl)) rfl ?_
  exact ⟨⟨ge,rfl⟩,below_set (below_set (below_set (below_set (below_set (below_set (below_set (below_set (HB.out) GT.out) GT.out) GT.out) GT.out) GE.out) GE.out) GE.out) GE.out⟩
theorem rtk_blk {w:World} {g b cap:Nat} {s:ByteArray} (h:Src w g b cap s) (p q:Nat) (hsc:Sc s false p=some q) (hq:q < s.size) (hb:bt s q=34) (htri:tri (dr s q)=true) (X:List UInt8) (z:Nat) (hz':z≤s.size) (hx:Bk X (dr s (q+3)) (dr s z)) (V:ByteArray) (hV:BVal X V) :
 Calls Tryz.prog 99 #[.pointer (some ⟨g,0,none⟩),.int .i64 p] w fun e w'=>e=.returned (.tuple #[.agg #[.int .i64 19,.int .i64 q,.int .i64 (z:Nat),.string V],.nilIface])∧Below w.heap.size w w':=by
 have HS:=mkA h
 have HSM:=mkA h.small
 have hp:=sc_at hsc
 have HQL:=mkA (sc_le hsc).2.1
 have HPW:=mkA (fun (w:World) (hs:Src w g b cap s)=>paw_walk s b cap w hs.glob hs.small hs.cap hs.bytes p hp q hsc)
 have hr:=rn_low s q _ hq hb (by decide)
 have h3:q+3≤s.size:=by obtain ⟨_,_,g2⟩:=(tri_iff s q).1 htri;exact g2.1
 have CN:=mkA (fun (w:World) (hs:Src w g b cap s)=>(show Calls Tryz.prog 132 #[.pointer (some ⟨g,0,none⟩),.int .i64 q] w fun e w'=>e=.returned (.tuple #[.agg #[.int .i64 19,.int .i64 q,.int .i64 (z:Nat),.string V],.nilIface])∧Below w.heap.size w w' from readBlock_ok hs q h3 X z hz' hx V hV))
 have q1:((s.size:Int)≤(q:Int))=False:=eq_false (by omega)
 have q2:decide ((s.size:Int)≤(q:Int))=false:=decide_eq_false (by omega)
 have q3:(s.size≤q)=False:=eq_false (by omega)
 have HB:=mkA (Below.refl w.heap.size w)
 have M1:=mkA True.intro
 obtain ⟨c1,k1,r1,v1⟩:=rn_q s (q+1)
 obtain ⟨c2,k2,r2,v2⟩:=rn_q s (q+2)
 have hcd:c1=34∧c2=34:=by
  obtain ⟨_,g1,g2⟩:=(tri_iff s q).1 htri
  rcases v1 with v1 | v1
  ·rcases v2 with v2 | v2
   ·exact ⟨v1.2.1,v2.2.1⟩
   ·exact absurd g2 v2.1
  ·exact absurd g1 v1.1
 obtain ⟨q1',hq1'⟩:∃ x:Nat,x=q+1:=⟨_,rfl⟩
 obtain ⟨q2',hq2'⟩:∃ x:Nat,x=q+2:=⟨_,rfl⟩
 rw [← hq1'] at r1
 rw [← hq2'] at r2
 have C0:=mkA (fun (w:World) (hs:Src w g b cap s)=>(show Calls Tryz.prog 129 #[.slice (some ⟨b,0,none⟩) s.size cap,.int .i64 q] w fun e w'=>e=.returned (.tuple #[.int .i32 34,.int .i64 1])∧Below w.heap.size w w' by
  have h:=runeAt_any hs q
  rw [hr] at h
  exact h))
 have C1:=mkA (fun (w:World) (hs:Src w g b cap s)=>(show Calls Tryz.prog 129 #[.slice (some ⟨b,0,none⟩) s.size cap,.int .i64 q1'] w fun e w'=>e=.returned (.tuple #[.int .i32 c1,.int .i64 k1])∧Below w.heap.size w w' by
  have h:=runeAt_any hs q1'
  rw [r1] at h
  exact h))
 have C2:=mkA (fun (w:World) (hs:Src w g b cap s)=>(show Calls Tryz.prog 129 #[.slice (some ⟨b,0,none⟩) s.size cap,.int .i64 q2'] w fun e w'=>e=.returned (.tuple #[.int .i32 c2,.int .i64 k2])∧Below w.heap.size w w' by
  have h:=runeAt_any hs q2'
  rw [r2] at h
  exact h))
 have hz:=HSM.out
 have y1:wrap64 ((q:Int)+1)=(q1':Int):=w_at (by omega) (by omega)
 have y2:wrap64 ((q:Int)+2)=(q2':Int):=w_at (by omega) (by omega)
 have M2:=mkA True.intro
 have M3:=mkA True.intro
 clear h hsc hp hq hr hb r1 r2 v1 v2 hq1' hq2' hz htri
 obtain ⟨rfl,rfl⟩:=hcd
 go_enter Tryz.func99,Tryz.ntmps99
 go_wp2_with (first
  | ((with_reducible refine gate_dst (N:=4) rfl ?_);refine bxz ?hr ?_;(case hr=>first | (go_simp;done) | (go_simp;rfl));intro gb hg w2 hbox hb;have n0_:=mkA (below_step HB.out hb);have GE:=mkA ((by rw [hg];exact below_size HB.out:w.heap.size≤gb));clear HB;have HB:=n0_;have BK:=mkA hbox;clear n0_ hb hbox hg;have hc0:=(HS.out.below HB.out).body)
  | (go_at_call 127;(with_reducible refine (HPW.out _ (HS.out.below HB.out)).mono ?_);rintro e w3 ⟨rfl,hB⟩;replace HB:=mkA (below_step HB.out hB);replace BK:=mkA (blk_below BK.out hB);clear hB)
  | (clear M1;go_at_call 129;(with_reducible refine (C0.out _ (HS.out.below HB.out)).mono ?_);rintro e w4 ⟨rfl,hB⟩;replace HB:=mkA (below_step HB.out hB);replace BK:=mkA (blk_below BK.out hB);clear hB)
  | ((with_reducible refine gate_dst (N:=18) rfl ?_);refine bxz ?hr ?_;(case hr=>first | (go_simp;done) | (go_simp;rfl));intro gt hg w5 hbox hb;have n0_:=mkA (below_step HB.out hb);have GT:=mkA ((by rw [hg];exact below_size HB.out:w.heap.size≤gt));have NE:=mkA ((by rw [hg];exact Nat.ne_of_lt (blk_lt BK.out)):gb≠gt);have n1_:=mkA (blk_below BK.out hb);clear HB BK;have HB:=n0_;have BK:=n1_;have BT:=mkA hbox;clear n0_ n1_ hb hbox hg;have hne:=NE.out;have hne2:gt≠gb:=fun e=>NE.out e.symm)
  | (clear M2;go_at_call 129;(with_reducible refine (C1.out _ (HS.out.below HB.out)).mono ?_);rintro e w6 ⟨rfl,hB⟩;replace HB:=mkA (below_step HB.out hB);replace BK:=mkA (blk_below BK.out hB);replace BT:=mkA (blk_below BT.out hB);clear hB)
  | (clear M3;go_at_call 129;(with_reducible refine (C2.out _ (HS.out.below HB.out)).mono ?_);rintro e w7 ⟨rfl,hB⟩;replace HB:=mkA (below_step HB.out hB);replace BK:=mkA (blk_below BK.out hB);replace BT:=mkA (blk_below BT.out hB);clear hB)
  | (go_at_call 132;(with_reducible refine (CN.out _ (HS.out.below HB.out)).mono ?_);rintro e w8 ⟨rfl,hB⟩;replace HB:=mkA (below_step HB.out hB);replace BK:=mkA (blk_below BK.out hB);replace BT:=mkA (blk_below BT.out hB);clear hB;obtain ⟨hz0,hz1,hz2,hz3,hf0,hf1,hf2,hf3⟩:=tkz BK.out;obtain ⟨tz0,tz1,tz2,tz3,tf0,tf1,tf2,tf3⟩:=tkz BT.out))
 refine bodyPost_ret (results_ct rfl _ _ gb 63 #[(.int .i64 19),(.int .i64 q),(.int .i64 z),(.string V)] (0,0) _ rfl (by refine blk_put (cs:=#[(.int .i64 19),(.int .i64 q),(.int .i64 z),.string ⟨#[]⟩]) ?_ 3 _ rfl;refine blk_put (cs:=#[(.int .i64 19),(.int .i64 q),.int .i64 0,.string ⟨#[]⟩]) ?_ 2 _ rfl;refine blk_put (cs:=#[(.int .i64 19),.int .i64 0,.int .i64 0,.string ⟨#[]⟩]) ?_ 1 _ rfl;refine blk_put (cs:=#[.int .i64 0,.int .i64 0,.int .i64 0,.string ⟨#[]⟩]) ?_ 0 _ rfl;refine blk_far ?_ NE.out _;refine blk_far ?_ NE.out _;refine blk_far ?_ NE.out _;refine blk_far ?_ NE.out _;exact BK.out) Tryz.underlying63 rfl (by kernel_rfl)) rfl ?_
 exact ⟨rfl,below_set (below_set (below_set (below_set (below_set (below_set (below_set (below_set (HB.out) GT.out) GT.out) GT.out) GT.out) GE.out) GE.out) GE.out) GE.out⟩
theorem rtk_blkbad {w:World} {g b cap:Nat} {s:ByteArray} (h:Src w g b cap s) (p q:Nat) (hsc:Sc s false p=some q) (hq:q < s.size) (hb:bt s q=34) (htri:tri (dr s q)=true) (hx:Bb (dr s (q+3))) :
 Calls Tryz.prog 99 #[.pointer (some ⟨g,0,none⟩),.int .i64 p] w fun e w'=>(∃ ge:Nat,e=.returned (.tuple #[.agg #[.int .i64 0,.int .i64 0,.int .i64 0,.string ⟨#[]⟩],.iface 206 (.pointer (some ⟨ge,0,none⟩))]))∧Below w.heap.size w w':=by
 have HS:=mkA h
 have HSM:=mkA h.small
 have hp:=sc_at hsc
 have HQL:=mkA (sc_le hsc).2.1
 have HPW:=mkA (fun (w:World) (hs:Src w g b cap s)=>paw_walk s b cap w hs.glob hs.small hs.cap hs.bytes p hp q hsc)
 have hr:=rn_low s q _ hq hb (by decide)
 have h3:q+3≤s.size:=by obtain ⟨_,_,g2⟩:=(tri_iff s q).1 htri;exact g2.1
 have CN:=mkA (fun (w:World) (hs:Src w g b cap s)=>(show Calls Tryz.prog 132 #[.pointer (some ⟨g,0,none⟩),.int .i64 q] w fun e w'=>(∃ ge:Nat,e=.returned (.tuple #[.agg #[.int .i64 0,.int .i64 0,.int .i64 0,.string ⟨#[]⟩],.iface 206 (.pointer (some ⟨ge,0,none⟩))]))∧Below w.heap.size w w' from readBlock_bad hs q h3 hx))
 have q1:((s.size:Int)≤(q:Int))=False:=eq_false (by omega)
 have q2:decide ((s.size:Int)≤(q:Int))=false:=decide_eq_false (by omega)
 have q3:(s.size≤q)=False:=eq_false (by omega)
 have HB:=mkA (Below.refl w.heap.size w)
 have M1:=mkA True.intro
 obtain ⟨c1,k1,r1,v1⟩:=rn_q s (q+1)
 obtain ⟨c2,k2,r2,v2⟩:=rn_q s (q+2)
 have hcd:c1=34∧c2=34:=by
  obtain ⟨_,g1,g2⟩:=(tri_iff s q).1 htri
  rcases v1 with v1 | v1
  ·rcases v2 with v2 | v2
   ·exact ⟨v1.2.1,v2.2.1⟩
   ·exact absurd g2 v2.1
  ·exact absurd g1 v1.1
 obtain ⟨q1',hq1'⟩:∃ x:Nat,x=q+1:=⟨_,rfl⟩
 obtain ⟨q2',hq2'⟩:∃ x:Nat,x=q+2:=⟨_,rfl⟩
 rw [← hq1'] at r1
 rw [← hq2'] at r2
 have C0:=mkA (fun (w:World) (hs:Src w g b cap s)=>(show Calls Tryz.prog 129 #[.slice (some ⟨b,0,none⟩) s.size cap,.int .i64 q] w fun e w'=>e=.returned (.tuple #[.int .i32 34,.int .i64 1])∧Below w.heap.size w w' by
  have h:=runeAt_any hs q
  rw [hr] at h
  exact h))
 have C1:=mkA (fun (w:World) (hs:Src w g b cap s)=>(show Calls Tryz.prog 129 #[.slice (some ⟨b,0,none⟩) s.size cap,.int .i64 q1'] w fun e w'=>e=.returned (.tuple #[.int .i32 c1,.int .i64 k1])∧Below w.heap.size w w' by
  have h:=runeAt_any hs q1'
  rw [r1] at h
  exact h))
 have C2:=mkA (fun (w:World) (hs:Src w g b cap s)=>(show Calls Tryz.prog 129 #[.slice (some ⟨b,0,none⟩) s.size cap,.int .i64 q2'] w fun e w'=>e=.returned (.tuple #[.int .i32 c2,.int .i64 k2])∧Below w.heap.size w w' by
  have h:=runeAt_any hs q2'
  rw [r2] at h
  exact h))
 have hz:=HSM.out
 have y1:wrap64 ((q:Int)+1)=(q1':Int):=w_at (by omega) (by omega)
 have y2:wrap64 ((q:Int)+2)=(q2':Int):=w_at (by omega) (by omega)
 have M2:=mkA True.intro
 have M3:=mkA True.intro
 clear h hsc hp hq hr hb r1 r2 v1 v2 hq1' hq2' hz htri
 obtain ⟨rfl,rfl⟩:=hcd
 go_enter Tryz.func99,Tryz.ntmps99
 go_wp2_with (first
  | ((with_reducible refine gate_dst (N:=4) rfl ?_);refine bxz ?hr ?_;(case hr=>first | (go_simp;done) | (go_simp;rfl));intro gb hg w2 hbox hb;have n0_:=mkA (below_step HB.out hb);have GE:=mkA ((by rw [hg];exact below_size HB.out:w.heap.size≤gb));clear HB;have HB:=n0_;have BK:=mkA hbox;clear n0_ hb hbox hg;have hc0:=(HS.out.below HB.out).body)
  | (go_at_call 127;(with_reducible refine (HPW.out _ (HS.out.below HB.out)).mono ?_);rintro e w3 ⟨rfl,hB⟩;replace HB:=mkA (below_step HB.out hB);replace BK:=mkA (blk_below BK.out hB);clear hB)
  | (clear M1;go_at_call 129;(with_reducible refine (C0.out _ (HS.out.below HB.out)).mono ?_);rintro e w4 ⟨rfl,hB⟩;replace HB:=mkA (below_step HB.out hB);replace BK:=mkA (blk_below BK.out hB);clear hB)
  | ((with_reducible refine gate_dst (N:=18) rfl ?_);refine bxz ?hr ?_;(case hr=>first | (go_simp;done) | (go_simp;rfl));intro gt hg w5 hbox hb;have n0_:=mkA (below_step HB.out hb);have GT:=mkA ((by rw [hg];exact below_size HB.out:w.heap.size≤gt));have NE:=mkA ((by rw [hg];exact Nat.ne_of_lt (blk_lt BK.out)):gb≠gt);have n1_:=mkA (blk_below BK.out hb);clear HB BK;have HB:=n0_;have BK:=n1_;have BT:=mkA hbox;clear n0_ n1_ hb hbox hg;have hne:=NE.out;have hne2:gt≠gb:=fun e=>NE.out e.symm)
  | (clear M2;go_at_call 129;(with_reducible refine (C1.out _ (HS.out.below HB.out)).mono ?_);rintro e w6 ⟨rfl,hB⟩;replace HB:=mkA (below_step HB.out hB);replace BK:=mkA (blk_below BK.out hB);replace BT:=mkA (blk_below BT.out hB);clear hB)
  | (clear M3;go_at_call 129;(with_reducible refine (C2.out _ (HS.out.below HB.out)).mono ?_);rintro e w7 ⟨rfl,hB⟩;replace HB:=mkA (below_step HB.out hB);replace BK:=mkA (blk_below BK.out hB);replace BT:=mkA (blk_below BT.out hB);clear hB)
  | (go_at_call 132;(with_reducible refine (CN.out _ (HS.out.below HB.out)).mono ?_);rintro e w8 ⟨⟨ge,rfl⟩,hB⟩;replace HB:=mkA (below_step HB.out hB);replace BK:=mkA (blk_below BK.out hB);replace BT:=mkA (blk_below BT.out hB);clear hB;obtain ⟨hz0,hz1,hz2,hz3,hf0,hf1,hf2,hf3⟩:=tkz BK.out;obtain ⟨tz0,tz1,tz2,tz3,tf0,tf1,tf2,tf3⟩:=tkz BT.out))
 refine bodyPost_ret (results_ct rfl _ _ gb 63 #[.int .i64 0,.int .i64 0,.int .i64 0,.string ⟨#[]⟩] (0,0) _ rfl (by refine blk_put (cs:=#[.int .i64 0,.int .i64 0,.int .i64 0,.string ⟨#[]⟩]) ?_ 3 _ rfl;refine blk_put (cs:=#[.int .i64 0,.int .i64 0,.int .i64 0,.string ⟨#[]⟩]) ?_ 2 _ rfl;refine blk_put (cs:=#[.int .i64 0,.int .i64 0,.int .i64 0,.string ⟨#[]⟩]) ?_ 1 _ rfl;refine blk_put (cs:=#[.int .i64 0,.int .i64 0,.int .i64 0,.string ⟨#[]⟩]) ?_ 0 _ rfl;refine blk_far ?_ NE.out _;refine blk_far ?_ NE.out _;refine blk_far ?_ NE.out _;refine blk_far ?_ NE.out _;exact BK.out) Tryz.underlying63 rfl (by kernel_rfl)) rfl ?_
 exact ⟨⟨ge,rfl⟩,below_set (below_set (below_set (below_set (below_set (below_set (below_set (below_set (HB.out) GT.out) GT.out) GT.out) GT.out) GE.out) GE.out) GE.out) GE.out⟩
end Go.Proofs.YthgcghpcikbnkaaGreatDoor.R
