/- A part of the proof of the theorem of this claim: Rt4. No condition of its own. -/
import Derived.Test.YthgcghpcikbnkaaGreatDoorC18
set_option maxHeartbeats 16000000
set_option maxRecDepth 100000
namespace Go.Proofs.YthgcghpcikbnkaaGreatDoor.R
open Go.RowKit Go.Proofs.YthgcghpcikbnkaaGreatDoorW.PrintWords Go.Proofs.YthgcghpcikbnkaaGreatDoorW.PrintLast Go.Proofs.YthgcghpcikbnkaaGreatDoorW.PrintMore
set_option linter.unusedVariables false
set_option linter.unusedSimpArgs false
theorem rtk_numb {w:World} {g b cap:Nat} {s:ByteArray} (h:Src w g b cap s) (p q:Nat) (hsc:Sc s false p=some q) (hq:q < s.size) (hb:bt s q=45∨bt s q=48∨bt s q=49∨bt s q=50∨bt s q=51∨bt s q=52∨bt s q=53∨bt s q=54∨bt s q=55∨bt s q=56∨bt s q=57) (k:Int) (z:Nat) (hn:numAt s q=some (k,z)) :
 Calls Tryz.prog 99 #[.pointer (some ⟨g,0,none⟩),.int .i64 p] w fun e w'=>e=.returned (.tuple #[.agg #[.int .i64 k,.int .i64 q,.int .i64 (z:Nat),.string (s.extract q z)],.nilIface])∧Below w.heap.size w w':=by
 have HS:=mkA h
 have HSM:=mkA h.small
 have hp:=sc_at hsc
 have HQL:=mkA (sc_le hsc).2.1
 have HPW:=mkA (fun (w:World) (hs:Src w g b cap s)=>paw_walk s b cap w hs.glob hs.small hs.cap hs.bytes p hp q hsc)
 have hr:=rn_low s q _ hq rfl (show bt s q < 128 by omega)
 have CN:=mkA (fun (w:World) (hs:Src w g b cap s)=>(show Calls Tryz.prog 131 #[.pointer (some ⟨g,0,none⟩),.int .i64 q,.int .i32 (bt s q),.int .i64 1] w fun e w'=>e=.returned (.tuple #[.agg #[.int .i64 k,.int .i64 q,.int .i64 (z:Nat),.string (s.extract q z)],.nilIface])∧Below w.heap.size w w' from (readNumber_walk hs q hq _ _ hr).mono fun e w' x=>by
  obtain ⟨x1 | ⟨k',z',x1,_,x2⟩,x3⟩:=x
  ·rw [hn] at x1;cases x1.1
  ·rw [hn] at x1;cases x1;exact ⟨x2,x3⟩))
 generalize bt s q=c at hr hb CN
 have q1:((s.size:Int)≤(q:Int))=False:=eq_false (by omega)
 have q2:decide ((s.size:Int)≤(q:Int))=false:=decide_eq_false (by omega)
 have q3:(s.size≤q)=False:=eq_false (by omega)
 have C0:=mkA (fun (w:World) (hs:Src w g b cap s)=>(show Calls Tryz.prog 129 #[.slice (some ⟨b,0,none⟩) s.size cap,.int .i64 q] w fun e w'=>e=.returned (.tuple #[.int .i32 c,.int .i64 1])∧Below w.heap.size w w' by
  have h:=runeAt_any hs q
  rw [hr] at h
  exact h))
 have HB:=mkA (Below.refl w.heap.size w)
 have M1:=mkA True.intro
 clear h hsc hp hq hr
 rcases hb with rfl | rfl | rfl | rfl | rfl | rfl | rfl | rfl | rfl | rfl | rfl
 all_goals
  go_enter Tryz.func99,Tryz.ntmps99
  go_wp2_with (first
   | ((with_reducible refine gate_dst (N:=4) rfl ?_);refine bxz ?hr ?_;(case hr=>first | (go_simp;done) | (go_simp;rfl));intro gb hg w2 hbox hb;have n0_:=mkA (below_step HB.out hb);have GE:=mkA ((by rw [hg];exact below_size HB.out:w.heap.size≤gb));clear HB;have HB:=n0_;have BK:=mkA hbox;clear n0_ hb hbox hg;have hc0:=(HS.out.below HB.out).body)
   | (go_at_call 127;(with_reducible refine (HPW.out _ (HS.out.below HB.out)).mono ?_);rintro e w3 ⟨rfl,hB⟩;replace HB:=mkA (below_step HB.out hB);replace BK:=mkA (blk_below BK.out hB);clear hB)
   | (clear M1;go_at_call 129;(with_reducible refine (C0.out _ (HS.out.below HB.out)).mono ?_);rintro e w4 ⟨rfl,hB⟩;replace HB:=mkA (below_step HB.out hB);replace BK:=mkA (blk_below BK.out hB);clear hB)
   | ((with_reducible refine gate_dst (N:=16) rfl ?_);refine bxz ?hr ?_;(case hr=>first | (go_simp;done) | (go_simp;rfl));intro gt hg w5 hbox hb;have n0_:=mkA (below_step HB.out hb);have GT:=mkA ((by rw [hg];exact below_size HB.out:w.heap.size≤gt));have NE:=mkA ((by rw [hg];exact Nat.ne_of_lt (blk_lt BK.out)):gb≠gt);have n1_:=mkA (blk_below BK.out hb);clear HB BK;have HB:=n0_;have BK:=n1_;have BT:=mkA hbox;clear n0_ n1_ hb hbox hg;have hne:=NE.out;have hne2:gt≠gb:=fun e=>NE.out e.symm;obtain ⟨hz0,hz1,hz2,hz3,hf0,hf1,hf2,hf3⟩:=tkz BK.out;obtain ⟨tz0,tz1,tz2,tz3,tf0,tf1,tf2,tf3⟩:=tkz BT.out)
   | (go_at_call 131;(with_reducible refine (CN.out _ (HS.out.below HB.out)).mono ?_);rintro e w6 ⟨rfl,hB⟩;replace HB:=mkA (below_step HB.out hB);replace BK:=mkA (blk_below BK.out hB);clear hB))
  refine bodyPost_ret (results_ct rfl _ _ gb 63 #[(.int .i64 k),(.int .i64 q),(.int .i64 z),(.string (s.extract q z))] (0,0) _ rfl (by refine blk_put (cs:=#[(.int .i64 k),(.int .i64 q),(.int .i64 z),.string ⟨#[]⟩]) ?_ 3 _ rfl;refine blk_put (cs:=#[(.int .i64 k),(.int .i64 q),.int .i64 0,.string ⟨#[]⟩]) ?_ 2 _ rfl;refine blk_put (cs:=#[(.int .i64 k),.int .i64 0,.int .i64 0,.string ⟨#[]⟩]) ?_ 1 _ rfl;refine blk_put (cs:=#[.int .i64 0,.int .i64 0,.int .i64 0,.string ⟨#[]⟩]) ?_ 0 _ rfl;refine blk_far ?_ NE.out _;refine blk_far ?_ NE.out _;refine blk_far ?_ NE.out _;refine blk_far ?_ NE.out _;exact BK.out) Tryz.underlying63 rfl (by kernel_rfl)) rfl ?_
  exact ⟨rfl,below_set (below_set (below_set (below_set (below_set (below_set (below_set (below_set (HB.out) GT.out) GT.out) GT.out) GT.out) GE.out) GE.out) GE.out) GE.out⟩
theorem rtk_nobad {w:World} {g b cap:Nat} {s:ByteArray} (h:Src w g b cap s) (p q:Nat) (hsc:Sc s false p=some q) (hq:q < s.size) (hb:bt s q=45∨bt s q=48∨bt s q=49∨bt s q=50∨bt s q=51∨bt s q=52∨bt s q=53∨bt s q=54∨bt s q=55∨bt s q=56∨bt s q=57) (hn:numAt s q=none) :
 Calls Tryz.prog 99 #[.pointer (some ⟨g,0,none⟩),.int .i64 p] w fun e w'=>(∃ ge:Nat,e=.returned (.tuple #[.agg #[.int .i64 0,.int .i64 0,.int .i64 0,.string ⟨#[]⟩],.iface 206 (.pointer (some ⟨ge,0,none⟩))]))∧Below w.heap.size w w':=by
 have HS:=mkA h
 have HSM:=mkA h.small
 have hp:=sc_at hsc
 have HQL:=mkA (sc_le hsc).2.1
 have HPW:=mkA (fun (w:World) (hs:Src w g b cap s)=>paw_walk s b cap w hs.glob hs.small hs.cap hs.bytes p hp q hsc)
 have hr:=rn_low s q _ hq rfl (show bt s q < 128 by omega)
 have CN:=mkA (fun (w:World) (hs:Src w g b cap s)=>(show Calls Tryz.prog 131 #[.pointer (some ⟨g,0,none⟩),.int .i64 q,.int .i32 (bt s q),.int .i64 1] w fun e w'=>(∃ ge:Nat,e=.returned (.tuple #[.agg #[.int .i64 0,.int .i64 0,.int .i64 0,.string ⟨#[]⟩],.iface 206 (.pointer (some ⟨ge,0,none⟩))]))∧Below w.heap.size w w' from (readNumber_walk hs q hq _ _ hr).mono fun e w' x=>by
  obtain ⟨x1 | ⟨k',z',x1,_,x2⟩,x3⟩:=x
  ·exact ⟨x1.2,x3⟩
  ·rw [hn] at x1;cases x1))
 generalize bt s q=c at hr hb CN
 have q1:((s.size:Int)≤(q:Int))=False:=eq_false (by omega)
 have q2:decide ((s.size:Int)≤(q:Int))=false:=decide_eq_false (by omega)
 have q3:(s.size≤q)=False:=eq_false (by omega)
 have C0:=mkA (fun (w:World) (hs:Src w g b cap s)=>(show Calls Tryz.prog 129 #[.slice (some ⟨b,0,none⟩) s.size cap,.int .i64 q] w fun e w'=>e=.returned (.tuple #[.int .i32 c,.int .i64 1])∧Below w.heap.size w w' by
  have h:=runeAt_any hs q
  rw [hr] at h
  exact h))
 have HB:=mkA (Below.refl w.heap.size w)
 have M1:=mkA True.intro
 clear h hsc hp hq hr
 rcases hb with rfl | rfl | rfl | rfl | rfl | rfl | rfl | rfl | rfl | rfl | rfl
 all_goals
  go_enter Tryz.func99,Tryz.ntmps99
  go_wp2_with (first
   | ((with_reducible refine gate_dst (N:=4) rfl ?_);refine bxz ?hr ?_;(case hr=>first | (go_simp;done) | (go_simp;rfl));intro gb hg w2 hbox hb;have n0_:=mkA (below_step HB.out hb);have GE:=mkA ((by rw [hg];exact below_size HB.out:w.heap.size≤gb));clear HB;have HB:=n0_;have BK:=mkA hbox;clear n0_ hb hbox hg;have hc0:=(HS.out.below HB.out).body)
   | (go_at_call 127;(with_reducible refine (HPW.out _ (HS.out.below HB.out)).mono ?_);rintro e w3 ⟨rfl,hB⟩;replace HB:=mkA (below_step HB.out hB);replace BK:=mkA (blk_below BK.out hB);clear hB)
   | (clear M1;go_at_call 129;(with_reducible refine (C0.out _ (HS.out.below HB.out)).mono ?_);rintro e w4 ⟨rfl,hB⟩;replace HB:=mkA (below_step HB.out hB);replace BK:=mkA (blk_below BK.out hB);clear hB)
   | ((with_reducible refine gate_dst (N:=16) rfl ?_);refine bxz ?hr ?_;(case hr=>first | (go_simp;done) | (go_simp;rfl));intro gt hg w5 hbox hb;have n0_:=mkA (below_step HB.out hb);have GT:=mkA ((by rw [hg];exact below_size HB.out:w.heap.size≤gt));have NE:=mkA ((by rw [hg];exact Nat.ne_of_lt (blk_lt BK.out)):gb≠gt);have n1_:=mkA (blk_below BK.out hb);clear HB BK;have HB:=n0_;have BK:=n1_;have BT:=mkA hbox;clear n0_ n1_ hb hbox hg;have hne:=NE.out;have hne2:gt≠gb:=fun e=>NE.out e.symm;obtain ⟨hz0,hz1,hz2,hz3,hf0,hf1,hf2,hf3⟩:=tkz BK.out;obtain ⟨tz0,tz1,tz2,tz3,tf0,tf1,tf2,tf3⟩:=tkz BT.out)
   | (go_at_call 131;(with_reducible refine (CN.out _ (HS.out.below HB.out)).mono ?_);rintro e w6 ⟨⟨ge,rfl⟩,hB⟩;replace HB:=mkA (below_step HB.out hB);replace BK:=mkA (blk_below BK.out hB);clear hB))
  refine bodyPost_ret (results_ct rfl _ _ gb 63 #[.int .i64 0,.int .i64 0,.int .i64 0,.string ⟨#[]⟩] (0,0) _ rfl (by refine blk_put (cs:=#[.int .i64 0,.int .i64 0,.int .i64 0,.string ⟨#[]⟩]) ?_ 3 _ rfl;refine blk_put (cs:=#[.int .i64 0,.int .i64 0,.int .i64 0,.string ⟨#[]⟩]) ?_ 2 _ rfl;refine blk_put (cs:=#[.int .i64 0,.int .i64 0,.int .i64 0,.string ⟨#[]⟩]) ?_ 1 _ rfl;refine blk_put (cs:=#[.int .i64 0,.int .i64 0,.int .i64 0,.string ⟨#[]⟩]) ?_ 0 _ rfl;refine blk_far ?_ NE.out _;refine blk_far ?_ NE.out _;refine blk_far ?_ NE.out _;refine blk_far ?_ NE.out _;exact BK.out) Tryz.underlying63 rfl (by kernel_rfl)) rfl ?_
  exact ⟨⟨ge,rfl⟩,below_set (below_set (below_set (below_set (below_set (below_set (below_set (below_set (HB.out) GT.out) GT.out) GT.out) GT.out) GE.out) GE.out) GE.out) GE.out⟩
end Go.Proofs.YthgcghpcikbnkaaGreatDoor.R
