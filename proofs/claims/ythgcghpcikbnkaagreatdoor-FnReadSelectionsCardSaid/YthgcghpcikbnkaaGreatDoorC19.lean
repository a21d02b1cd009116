/- A part of the proof of the theorem of this claim: Rt3. No condition of its own. -/
import Derived.Test.YthgcghpcikbnkaaGreatDoorC18
set_option maxHeartbeats 16000000
set_option maxRecDepth 100000
namespace Go.Proofs.YthgcghpcikbnkaaGreatDoor.R
open Go.RowKit Go.Proofs.YthgcghpcikbnkaaGreatDoorW.PrintWords Go.Proofs.YthgcghpcikbnkaaGreatDoorW.PrintLast Go.Proofs.YthgcghpcikbnkaaGreatDoorW.PrintMore
set_option linter.unusedVariables false
set_option linter.unusedSimpArgs false
theorem rtk_lower1 {w:World} {g b cap:Nat} {s:ByteArray} (h:Src w g b cap s) (p q:Nat) (hsc:Sc s false p=some q) (hq:q < s.size) (hb:bt s q=95∨bt s q=97∨bt s q=98∨bt s q=99∨bt s q=100∨bt s q=101∨bt s q=102∨bt s q=103∨bt s q=104∨bt s q=105∨bt s q=106∨bt s q=107∨bt s q=108∨bt s q=109) :
 Calls Tryz.prog 99 #[.pointer (some ⟨g,0,none⟩),.int .i64 p] w fun e w'=>e=.returned (.tuple #[.agg #[.int .i64 15,.int .i64 q,.int .i64 (nm s (q+1):Nat),.string (s.extract q (nm s (q+1)))],.nilIface])∧Below w.heap.size w w':=by
 have HS:=mkA h
 have HSM:=mkA h.small
 have hp:=sc_at hsc
 have HQL:=mkA (sc_le hsc).2.1
 have HPW:=mkA (fun (w:World) (hs:Src w g b cap s)=>paw_walk s b cap w hs.glob hs.small hs.cap hs.bytes p hp q hsc)
 have hr:=rn_low s q _ hq rfl (show bt s q < 128 by omega)
 have CN:=mkA (fun (w:World) (hs:Src w g b cap s)=>readName_walk hs q hq)
 generalize bt s q=c at hr hb
 have q1:((s.size:Int)≤(q:Int))=False:=eq_false (by omega)
 have q2:decide ((s.size:Int)≤(q:Int))=false:=decide_eq_false (by omega)
 have q3:(s.size≤q)=False:=eq_false (by omega)
 have C0:=mkA (fun (w:World) (hs:Src w g b cap s)=>(show Calls Tryz.prog 129 #[.slice (some ⟨b,0,none⟩) s.size cap,.int .i64 q] w fun e w'=>e=.returned (.tuple #[.int .i32 c,.int .i64 1])∧Below w.heap.size w w' by
  have h:=runeAt_any hs q
  rw [hr] at h
  exact h))
 have HB:=mkA (Below.refl w.heap.size w)
 have M1:=mkA True.intro
 clear h hsc hp hq hr
 rcases hb with rfl | rfl | rfl | rfl | rfl | rfl | rfl | rfl | rfl | rfl | rfl | rfl | rfl | rfl
 all_goals
  go_enter Tryz.func99,Tryz.ntmps99
  go_wp2_with (first
   | ((with_reducible refine gate_dst (N:=4) rfl ?_);refine bxz ?hr ?_;(case hr=>first | (go_simp;done) | (go_simp;rfl));intro gb hg w2 hbox hb;have n0_:=mkA (below_step HB.out hb);have GE:=mkA ((by rw [hg];exact below_size HB.out:w.heap.size≤gb));clear HB;have HB:=n0_;have BK:=mkA hbox;clear n0_ hb hbox hg;have hc0:=(HS.out.below HB.out).body)
   | (go_at_call 127;(with_reducible refine (HPW.out _ (HS.out.below HB.out)).mono ?_);rintro e w3 ⟨rfl,hB⟩;replace HB:=mkA (below_step HB.out hB);replace BK:=mkA (blk_below BK.out hB);clear hB)
   | (clear M1;go_at_call 129;(with_reducible refine (C0.out _ (HS.out.below HB.out)).mono ?_);rintro e w4 ⟨rfl,hB⟩;replace HB:=mkA (below_step HB.out hB);replace BK:=mkA (blk_below BK.out hB);clear hB)
   | (go_at_call 130;(with_reducible refine (CN.out _ (HS.out.below HB.out)).mono ?_);rintro e w6 ⟨rfl,hB⟩;replace HB:=mkA (below_step HB.out hB);replace BK:=mkA (blk_below BK.out hB);clear hB;obtain ⟨hz0,hz1,hz2,hz3,hf0,hf1,hf2,hf3⟩:=tkz BK.out))
  refine bodyPost_ret (results_ct rfl _ _ gb 63 #[.int .i64 15,.int .i64 q,.int .i64 (nm s (q+1):Nat),.string (s.extract q (nm s (q+1)))] (0,0) _ rfl (by exact tkp BK.out) Tryz.underlying63 rfl (by kernel_rfl)) rfl ?_
  exact ⟨rfl,below_set (below_set (below_set (below_set (HB.out) GE.out) GE.out) GE.out) GE.out⟩
theorem rtk_lower2 {w:World} {g b cap:Nat} {s:ByteArray} (h:Src w g b cap s) (p q:Nat) (hsc:Sc s false p=some q) (hq:q < s.size) (hb:bt s q=110∨bt s q=111∨bt s q=112∨bt s q=113∨bt s q=114∨bt s q=115∨bt s q=116∨bt s q=117∨bt s q=118∨bt s q=119∨bt s q=120∨bt s q=121∨bt s q=122) :
 Calls Tryz.prog 99 #[.pointer (some ⟨g,0,none⟩),.int .i64 p] w fun e w'=>e=.returned (.tuple #[.agg #[.int .i64 15,.int .i64 q,.int .i64 (nm s (q+1):Nat),.string (s.extract q (nm s (q+1)))],.nilIface])∧Below w.heap.size w w':=by
 have HS:=mkA h
 have HSM:=mkA h.small
 have hp:=sc_at hsc
 have HQL:=mkA (sc_le hsc).2.1
 have HPW:=mkA (fun (w:World) (hs:Src w g b cap s)=>paw_walk s b cap w hs.glob hs.small hs.cap hs.bytes p hp q hsc)
 have hr:=rn_low s q _ hq rfl (show bt s q < 128 by omega)
 have CN:=mkA (fun (w:World) (hs:Src w g b cap s)=>readName_walk hs q hq)
 generalize bt s q=c at hr hb
 have q1:((s.size:Int)≤(q:Int))=False:=eq_false (by omega)
 have q2:decide ((s.size:Int)≤(q:Int))=false:=decide_eq_false (by omega)
 have q3:(s.size≤q)=False:=eq_false (by omega)
 have C0:=mkA (fun (w:World) (hs:Src w g b cap s)=>(show Calls Tryz.prog 129 #[.slice (some ⟨b,0,none⟩) s.size cap,.int .i64 q] w fun e w'=>e=.returned (.tuple #[.int .i32 c,.int .i64 1])∧Below w.heap.size w w' by
  have h:=runeAt_any hs q
  rw [hr] at h
  exact h))
 have HB:=mkA (Below.refl w.heap.size w)
 have M1:=mkA True.intro
 clear h hsc hp hq hr
 rcases hb with rfl | rfl | rfl | rfl | rfl | rfl | rfl | rfl | rfl | rfl | rfl | rfl | rfl
 all_goals
  go_enter Tryz.func99,Tryz.ntmps99
  go_wp2_with (first
   | ((with_reducible refine gate_dst (N:=4) rfl ?_);refine bxz ?hr ?_;(case hr=>first | (go_simp;done) | (go_simp;rfl));intro gb hg w2 hbox hb;have n0_:=mkA (below_step HB.out hb);have GE:=mkA ((by rw [hg];exact below_size HB.out:w.heap.size≤gb));clear HB;have HB:=n0_;have BK:=mkA hbox;clear n0_ hb hbox hg;have hc0:=(HS.out.below HB.out).body)
   | (go_at_call 127;(with_reducible refine (HPW.out _ (HS.out.below HB.out)).mono ?_);rintro e w3 ⟨rfl,hB⟩;replace HB:=mkA (below_step HB.out hB);replace BK:=mkA (blk_below BK.out hB);clear hB)
   | (clear M1;go_at_call 129;(with_reducible refine (C0.out _ (HS.out.below HB.out)).mono ?_);rintro e w4 ⟨rfl,hB⟩;replace HB:=mkA (below_step HB.out hB);replace BK:=mkA (blk_below BK.out hB);clear hB)
   | (go_at_call 130;(with_reducible refine (CN.out _ (HS.out.below HB.out)).mono ?_);rintro e w6 ⟨rfl,hB⟩;replace HB:=mkA (below_step HB.out hB);replace BK:=mkA (blk_below BK.out hB);clear hB;obtain ⟨hz0,hz1,hz2,hz3,hf0,hf1,hf2,hf3⟩:=tkz BK.out))
  refine bodyPost_ret (results_ct rfl _ _ gb 63 #[.int .i64 15,.int .i64 q,.int .i64 (nm s (q+1):Nat),.string (s.extract q (nm s (q+1)))] (0,0) _ rfl (by exact tkp BK.out) Tryz.underlying63 rfl (by kernel_rfl)) rfl ?_
  exact ⟨rfl,below_set (below_set (below_set (below_set (HB.out) GE.out) GE.out) GE.out) GE.out⟩
end Go.Proofs.YthgcghpcikbnkaaGreatDoor.R
