/- A part of the proof of the theorem of this claim: Lex, Pst, Err. No condition of its own. -/
import Derived.Test.YthgcghpcikbnkaaGreatDoorB4
import Derived.Test.YthgcghpcikbnkaaGreatDoorB3
set_option maxHeartbeats 16000000
set_option maxRecDepth 100000
namespace Go.Proofs.YthgcghpcikbnkaaGreatDoor.R
open Go.RowKit Go.Proofs.YthgcghpcikbnkaaGreatDoorW.PrintWords Go.Proofs.YthgcghpcikbnkaaGreatDoorW.PrintLast Go.Proofs.YthgcghpcikbnkaaGreatDoorW.PrintMore
set_option linter.unusedVariables false
set_option linter.unusedSimpArgs false
theorem keep_setf {w w1:World} {g g' j:Nat} {u:Value} (h:KeepBut w w1 g none) (hg:w.heap.size≤g'):KeepBut w (w1.setCell ⟨g',j,none⟩ u) g none :=
 ⟨Nat.le_trans h.1 (Below.refl 0 w1 |>.setCell (p:=⟨g',j,none⟩) (Nat.zero_le _) u).size,fun i hi hne hr=>(Below.heap_setCell _ _ _ _ (show i≠g' from by omega)).trans (h.2 i hi hne hr)⟩
def lexf (c s:Nat):Value:=.func (.func 98) #[] #[.pointer (some ⟨c,0,none⟩),.pointer (some ⟨s,0,none⟩)]
theorem lexfn_walk {w:World} {gc gs g B:Nat} {pv r pos k a z:Int} {v:ByteArray} (hBc:B≤gc) (hBw:B≤w.heap.size) (h1:w.heap[gc]?=some (.cells #[.int .i64 pv] 3 (0,0))) (h2:w.heap[gs]?=some (.cells #[.pointer (some ⟨g,0,none⟩)] 66 (0,0))) (hne:gc≠gs)
 (hr:((r == 0)=true∧pv=pos)∨((r == 0)=false∧r=pos))
 (hC:∀ W,Below w.heap.size w W→Calls Tryz.prog 99 #[.pointer (some ⟨g,0,none⟩),.int .i64 pos] W fun e W'=>e=.returned (.tuple #[.agg #[.int .i64 k,.int .i64 a,.int .i64 z,.string v],.nilIface])∧Below W.heap.size W W') :
 Calls Tryz.prog 98 #[.int .i64 r,.pointer (some ⟨gc,0,none⟩),.pointer (some ⟨gs,0,none⟩)] w fun e w'=>e=.returned (.tuple #[.agg #[.int .i64 k,.int .i64 a,.int .i64 z,.string v],.nilIface])∧w'.heap[gc]?=some (.cells #[.int .i64 z] 3 (0,0))∧Below B w w'∧KeepBut w w' gc none:=by
 have HC:=mkA hC
 have BC:=mkA h1
 have BS:=mkA h2
 have HL:=mkA (And.intro hBc hBw)
 have HB:=mkA (Below.refl w.heap.size w)
 have gcl:=mkA (blk_lt h1)
 have gsl:=mkA (blk_lt h2)
 clear hC h1 h2 hBc hBw
 rcases hr with ⟨q0,hp⟩ | ⟨q0,hp⟩ <;> rw [← hp] at HC <;> clear hp
 all_goals
  go_enter Tryz.func98,Tryz.ntmps98
  go_wp2_with (first
   | ((with_reducible refine gate_dst (N:=4) rfl ?_);refine bxz ?hr ?_;(case hr=>first | (go_simp;done) | (go_simp;rfl));intro gb hg w2 hbox hb;have n0_:=mkA (below_step HB.out hb);have GE:=mkA ((by rw [hg];exact below_size HB.out:w.heap.size≤gb));have n1_:=mkA (blk_below BC.out hb);have n2_:=mkA (blk_below BS.out hb);clear HB BC BS;have HB:=n0_;have BC:=n1_;have BS:=n2_;have BK:=mkA hbox;clear n0_ n1_ n2_ hb hbox hg;have hc0:w2.cell? ⟨gc,0,none⟩=some (.int .i64 pv):=(blk_cell BC.out 0).trans rfl;have hs0:w2.cell? ⟨gs,0,none⟩=some (.pointer (some ⟨g,0,none⟩)):=(blk_cell BS.out 0).trans rfl)
   | (go_at_call 99;(with_reducible refine (HC.out _ HB.out).mono ?_);rintro e w3 ⟨rfl,hB⟩;replace HB:=mkA (below_step HB.out hB);replace BC:=mkA (blk_below BC.out hB);replace BK:=mkA (blk_below BK.out hB);clear hB)
   | ((with_reducible refine gate_dst (N:=6) rfl ?_);refine bxz ?hr ?_;(case hr=>first | (go_simp;done) | (go_simp;rfl));intro gt hg w4 hbox hb;have n0_:=mkA (below_step HB.out hb);have GT:=mkA ((by rw [hg];exact below_size HB.out:w.heap.size≤gt));have NE:=mkA ((by rw [hg];exact Nat.ne_of_lt (blk_lt BK.out)):gb≠gt);have n1_:=mkA (blk_below BC.out hb);have n2_:=mkA (blk_below BK.out hb);clear HB BC BK;have HB:=n0_;have BC:=n1_;have BK:=n2_;have BT:=mkA hbox;clear n0_ n1_ n2_ hb hbox hg;have hne1:=NE.out;have hne2:gt≠gb:=fun e=>NE.out e.symm;have NT:=mkA (show gc≠gt by have h1:=gcl.out;have h2:=GT.out;omega);have NC:=mkA (show gb≠gc by have h1:=gcl.out;have h2:=GE.out;omega);have hne3:=NT.out;have hne4:gt≠gc:=fun e=>NT.out e.symm;have hne5:=NC.out;have hne6:gc≠gb:=fun e=>NC.out e.symm;have c0:w4.cell? ⟨gc,0,none⟩=some (.int .i64 pv):=(blk_cell BC.out 0).trans rfl;have cf:=blk_frozen BC.out 0;obtain ⟨hz0,hz1,hz2,hz3,hf0,hf1,hf2,hf3⟩:=tkz BK.out;obtain ⟨tz0,tz1,tz2,tz3,tf0,tf1,tf2,tf3⟩:=tkz BT.out))
  refine bodyPost_ret (results_ct rfl _ _ gb 63 #[.int .i64 k,.int .i64 a,.int .i64 z,.string v] (0,0) _ rfl (by refine blk_put (cs:=#[.int .i64 k,.int .i64 a,.int .i64 z,.string ⟨#[]⟩]) ?_ 3 _ rfl;refine blk_put (cs:=#[.int .i64 k,.int .i64 a,.int .i64 0,.string ⟨#[]⟩]) ?_ 2 _ rfl;refine blk_put (cs:=#[.int .i64 k,.int .i64 0,.int .i64 0,.string ⟨#[]⟩]) ?_ 1 _ rfl;refine blk_put (cs:=#[.int .i64 0,.int .i64 0,.int .i64 0,.string ⟨#[]⟩]) ?_ 0 _ rfl;refine blk_far ?_ NC.out _;refine blk_far ?_ NE.out _;refine blk_far ?_ NE.out _;refine blk_far ?_ NE.out _;refine blk_far ?_ NE.out _;exact BK.out) Tryz.underlying63 rfl (by kernel_rfl)) rfl ?_
  refine ⟨rfl,?_,?_,?_⟩
  ·refine blk_far ?_ (Ne.symm NC.out) _;refine blk_far ?_ (Ne.symm NC.out) _;refine blk_far ?_ (Ne.symm NC.out) _;refine blk_far ?_ (Ne.symm NC.out) _;refine blk_put (cs:=#[.int .i64 pv]) ?_ 0 _ rfl;refine blk_far ?_ NT.out _;refine blk_far ?_ NT.out _;refine blk_far ?_ NT.out _;refine blk_far ?_ NT.out _;exact BC.out
  ·have h:=HB.out.mono HL.out.2
   have hgb:=Nat.le_trans HL.out.2 GE.out
   have hgt:=Nat.le_trans HL.out.2 GT.out
   exact ((((((((h.setCell (p:=⟨gt,_,none⟩) hgt _).setCell (p:=⟨gt,_,none⟩) hgt _).setCell (p:=⟨gt,_,none⟩) hgt _).setCell (p:=⟨gt,_,none⟩) hgt _).setCell (p:=⟨gc,_,none⟩) HL.out.1 _).setCell (p:=⟨gb,_,none⟩) hgb _).setCell (p:=⟨gb,_,none⟩) hgb _).setCell (p:=⟨gb,_,none⟩) hgb _).setCell (p:=⟨gb,_,none⟩) hgb _
  ·exact keep_setf (keep_setf (keep_setf (keep_setf (KeepBut.set_ (keep_setf (keep_setf (keep_setf (keep_setf (KeepBut.of_below HB.out gc none) GT.out) GT.out) GT.out) GT.out) 0 _) GE.out) GE.out) GE.out) GE.out
theorem lexfn_err {w:World} {gc gs g:Nat} {pv r pos:Int} (h1:w.heap[gc]?=some (.cells #[.int .i64 pv] 3 (0,0))) (h2:w.heap[gs]?=some (.cells #[.pointer (some ⟨g,0,none⟩)] 66 (0,0)))
 (hr:((r == 0)=true∧pv=pos)∨((r == 0)=false∧r=pos))
 (hC:∀ W,Below w.heap.size w W→Calls Tryz.prog 99 #[.pointer (some ⟨g,0,none⟩),.int .i64 pos] W fun e W'=>(∃ (k a z:Int) (v:ByteArray) (te:TypeId) (x:Value),e=.returned (.tuple #[.agg #[.int .i64 k,.int .i64 a,.int .i64 z,.string v],.iface te x]))∧Below W.heap.size W W') :
 Calls Tryz.prog 98 #[.int .i64 r,.pointer (some ⟨gc,0,none⟩),.pointer (some ⟨gs,0,none⟩)] w fun e w'=>(∃ (k a z:Int) (v:ByteArray) (te:TypeId) (x:Value),e=.returned (.tuple #[.agg #[.int .i64 k,.int .i64 a,.int .i64 z,.string v],.iface te x]))∧Below w.heap.size w w':=by
 have HC:=mkA hC
 have BC:=mkA h1
 have BS:=mkA h2
 have HB:=mkA (Below.refl w.heap.size w)
 clear hC h1 h2
 rcases hr with ⟨q0,hp⟩ | ⟨q0,hp⟩ <;> rw [← hp] at HC <;> clear hp
 all_goals
  go_enter Tryz.func98,Tryz.ntmps98
  go_wp2_with (first
   | ((with_reducible refine gate_dst (N:=4) rfl ?_);refine bxz ?hr ?_;(case hr=>first | (go_simp;done) | (go_simp;rfl));intro gb hg w2 hbox hb;have n0_:=mkA (below_step HB.out hb);have GE:=mkA ((by rw [hg];exact below_size HB.out:w.heap.size≤gb));have n1_:=mkA (blk_below BC.out hb);have n2_:=mkA (blk_below BS.out hb);clear HB BC BS;have HB:=n0_;have BC:=n1_;have BS:=n2_;have BK:=mkA hbox;clear n0_ n1_ n2_ hb hbox hg;have hc0:w2.cell? ⟨gc,0,none⟩=some (.int .i64 pv):=(blk_cell BC.out 0).trans rfl;have hs0:w2.cell? ⟨gs,0,none⟩=some (.pointer (some ⟨g,0,none⟩)):=(blk_cell BS.out 0).trans rfl)
   | (go_at_call 99;(with_reducible refine (HC.out _ HB.out).mono ?_);rintro e w3 ⟨⟨k,a,z,v,te,x,rfl⟩,hB⟩;replace HB:=mkA (below_step HB.out hB);replace BK:=mkA (blk_below BK.out hB);clear BC BS hB)
   | ((with_reducible refine gate_dst (N:=6) rfl ?_);refine bxz ?hr ?_;(case hr=>first | (go_simp;done) | (go_simp;rfl));intro gt hg w4 hbox hb;have n0_:=mkA (below_step HB.out hb);have GT:=mkA ((by rw [hg];exact below_size HB.out:w.heap.size≤gt));have NE:=mkA ((by rw [hg];exact Nat.ne_of_lt (blk_lt BK.out)):gb≠gt);have n2_:=mkA (blk_below BK.out hb);clear HB BK;have HB:=n0_;have BK:=n2_;have BT:=mkA hbox;clear n0_ n2_ hb hbox hg;have hne1:=NE.out;have hne2:gt≠gb:=fun e=>NE.out e.symm;obtain ⟨hz0,hz1,hz2,hz3,hf0,hf1,hf2,hf3⟩:=tkz BK.out;obtain ⟨tz0,tz1,tz2,tz3,tf0,tf1,tf2,tf3⟩:=tkz BT.out))
  refine bodyPost_ret (results_ct rfl _ _ gb 63 #[.int .i64 k,.int .i64 a,.int .i64 z,.string v] (0,0) _ rfl (by refine blk_put (cs:=#[.int .i64 k,.int .i64 a,.int .i64 z,.string ⟨#[]⟩]) ?_ 3 _ rfl;refine blk_put (cs:=#[.int .i64 k,.int .i64 a,.int .i64 0,.string ⟨#[]⟩]) ?_ 2 _ rfl;refine blk_put (cs:=#[.int .i64 k,.int .i64 0,.int .i64 0,.string ⟨#[]⟩]) ?_ 1 _ rfl;refine blk_put (cs:=#[.int .i64 0,.int .i64 0,.int .i64 0,.string ⟨#[]⟩]) ?_ 0 _ rfl;refine blk_far ?_ NE.out _;refine blk_far ?_ NE.out _;refine blk_far ?_ NE.out _;refine blk_far ?_ NE.out _;exact BK.out) Tryz.underlying63 rfl (by kernel_rfl)) rfl ?_
  exact ⟨⟨k,a,z,v,te,x,rfl⟩,below_set (below_set (below_set (below_set (below_set (below_set (below_set (below_set HB.out GT.out) GT.out) GT.out) GT.out) GE.out) GE.out) GE.out) GE.out⟩
def Psr (w:World) (B gp gc gs g:Nat) (pe z:Int) (k a y:Int) (v:ByteArray):Prop:=(w.heap[gp]?=some (.cells #[lexf gc gs,.pointer (some ⟨g,0,none⟩),.bool false,.bool false,.int .i64 pe,.int .i64 k,.int .i64 a,.int .i64 y,.string v] 70 (0,0))∧w.heap[gc]?=some (.cells #[.int .i64 z] 3 (0,0))∧w.heap[gs]?=some (.cells #[.pointer (some ⟨g,0,none⟩)] 66 (0,0)))∧(B≤gp∧B≤gc∧B≤gs)∧gc≠gs∧gp≠gc∧gp≠gs
def Kp (w W:World) (a b:Nat):Prop:=w.heap.size≤W.heap.size∧∀ i,i < w.heap.size→i≠a→i≠b→W.heap[i]?=w.heap[i]?
theorem gsz {w:World} {p:Addr} {u:Value}:(w.setCell p u).heap.size=w.heap.size:=by
 refine Nat.le_antisymm ?_ ((Below.refl 0 w).setCell (p:=p) (Nat.zero_le _) u).size
 unfold World.setCell
 repeat' split
 all_goals simp
theorem adv_ok {w:World} {B gp gc gs g:Nat} {pe z k a y k2 a2 y2:Int} {v v2:ByteArray} (h:Psr w B gp gc gs g pe z k a y v) (hB:B≤w.heap.size) (hy:(y == 0)=false)
 (hC:∀ W,Below B w W→Calls Tryz.prog 99 #[.pointer (some ⟨g,0,none⟩),.int .i64 y] W fun e W'=>e=.returned (.tuple #[.agg #[.int .i64 k2,.int .i64 a2,.int .i64 y2,.string v2],.nilIface])∧Below W.heap.size W W') :
 Calls Tryz.prog 100 #[.pointer (some ⟨gp,0,none⟩)] w fun e w'=>e=.returned .nilIface∧Psr w' B gp gc gs g y y2 k2 a2 y2 v2∧Below B w w'∧Kp w w' gp gc:=by
 obtain ⟨⟨h1,h2,h3⟩,⟨l1,l2,l3⟩,n1,n2,n3⟩:=h
 have HC:=mkA hC
 have BP:=mkA h1
 have BC:=mkA h2
 have BS:=mkA h3
 have HL:=mkA (And.intro l1 (And.intro l2 l3))
 have HN:=mkA (And.intro n1 (And.intro n2 n3))
 have HBL:=mkA hB
 have HY:=mkA hy
 have c7:w.cell? ⟨gp,7,none⟩=some (.int .i64 y):=(blk_cell h1 7).trans rfl
 have c4:w.cell? ⟨gp,4,none⟩=some (.int .i64 pe):=(blk_cell h1 4).trans rfl
 have f4:=blk_frozen h1 4
 clear hC h1 h2 h3 l1 l2 l3 n1 n2 n3 hB hy
 go_enter Tryz.func100,Tryz.ntmps100
 go_upto_region 2 with (fail)
 have BP1:=mkA (blk_put (cs:=#[lexf gc gs,.pointer (some ⟨g,0,none⟩),.bool false,.bool false,.int .i64 pe,.int .i64 k,.int .i64 a,.int .i64 y,.string v]) BP.out 4 (.int .i64 y) rfl)
 have BC1:=mkA (blk_far (p:=⟨gp,4,none⟩) BC.out (Ne.symm HN.out.2.1) (.int .i64 y))
 have BS1:=mkA (blk_far (p:=⟨gp,4,none⟩) BS.out (Ne.symm HN.out.2.2) (.int .i64 y))
 have HB1:=mkA ((Below.refl B w).setCell (p:=⟨gp,4,none⟩) HL.out.1 (.int .i64 y))
 have SZ:=mkA (gsz (w:=w) (p:=⟨gp,4,none⟩) (u:=.int .i64 y))
 have KP1:=mkA (show Kp w (w.setCell ⟨gp,4,none⟩ (.int .i64 y)) gp gc from ⟨Nat.le_of_eq gsz.symm,fun i hi ha hb=>Below.heap_setCell _ _ _ _ (show i≠gp from ha)⟩)
 clear c7 c4 f4 BP BC BS
 obtain ⟨w1,hw1⟩:∃ w1,w1=w.setCell ⟨gp,4,none⟩ (.int .i64 y):=⟨_,rfl⟩
 rw [← hw1] at BP1 BC1 BS1 HB1 SZ KP1
 rw [← hw1]
 clear hw1
 have HBL1:=mkA (show B≤w1.heap.size from Nat.le_trans HBL.out (Nat.le_of_eq SZ.out.symm))
 have cL:=mkA (fun (W:World) (hW:Below w1.heap.size w1 W)=>(show Calls Tryz.prog 98 #[.int .i64 y,.pointer (some ⟨gc,0,none⟩),.pointer (some ⟨gs,0,none⟩)] W fun e w'=>e=.returned (.tuple #[.agg #[.int .i64 k2,.int .i64 a2,.int .i64 y2,.string v2],.nilIface])∧w'.heap[gc]?=some (.cells #[.int .i64 y2] 3 (0,0))∧Below B w1 w'∧KeepBut w1 w' gc none∧(∀ (g':Nat) (o:Obj),W.heap[g']?=some o→g'≠gc→w'.heap[g']?=some o) from
  (lexfn_walk (B:=B) (r:=y) (pos:=y) HL.out.2.1 (Nat.le_trans HBL1.out hW.size) (blk_below BC1.out hW) (blk_below BS1.out hW) HN.out.1 (.inr ⟨HY.out,rfl⟩) (fun W' hW'=>HC.out W' ((HB1.out.trans (hW.mono HBL1.out)).trans (hW'.mono (Nat.le_trans HBL1.out hW.size))))).mono fun e w' h=>⟨h.1,h.2.1,(hW.mono HBL1.out).trans h.2.2.1,(KeepBut.of_below hW gc none).trans h.2.2.2 (.inl rfl),fun g' o hg hne=>h.2.2.2.blk hg hne (by simp)⟩))
 have d0:w1.cell? ⟨gp,0,none⟩=some (.func (.func 98) #[] #[.pointer (some ⟨gc,0,none⟩),.pointer (some ⟨gs,0,none⟩)]):=(blk_cell BP1.out 0).trans rfl
 have d4:w1.cell? ⟨gp,4,none⟩=some (.int .i64 y):=(blk_cell BP1.out 4).trans rfl
 have e0:∀ o,(w1.alloc o).cell? ⟨gp,0,none⟩=some (.func (.func 98) #[] #[.pointer (some ⟨gc,0,none⟩),.pointer (some ⟨gs,0,none⟩)]):=fun o=>((below_alloc (Below.refl w1.heap.size w1) o).cell (World.block_lt_of_cell? w1 _ d0)).trans d0
 have e4:∀ o,(w1.alloc o).cell? ⟨gp,4,none⟩=some (.int .i64 y):=fun o=>((below_alloc (Below.refl w1.heap.size w1) o).cell (World.block_lt_of_cell? w1 _ d4)).trans d4
 have NG:=mkA (show w1.heap.size≠gc from Nat.ne_of_gt (blk_lt BC1.out))
 go_cut [3,4] (fun v3 v4 wc=>∃ gt:Nat,v3=.pointer (some ⟨gt,0,none⟩)∧v4=.nilIface∧Aside0 (wc.heap[gt]?=some (.cells #[.int .i64 k2,.int .i64 a2,.int .i64 y2,.string v2] 63 (0,0)))∧Aside0 (wc.heap[gc]?=some (.cells #[.int .i64 y2] 3 (0,0)))∧Aside0 (w1.heap.size≤gt)∧Aside0 (Below B w1 wc)∧Aside0 (KeepBut w1 wc gc none))
 case first =>
  go_region_with (first | (go_at_call 98;refine (cL.out _ ?_).mono ?_;(first | exact below_drew1 (below_alloc (Below.refl w1.heap.size w1) _) | exact below_alloc (below_drew1 (Below.refl w1.heap.size w1)) _ | exact below_drew1 (Below.refl w1.heap.size w1) | exact below_alloc (Below.refl w1.heap.size w1) _ | exact Below.refl w1.heap.size w1);rintro e w4 ⟨rfl,q1,q2,q3,q4⟩;have Q1:=mkA q1;have Q2:=mkA q2;have Q3:=mkA q3;have Q4:=mkA q4;clear q1 q2 q3 q4;(try (have bx:=mkA (Q4.out w1.heap.size _ (heap_alloc_new w1 _) NG.out);have tz0:=(blk_cell bx.out 0).trans rfl;have tz1:=(blk_cell bx.out 1).trans rfl;have tz2:=(blk_cell bx.out 2).trans rfl;have tz3:=(blk_cell bx.out 3).trans rfl;have tf0:=blk_frozen bx.out 0;have tf1:=blk_frozen bx.out 1;have tf2:=blk_frozen bx.out 2;have tf3:=blk_frozen bx.out 3))))
  all_goals (try go_wp2)
  all_goals go_meet
  all_goals first
   | (have hbx:=bx.out;exact ⟨w1.heap.size,rfl,rfl,⟨by exact tkp bx.out⟩,⟨by refine blk_far ?_ (Ne.symm NG.out) _;refine blk_far ?_ (Ne.symm NG.out) _;refine blk_far ?_ (Ne.symm NG.out) _;refine blk_far ?_ (Ne.symm NG.out) _;exact Q1.out⟩,⟨Nat.le_refl _⟩,⟨(((Q2.out.setCell (p:=⟨w1.heap.size,_,none⟩) HBL1.out _).setCell (p:=⟨w1.heap.size,_,none⟩) HBL1.out _).setCell (p:=⟨w1.heap.size,_,none⟩) HBL1.out _).setCell (p:=⟨w1.heap.size,_,none⟩) HBL1.out _⟩,⟨keep_setf (keep_setf (keep_setf (keep_setf Q3.out (Nat.le_refl _)) (Nat.le_refl _)) (Nat.le_refl _)) (Nat.le_refl _)⟩⟩)
   | exact ⟨w4.heap.size,rfl,rfl,⟨heap_alloc_new w4 _⟩,⟨blk_below Q1.out (below_alloc (Below.refl _ _) _)⟩,⟨Q3.out.1⟩,⟨Q2.out.alloc (Nat.le_trans HBL1.out Q3.out.1) _⟩,⟨keep_alloc Q3.out _⟩⟩
 case rest =>
  obtain ⟨gt,rfl,rfl,BT,BCc,GT,HBc,KB⟩:=hcut
  have NP:=mkA (show gt≠gp from Nat.ne_of_gt (Nat.lt_of_lt_of_le (blk_lt BP1.out) GT.out))
  have BPc:=mkA (KB.out.blk BP1.out HN.out.2.1 (by simp))
  have BSc:=mkA (KB.out.blk BS1.out (Ne.symm HN.out.1) (by simp))
  obtain ⟨x0,x1,x2,x3⟩:=tks BT.out
  have y5:wc.cell? ⟨gp,5,none⟩=some (.int .i64 k):=(blk_cell BPc.out 5).trans rfl
  have y6:wc.cell? ⟨gp,6,none⟩=some (.int .i64 a):=(blk_cell BPc.out 6).trans rfl
  have y7:wc.cell? ⟨gp,7,none⟩=some (.int .i64 y):=(blk_cell BPc.out 7).trans rfl
  have y8:wc.cell? ⟨gp,8,none⟩=some (.string v):=(blk_cell BPc.out 8).trans rfl
  have f5:=blk_frozen BPc.out 5
  have f6:=blk_frozen BPc.out 6
  have f7:=blk_frozen BPc.out 7
  have f8:=blk_frozen BPc.out 8
  clear d0 d4 e0 e4
  go_wp2
  go_ret
  refine ⟨rfl,⟨⟨?_,?_,?_⟩,⟨HL.out.1,HL.out.2.1,HL.out.2.2⟩,HN.out.1,HN.out.2.1,HN.out.2.2⟩,?_,?_⟩
  ·refine blk_put (cs:=#[lexf gc gs,.pointer (some ⟨g,0,none⟩),.bool false,.bool false,.int .i64 y,.int .i64 k2,.int .i64 a2,.int .i64 y2,.string v]) ?_ 8 _ rfl
   refine blk_put (cs:=#[lexf gc gs,.pointer (some ⟨g,0,none⟩),.bool false,.bool false,.int .i64 y,.int .i64 k2,.int .i64 a2,.int .i64 y,.string v]) ?_ 7 _ rfl
   refine blk_put (cs:=#[lexf gc gs,.pointer (some ⟨g,0,none⟩),.bool false,.bool false,.int .i64 y,.int .i64 k2,.int .i64 a,.int .i64 y,.string v]) ?_ 6 _ rfl
   refine blk_put (cs:=#[lexf gc gs,.pointer (some ⟨g,0,none⟩),.bool false,.bool false,.int .i64 y,.int .i64 k,.int .i64 a,.int .i64 y,.string v]) ?_ 5 _ rfl
   exact BPc.out
  ·refine blk_far ?_ (Ne.symm HN.out.2.1) _
   refine blk_far ?_ (Ne.symm HN.out.2.1) _
   refine blk_far ?_ (Ne.symm HN.out.2.1) _
   refine blk_far ?_ (Ne.symm HN.out.2.1) _
   exact BCc.out
  ·refine blk_far ?_ (Ne.symm HN.out.2.2) _
   refine blk_far ?_ (Ne.symm HN.out.2.2) _
   refine blk_far ?_ (Ne.symm HN.out.2.2) _
   refine blk_far ?_ (Ne.symm HN.out.2.2) _
   exact BSc.out
  ·exact ((((HB1.out.trans HBc.out).setCell (p:=⟨gp,_,none⟩) HL.out.1 _).setCell (p:=⟨gp,_,none⟩) HL.out.1 _).setCell (p:=⟨gp,_,none⟩) HL.out.1 _).setCell (p:=⟨gp,_,none⟩) HL.out.1 _
  ·refine ⟨by simp only [gsz];exact Nat.le_trans KP1.out.1 KB.out.1,fun i hi h1 h2=>?_⟩
   rw [Below.heap_setCell _ _ _ _ (show i≠gp from h1),Below.heap_setCell _ _ _ _ (show i≠gp from h1),Below.heap_setCell _ _ _ _ (show i≠gp from h1),Below.heap_setCell _ _ _ _ (show i≠gp from h1),KB.out.2 i (Nat.lt_of_lt_of_le hi KP1.out.1) h2 (by simp),KP1.out.2 i hi h1 h2]
theorem adv_err {w:World} {B gp gc gs g:Nat} {pe z k a y:Int} {v:ByteArray} (h:Psr w B gp gc gs g pe z k a y v) (hB:B≤w.heap.size) (hy:(y == 0)=false)
 (hC:∀ W,Below B w W→Calls Tryz.prog 99 #[.pointer (some ⟨g,0,none⟩),.int .i64 y] W fun e W'=>(∃ (k a z:Int) (v:ByteArray) (te:TypeId) (x:Value),e=.returned (.tuple #[.agg #[.int .i64 k,.int .i64 a,.int .i64 z,.string v],.iface te x]))∧Below W.heap.size W W') :
 Calls Tryz.prog 100 #[.pointer (some ⟨gp,0,none⟩)] w fun e w'=>(∃ (te:TypeId) (x:Value),e=.returned (.iface te x))∧w'.heap[gp]?=some (.cells #[lexf gc gs,.pointer (some ⟨g,0,none⟩),.bool false,.bool false,.int .i64 y,.int .i64 k,.int .i64 a,.int .i64 y,.string v] 70 (0,0))∧Below B w w'∧Kp w w' gp gc:=by
 obtain ⟨⟨h1,h2,h3⟩,⟨l1,l2,l3⟩,n1,n2,n3⟩:=h
 have HC:=mkA hC
 have BP:=mkA h1
 have BC:=mkA h2
 have BS:=mkA h3
 have HL:=mkA (And.intro l1 (And.intro l2 l3))
 have HN:=mkA (And.intro n1 (And.intro n2 n3))
 have HBL:=mkA hB
 have HY:=mkA hy
 have c7:w.cell? ⟨gp,7,none⟩=some (.int .i64 y):=(blk_cell h1 7).trans rfl
 have c4:w.cell? ⟨gp,4,none⟩=some (.int .i64 pe):=(blk_cell h1 4).trans rfl
 have f4:=blk_frozen h1 4
 clear hC h1 h2 h3 l1 l2 l3 n1 n2 n3 hB hy
 go_enter Tryz.func100,Tryz.ntmps100
 go_upto_region 2 with (fail)
 have BP1:=mkA (blk_put (cs:=#[lexf gc gs,.pointer (some ⟨g,0,none⟩),.bool false,.bool false,.int .i64 pe,.int .i64 k,.int .i64 a,.int .i64 y,.string v]) BP.out 4 (.int .i64 y) rfl)
 have BC1:=mkA (blk_far (p:=⟨gp,4,none⟩) BC.out (Ne.symm HN.out.2.1) (.int .i64 y))
 have BS1:=mkA (blk_far (p:=⟨gp,4,none⟩) BS.out (Ne.symm HN.out.2.2) (.int .i64 y))
 have HB1:=mkA ((Below.refl B w).setCell (p:=⟨gp,4,none⟩) HL.out.1 (.int .i64 y))
 have SZ:=mkA (gsz (w:=w) (p:=⟨gp,4,none⟩) (u:=.int .i64 y))
 have KP1:=mkA (show Kp w (w.setCell ⟨gp,4,none⟩ (.int .i64 y)) gp gc from ⟨Nat.le_of_eq gsz.symm,fun i hi ha hb=>Below.heap_setCell _ _ _ _ (show i≠gp from ha)⟩)
 clear c7 c4 f4 BP BC BS
 obtain ⟨w1,hw1⟩:∃ w1,w1=w.setCell ⟨gp,4,none⟩ (.int .i64 y):=⟨_,rfl⟩
 rw [← hw1] at BP1 BC1 BS1 HB1 SZ KP1
 rw [← hw1]
 clear hw1
 have HBL1:=mkA (show B≤w1.heap.size from Nat.le_trans HBL.out (Nat.le_of_eq SZ.out.symm))
 have cL:=mkA (fun (W:World) (hW:Below w1.heap.size w1 W)=>(show Calls Tryz.prog 98 #[.int .i64 y,.pointer (some ⟨gc,0,none⟩),.pointer (some ⟨gs,0,none⟩)] W fun e w'=>(∃ (k a z:Int) (v:ByteArray) (te:TypeId) (x:Value),e=.returned (.tuple #[.agg #[.int .i64 k,.int .i64 a,.int .i64 z,.string v],.iface te x]))∧Below w1.heap.size w1 w'∧(∀ (g':Nat) (o:Obj),W.heap[g']?=some o→w'.heap[g']?=some o) from
  (lexfn_err (r:=y) (pos:=y) (blk_below BC1.out hW) (blk_below BS1.out hW) (.inr ⟨HY.out,rfl⟩) (fun W' hW'=>HC.out W' ((HB1.out.trans (hW.mono HBL1.out)).trans (hW'.mono (Nat.le_trans HBL1.out hW.size))))).mono fun e w' h=>⟨h.1,below_step hW h.2,fun g' o hg=>blk_below hg h.2⟩))
 have d0:w1.cell? ⟨gp,0,none⟩=some (.func (.func 98) #[] #[.pointer (some ⟨gc,0,none⟩),.pointer (some ⟨gs,0,none⟩)]):=(blk_cell BP1.out 0).trans rfl
 have d4:w1.cell? ⟨gp,4,none⟩=some (.int .i64 y):=(blk_cell BP1.out 4).trans rfl
 have e0:∀ o,(w1.alloc o).cell? ⟨gp,0,none⟩=some (.func (.func 98) #[] #[.pointer (some ⟨gc,0,none⟩),.pointer (some ⟨gs,0,none⟩)]):=fun o=>((below_alloc (Below.refl w1.heap.size w1) o).cell (World.block_lt_of_cell? w1 _ d0)).trans d0
 have e4:∀ o,(w1.alloc o).cell? ⟨gp,4,none⟩=some (.int .i64 y):=fun o=>((below_alloc (Below.refl w1.heap.size w1) o).cell (World.block_lt_of_cell? w1 _ d4)).trans d4
 go_cut [4] (fun v4 wc=>∃ (te:TypeId) (x:Value),v4=.iface te x∧Aside0 (Below w1.heap.size w1 wc))
 case first =>
  go_region_with (first | (go_at_call 98;refine (cL.out _ ?_).mono ?_;(first | exact below_drew1 (below_alloc (Below.refl w1.heap.size w1) _) | exact below_alloc (below_drew1 (Below.refl w1.heap.size w1)) _ | exact below_drew1 (Below.refl w1.heap.size w1) | exact below_alloc (Below.refl w1.heap.size w1) _ | exact Below.refl w1.heap.size w1);rintro e w4 ⟨⟨k2,a2,y2,v2,te,x,rfl⟩,q2,q4⟩;have Q2:=mkA q2;have Q4:=mkA q4;clear q2 q4;(try (have bx:=mkA (Q4.out w1.heap.size _ (heap_alloc_new w1 _));have tz0:=(blk_cell bx.out 0).trans rfl;have tz1:=(blk_cell bx.out 1).trans rfl;have tz2:=(blk_cell bx.out 2).trans rfl;have tz3:=(blk_cell bx.out 3).trans rfl;have tf0:=blk_frozen bx.out 0;have tf1:=blk_frozen bx.out 1;have tf2:=blk_frozen bx.out 2;have tf3:=blk_frozen bx.out 3))))
  all_goals (try go_wp2)
  all_goals go_meet
  all_goals first
   | exact ⟨te,x,rfl,⟨below_set (below_set (below_set (below_set Q2.out (Nat.le_refl _)) (Nat.le_refl _)) (Nat.le_refl _)) (Nat.le_refl _)⟩⟩
   | exact ⟨te,x,rfl,⟨below_alloc Q2.out _⟩⟩
 case rest =>
  obtain ⟨te,x,rfl,HBc⟩:=hcut
  have BPc:=mkA (blk_below BP1.out HBc.out)
  clear d0 d4 e0 e4
  go_wp2
  go_ret
  refine ⟨⟨te,x,rfl⟩,BPc.out,HB1.out.trans (HBc.out.mono HBL1.out),⟨Nat.le_trans KP1.out.1 HBc.out.size,fun i hi h1 h2=>?_⟩⟩
  rw [HBc.out.block i (Nat.lt_of_lt_of_le hi KP1.out.1),KP1.out.2 i hi h1 h2]
def BVal (x:List UInt8) (v:ByteArray):Prop:=∀ w:World,Calls Tryz.prog 148 #[.string ⟨x.toArray⟩] w fun e w'=>e=.returned (.string v)∧Below w.heap.size w w'
structure Cx where
 s:ByteArray
 gp:Nat
 gc:Nat
 gs:Nat
 g:Nat
 b:Nat
 cap:Nat
 lo:Nat
def RdP (w:World) (l:List Tk) (e:Ending) (w':World):Prop :=
 (match l with
 | []=>∃ (k a z:Int) (v:ByteArray) (te:TypeId) (x:Value),e=.returned (.tuple #[.agg #[.int .i64 k,.int .i64 a,.int .i64 z,.string v],.iface te x])
 | t :: _=>e=.returned (.tuple #[.agg #[.int .i64 t.k,.int .i64 t.a,.int .i64 t.z,.string t.v],.nilIface]))∧Below w.heap.size w w'
def RTok (C:Cx):Prop:=∀ (p:Nat) (l:List Tk),Lexes BVal C.s p l→∀ w,Src w C.g C.b C.cap C.s→Calls Tryz.prog 99 #[ptr C.g,.int .i64 p] w (RdP w l)
structure Cx.Ok (C:Cx):Prop where
 hb:C.b < C.gs
 hg:C.g < C.gs
 sc:C.gs < C.gc
 cp:C.gc < C.gp
 pl:C.gp < C.lo
 tw:2≤C.gs
 rt:RTok C
def PB (C:Cx) (w:World):Prop:=∃ (pe k a z:Int) (v:ByteArray),w.heap[C.gp]?=some (.cells #[lexf C.gc C.gs,ptr C.g,.bool false,.bool false,.int .i64 pe,.int .i64 k,.int .i64 a,.int .i64 z,.string v] 70 (0,0))
structure PS (C:Cx) (w:World) (t:Tk) (r:List Tk):Prop where
 ok:C.Ok
 par:∃ pe:Int,w.heap[C.gp]?=some (.cells #[lexf C.gc C.gs,ptr C.g,.bool false,.bool false,.int .i64 pe,.int .i64 t.k,.int .i64 t.a,.int .i64 t.z,.string t.v] 70 (0,0))
 cel:∃ pv:Int,w.heap[C.gc]?=some (.cells #[.int .i64 pv] 3 (0,0))
 sou:w.heap[C.gs]?=some (.cells #[ptr C.g] 66 (0,0))
 src:Src w C.g C.b C.cap C.s
 lo:C.lo≤w.heap.size
 pla:∃ i:Nat,t.a=i∧i≤C.s.size
 nxt:(t.k=1∧r=[]∧t.v=e0)∨(t.k≠1∧∃ z:Nat,t.z=z∧0 < z∧Lexes BVal C.s z r)
abbrev FrC (C:Cx) (w w':World):Prop:=Fr C.gp C.gc w w'
theorem Src.fr {w w':World} {x y g b cap:Nat} {s:ByteArray} (h:Src w g b cap s) (hf:Fr x y w w') (h1:g≠x) (h2:g≠y) (h3:b≠x) (h4:b≠y) (h0:∀ G:World→Prop,True) (hG:Glob w'):Src w' g b cap s:=by
 have hk:∀ (a:Addr),a.block < w.heap.size→a.block≠x→a.block≠y→w'.cell? a=w.cell? a:=fun a ha hx hy=>World.cell?_of_block (hf.block a.block ha hx hy)
 refine ⟨?_,fun j hj=>?_,h.cap,h.small,hG⟩
 ·rw [hk _ (World.block_lt_of_cell? w _ h.body) h1 h2];exact h.body
 ·rw [hk _ (World.block_lt_of_cell? w _ (h.bytes j hj)) h3 h4];exact h.bytes j hj
end Go.Proofs.YthgcghpcikbnkaaGreatDoor.R
namespace Go.Proofs.YthgcghpcikbnkaaGreatDoor.R
open Go.RowKit Go.Proofs.YthgcghpcikbnkaaGreatDoorW.PrintWords Go.Proofs.YthgcghpcikbnkaaGreatDoorW.PrintLast Go.Proofs.YthgcghpcikbnkaaGreatDoorW.PrintMore Go.Proofs.YthgcghpcikbnkaaGreatDoor.PFnReadVariables
set_option linter.unusedVariables false
set_option linter.unusedSimpArgs false
def Q (s:ByteArray) (r:List (List Int)):Prop:=∀ x ∈ r,∃ a b:Nat,x=[(a:Int),(b:Int)]∧a≤b∧b≤s.size
theorem blen (s:ByteArray):(bytesOf s).length=s.size:=by unfold bytesOf;simp [data_length]
theorem msr_up (n j:Nat) (h:j < n) (hn:n≤2000):n - (intOf (.int .i64 (wrap64 ((j:Int)+1)))).toNat < n - (intOf (.int .i64 (j:Int))).toNat:=by
 have e:wrap64 ((j:Int)+1)=((j+1:Nat):Int):=(w64 (by omega) (by omega)).trans (by omega)
 rw [e]
 show n - ((j+1:Nat):Int).toNat < n - ((j:Nat):Int).toNat
 rw [Int.toNat_natCast,Int.toNat_natCast]
 omega
theorem bnne' {a b:Int} (h:a≠b):(a == b)=false:=beq_eq_false_iff_ne.2 h
theorem zz_calls {w:World} {g b cap:Nat} {s:ByteArray} (h:Src w g b cap s):Calls Tryz.prog 175 #[.slice (some ⟨b,0,none⟩) s.size cap] w fun e w'=>∃ (v:Value) (r:List (List Int)),e=.returned v∧Q s r∧r.length≤s.size∧Kd.S (Kd.slice 3 (Kd.int .i64)) 246 w' w.heap.size (fun _=>True) v r∧Below w.heap.size w w':=by
 have HS:=mkA h
 have SZ:=mkA h.small
 clear h
 go_enter Tryz.func175,Tryz.ntmps175
 go_wp2
 go_loopw [3,4] (fun v3 v4 wr=>∃ (x3:List (List Int)) (p:Nat),v4=.int .i64 p∧Aside0 (p≤s.size∧x3.length≤p∧Q s x3)∧Aside0 (Kd.S (Kd.slice 3 (Kd.int .i64)) 246 wr w.heap.size (fun _=>True) v3 x3)∧Aside0 (Below w.heap.size w wr)) (fun _ v4 _=>s.size - (intOf v4).toNat)
 case atStart=>exact ⟨[],0,rfl,⟨Nat.zero_le _,Nat.le_refl _,fun x hx=>by cases hx⟩,⟨by first | exact Kd.S_nil _ _ _ _ _ | exact Kd.N_nil _ _ _ _ _⟩,⟨Below.refl _ _⟩⟩
 case round =>
  obtain ⟨x3,p,rfl,HR,HO,HB⟩:=hrel
  by_cases hp:p < s.size
  case neg =>
   have q1:((p:Int) < (s.size:Int))=False:=eq_false (by omega)
   have q2:(p < s.size)=False:=eq_false hp
   clear hp
   go_wp2
   go_ret
   exact ⟨_,x3,rfl,HR.out.2.2,Nat.le_trans HR.out.2.1 HR.out.1,HO.out,HB.out⟩
  case pos =>
   have q1:((p:Int) < (s.size:Int))=True:=eq_true (by omega)
   have q2:(p < s.size)=True:=eq_true hp
   have HP:=mkA hp
   have HS1:=mkA (HS.out.below HB.out)
   have b0:wr.cell? ⟨b,p,none⟩=some (.int .u8 (bt s p)):=HS1.out.bytes p hp
   obtain ⟨x,hx⟩:∃ x,x=bt s p:=⟨_,rfl⟩
   rw [← hx] at b0
   have W1:wrap64 ((p:Int)+1)=((p+1:Nat):Int):=by have:=SZ.out;exact (w64 (by omega) (by omega)).trans (by omega)
   have W2:wrap64 ((p:Int)+2)=((p+2:Nat):Int):=by have:=SZ.out;exact (w64 (by omega) (by omega)).trans (by omega)
   have W3:wrap64 (((p+1:Nat):Int)+1)=((p+2:Nat):Int):=by have:=SZ.out;exact (w64 (by omega) (by omega)).trans (by omega)
   obtain ⟨j1,hj1⟩:∃ j1:Nat,j1=p+1:=⟨_,rfl⟩
   obtain ⟨j2,hj2⟩:∃ j2:Nat,j2=p+2:=⟨_,rfl⟩
   rw [← hj1] at W1 W3
   rw [← hj2] at W2 W3
   have J1:=mkA (show j1=p+1∧p+1≤s.size by omega)
   have J2:=mkA hj2
   clear hj1 hj2 hx hp
   go_upto_region 5 with (fail)
   go_cut [11] (fun v11 wc=>∃ b:Bool,v11=.bool b∧wr=wc∧Aside0 (b=true→j2≤s.size))
   case first =>
    by_cases h13:x=13
    case neg =>
     have p1:=(bnne' h13)
     clear h13
     go_wp2
     go_meet
     exact ⟨false,rfl,rfl,⟨fun e=>by cases e⟩⟩
    case pos =>
     have p1:(x == 13)=true:=beq_iff_eq.2 h13
     by_cases h2:j1 < s.size
     case neg =>
      have r1:((j1:Int) < (s.size:Int))=False:=eq_false (by omega)
      have r2:(j1 < s.size)=False:=eq_false h2
      clear h13 h2
      go_wp2
      go_meet
      exact ⟨false,rfl,rfl,⟨fun e=>by cases e⟩⟩
     case pos =>
      have r1:((j1:Int) < (s.size:Int))=True:=eq_true (by omega)
      have r2:(j1 < s.size)=True:=eq_true h2
      have b1:wr.cell? ⟨b,j1,none⟩=some (.int .u8 (bt s j1)):=HS1.out.bytes j1 h2
      obtain ⟨x2,hx2⟩:∃ x2,x2=bt s j1:=⟨_,rfl⟩
      rw [← hx2] at b1
      have J3:=mkA (show j2≤s.size by have:=J1.out;have:=J2.out;omega)
      clear h13 h2 hx2
      go_wp2
      go_meet
      exact ⟨_,rfl,rfl,⟨fun _=>J3.out⟩⟩
   case rest =>
    obtain ⟨bb,rfl,rfl,HBB⟩:=hcut
    cases bb
    case true =>
     have J3:=mkA (show j2=p+2∧j2≤s.size from ⟨J2.out,HBB.out rfl⟩)
     obtain ⟨y1,hy1⟩:∃ y:List Int,y=([(p:Int),(j2:Int)]:List Int):=⟨_,rfl⟩
     obtain ⟨y2,hy2⟩:∃ y:List (List Int),y=x3++[y1]:=⟨_,rfl⟩
     have HQ2:=mkA (show Q s y2∧y2.length≤p+1 by
      rw [hy2]
      refine ⟨fun x hx=>?_,by simp;exact HR.out.2.1⟩
      rcases List.mem_append.1 hx with hx | hx
      ·exact HR.out.2.2 x hx
      ·rw [List.mem_singleton.1 hx,hy1];exact ⟨p,j2,rfl,by have:=J3.out;omega,by have:=J3.out;omega⟩)
     have Y1:=mkA hy1
     have Y2:=mkA hy2
     have LM:=mkA (show x3.length < 5864062014805 by have:=HR.out.2.1;have:=HR.out.1;have:=SZ.out;omega)
     clear hy1 hy2
     go_wp2_with (first | ((with_reducible refine gate_dst (N:=36) rfl ?_);(try (refine gate_guard (by rfl) ?_;dsimp only));refine Kd.R_lit (Kd.int .i64) _ 3 ?hg (N:=36) ?hd (xs:=([(p:Int),(j2:Int)]:List Int)) (inner:=[.int .i64 (p:Int),.int .i64 ((j2:Int))]) (ok:=fun _=>True) (okp:=fun _=>True) ?hr ?hp (fun _ hk=>hk) trivial (Below.refl _ _) (Nat.le_refl _) (by simp) ?_;(case hd=>rfl);(case hg=>rfl);(case hr=>first | (go_simp;done) | (go_simp;rfl));(case hp=>exact (Reps.one (show Kd.M (Kd.int .i64) _ _ _ (p:Int) [.int .i64 (p:Int)] from rfl) (Reps.one (show Kd.M (Kd.int .i64) _ _ _ ((j2:Int)) [.int .i64 ((j2:Int))] from rfl) (Reps.none _ _))));intro v645 w11 ho12 hb hg_ hnew_;clear hg_ hnew_;(first | rw [← Y1.out] at ho12 | (simp only [Int.reduceToNat] at ho12;rw [← Y1.out] at ho12));have n0_:=mkA (Kd.S_elder' (by (with_reducible repeat (first | apply Kd.S_alloc | apply Kd.S_drewN | apply Kd.S_drew));exact HO.out) (Kd.R_base ho12) hb);have n1_:=mkA (Kd.R_lower ho12 (below_size (by repeat (first | (with_reducible first | exact HB.out | apply below_alloc | apply pw_below_drewN | apply below_drew1) | exact HB.out))));have n2_:=mkA (below_step (by repeat (first | (with_reducible first | exact HB.out | apply below_alloc | apply pw_below_drewN | apply below_drew1) | exact HB.out)) hb);clear HO HB;have HO:=n0_;have HO646:=n1_;have HB:=n2_;clear n0_ n1_ n2_ hb ho12;obtain ⟨Ao14,co14,eo14⟩:=Kd.R_slice HO646.out;subst eo14) | ((with_reducible refine gate_builtin (b:=.append) (xs:=#[.tmp 32,.tmp 37]) rfl ?_);(try (refine gate_guard (by rfl) ?_;dsimp only));at_builtin;refine Kd.S_append (Kd.slice 3 (Kd.int .i64)) (w0:=w) w.heap.size rfl (.tmp 32) (.tmp 37) 315 246 (.slice none 0 0) 24 rfl Tryz.underlying315 info246 rfl (by decide) (by omega) u3 x3 y1 [.slice Ao14 y1.length co14] (fun _=>True) (fun k_=>some k_=(.slice Ao14 y1.length co14:Value).ownBlock) rfl rfl ?aP (fun k_ hk_=>((Kd.R_mono (ok':=fun k_=>((fun _=>True)) k_∧some k_≠(u3:Value).ownBlock) (Kd.R_apart' (HO646.out) (Kd.S_typed HO.out) (by decide)) (fun k_ hk=>⟨trivial,hk.2⟩))).1 k_ hk_.symm) ?aF ?aO ?aB ?aS ?aL ?_;(case aP=>exact Kd.M_row (Kd.R_mono (Kd.R_tight rfl (Kd.R_mono (ok':=fun k_=>((fun _=>True)) k_∧some k_≠(u3:Value).ownBlock) (Kd.R_apart' (HO646.out) (Kd.S_typed HO.out) (by decide)) (fun k_ hk=>⟨trivial,hk.2⟩))) (fun _ h_=>h_)));(case aB=>exact (by repeat (first | (with_reducible first | exact HB.out | apply below_alloc | apply pw_below_drewN | apply below_drew1) | exact HB.out)));(case aF=>exact (fun _ _=>trivial));(case aO=>exact (by (with_reducible repeat (first | apply Kd.S_alloc | apply Kd.S_drewN | apply Kd.S_drew));exact Kd.S_mono HO.out (fun k_ hk=>⟨trivial,fun e_=>hk.2 e_⟩)));(case aS=>exact (below_size (by repeat (first | (with_reducible first | exact HB.out | apply below_alloc | apply pw_below_drewN | apply below_drew1) | exact HB.out))));(case aL=>have:=LM.out;omega);intro v648 w13 ho hb hg hat;rw [← Y2.out] at ho;have n0_:=mkA (hb);have n1_:=mkA (ho);clear HB HO HO646;have HB:=n0_;have HO649:=n1_;clear n0_ n1_ ho hb hg hat))
     go_roundw
     case rel=>exact ⟨y2,j2,congrArg (Value.int .i64) (by first | rfl | rw [W1,W3] | rw [W3]),⟨J3.out.2,by have:=HQ2.out.2;have:=J3.out;omega,HQ2.out.1⟩,⟨by (with_reducible repeat (first | apply Kd.S_alloc | apply Kd.S_drewN | apply Kd.S_drew));exact HO649.out⟩,⟨by repeat (first | (with_reducible first | exact HB.out | apply below_alloc | apply pw_below_drewN | apply below_drew1) | exact HB.out)⟩⟩
     case measure=>(first | rw [W1,W3] | rw [W3] | skip);have:=J3.out;have:=HP.out;simp only [intOf];omega
    case false =>
     by_cases hn:x=13∨x=10
     case neg =>
      have p1:=bnne' (fun e=>hn (.inl e))
      have p2:=bnne' (fun e=>hn (.inr e))
      clear hn
      go_wp2
      go_roundw
      case rel=>exact ⟨x3,j1,congrArg (Value.int .i64) W1,⟨by have:=J1.out;omega,by have:=HR.out.2.1;have:=J1.out;omega,HR.out.2.2⟩,HO,HB⟩
      case measure=>rw [W1];have:=J1.out;have:=HP.out;simp only [intOf];omega
     case pos =>
      have hn2:(x == 13)=true∨((x == 13)=false∧(x == 10)=true):=by
       rcases hn with h | h
       ·exact .inl (by rw [h];rfl)
       ·exact .inr ⟨by rw [h];rfl,by rw [h];rfl⟩
      have J3:=mkA (show j1=p+1∧j1≤s.size by have:=J1.out;omega)
      clear hn
      rcases hn2 with p1 | ⟨p1,p2⟩
      all_goals
       obtain ⟨y1,hy1⟩:∃ y:List Int,y=([(p:Int),(j1:Int)]:List Int):=⟨_,rfl⟩
       obtain ⟨y2,hy2⟩:∃ y:List (List Int),y=x3++[y1]:=⟨_,rfl⟩
       have HQ2:=mkA (show Q s y2∧y2.length≤p+1 by
        rw [hy2]
        refine ⟨fun x hx=>?_,by simp;exact HR.out.2.1⟩
        rcases List.mem_append.1 hx with hx | hx
        ·exact HR.out.2.2 x hx
        ·rw [List.mem_singleton.1 hx,hy1];exact ⟨p,j1,rfl,by have:=J3.out;omega,by have:=J3.out;omega⟩)
       have Y1:=mkA hy1
       have Y2:=mkA hy2
       have LM:=mkA (show x3.length < 5864062014805 by have:=HR.out.2.1;have:=HR.out.1;have:=SZ.out;omega)
       clear hy1 hy2
       go_wp2_with (first | ((with_reducible refine gate_dst (N:=58) rfl ?_);(try (refine gate_guard (by rfl) ?_;dsimp only));refine Kd.R_lit (Kd.int .i64) _ 3 ?hg (N:=58) ?hd (xs:=([(p:Int),(j1:Int)]:List Int)) (inner:=[.int .i64 (p:Int),.int .i64 ((j1:Int))]) (ok:=fun _=>True) (okp:=fun _=>True) ?hr ?hp (fun _ hk=>hk) trivial (Below.refl _ _) (Nat.le_refl _) (by simp) ?_;(case hd=>rfl);(case hg=>rfl);(case hr=>first | (go_simp;done) | (go_simp;rfl));(case hp=>exact (Reps.one (show Kd.M (Kd.int .i64) _ _ _ (p:Int) [.int .i64 (p:Int)] from rfl) (Reps.one (show Kd.M (Kd.int .i64) _ _ _ ((j1:Int)) [.int .i64 ((j1:Int))] from rfl) (Reps.none _ _))));intro v645 w11 ho12 hb hg_ hnew_;clear hg_ hnew_;(first | rw [← Y1.out] at ho12 | (simp only [Int.reduceToNat] at ho12;rw [← Y1.out] at ho12));have n0_:=mkA (Kd.S_elder' (by (with_reducible repeat (first | apply Kd.S_alloc | apply Kd.S_drewN | apply Kd.S_drew));exact HO.out) (Kd.R_base ho12) hb);have n1_:=mkA (Kd.R_lower ho12 (below_size (by repeat (first | (with_reducible first | exact HB.out | apply below_alloc | apply pw_below_drewN | apply below_drew1) | exact HB.out))));have n2_:=mkA (below_step (by repeat (first | (with_reducible first | exact HB.out | apply below_alloc | apply pw_below_drewN | apply below_drew1) | exact HB.out)) hb);clear HO HB;have HO:=n0_;have HO646:=n1_;have HB:=n2_;clear n0_ n1_ n2_ hb ho12;obtain ⟨Ao14,co14,eo14⟩:=Kd.R_slice HO646.out;subst eo14) | ((with_reducible refine gate_builtin (b:=.append) (xs:=#[.tmp 54,.tmp 59]) rfl ?_);(try (refine gate_guard (by rfl) ?_;dsimp only));at_builtin;refine Kd.S_append (Kd.slice 3 (Kd.int .i64)) (w0:=w) w.heap.size rfl (.tmp 54) (.tmp 59) 315 246 (.slice none 0 0) 24 rfl Tryz.underlying315 info246 rfl (by decide) (by omega) u3 x3 y1 [.slice Ao14 y1.length co14] (fun _=>True) (fun k_=>some k_=(.slice Ao14 y1.length co14:Value).ownBlock) rfl rfl ?aP (fun k_ hk_=>((Kd.R_mono (ok':=fun k_=>((fun _=>True)) k_∧some k_≠(u3:Value).ownBlock) (Kd.R_apart' (HO646.out) (Kd.S_typed HO.out) (by decide)) (fun k_ hk=>⟨trivial,hk.2⟩))).1 k_ hk_.symm) ?aF ?aO ?aB ?aS ?aL ?_;(case aP=>exact Kd.M_row (Kd.R_mono (Kd.R_tight rfl (Kd.R_mono (ok':=fun k_=>((fun _=>True)) k_∧some k_≠(u3:Value).ownBlock) (Kd.R_apart' (HO646.out) (Kd.S_typed HO.out) (by decide)) (fun k_ hk=>⟨trivial,hk.2⟩))) (fun _ h_=>h_)));(case aB=>exact (by repeat (first | (with_reducible first | exact HB.out | apply below_alloc | apply pw_below_drewN | apply below_drew1) | exact HB.out)));(case aF=>exact (fun _ _=>trivial));(case aO=>exact (by (with_reducible repeat (first | apply Kd.S_alloc | apply Kd.S_drewN | apply Kd.S_drew));exact Kd.S_mono HO.out (fun k_ hk=>⟨trivial,fun e_=>hk.2 e_⟩)));(case aS=>exact (below_size (by repeat (first | (with_reducible first | exact HB.out | apply below_alloc | apply pw_below_drewN | apply below_drew1) | exact HB.out))));(case aL=>have:=LM.out;omega);intro v648 w13 ho hb hg hat;rw [← Y2.out] at ho;have n0_:=mkA (hb);have n1_:=mkA (ho);clear HB HO HO646;have HB:=n0_;have HO649:=n1_;clear n0_ n1_ ho hb hg hat))
       go_roundw
       case rel=>exact ⟨y2,j1,congrArg (Value.int .i64) W1,⟨J3.out.2,by have:=HQ2.out.2;have:=J3.out;omega,HQ2.out.1⟩,⟨by (with_reducible repeat (first | apply Kd.S_alloc | apply Kd.S_drewN | apply Kd.S_drew));exact HO649.out⟩,⟨by repeat (first | (with_reducible first | exact HB.out | apply below_alloc | apply pw_below_drewN | apply below_drew1) | exact HB.out)⟩⟩
       case measure=>rw [W1];have:=J3.out;have:=HP.out;simp only [intOf];omega
theorem zz_walk {w:World} {g b cap:Nat} {s:ByteArray} (h:Src w g b cap s) :
 Calls Tryz.prog 175 #[.slice (some ⟨b,0,none⟩) s.size cap] w fun e w'=>(∃ (A:Option Addr) (n c:Nat),e=.returned (.slice A n c)∧n≤2000∧(∀ j:Nat,j < n→∃ (ad:Addr) (ad2:Addr) (c2 a z:Nat),A=some ad∧w'.cell? (ad.add j)=some (.slice (some ad2) 2 c2)∧w'.cell? ad2=some (.int .i64 a)∧w'.cell? ⟨ad2.block,ad2.off+1,none⟩=some (.int .i64 z)∧a≤z∧z≤s.size))∧Below w.heap.size w w':=by
 refine (zz_calls h).mono fun e w' ⟨v,r,he,hq,hrl,hS,hB⟩=>⟨?_,hB⟩
 obtain ⟨A,c,rfl,hl,hC⟩:=Kd.S_reads hS
 refine ⟨A,r.length,c,he,?_,fun j hj=>?_⟩
 ·have:=h.small;omega
 ·have hx:r.getD j [] ∈ r:=by
   rw [List.getD_eq_getElem?_getD,List.getElem?_eq_getElem hj];exact List.getElem_mem hj
  obtain ⟨a,z,e3,h1,h2⟩:=hq _ hx
  obtain ⟨ad1,cs,e1,hlen,⟨A2,c2,rfl,_,hC2⟩,hcs⟩:=Kd.C_get hC [] (j:Int) (by omega) (by omega)
  simp only [Int.toNat_natCast] at hC2 hcs
  rw [e3] at hC2 hcs
  obtain ⟨ad2,rfl,h5⟩:=Kd.at_int hC2 0 (by omega) (by simp)
  obtain ⟨ad3,e4,h6⟩:=Kd.at_int hC2 1 (by omega) (by simp)
  cases e4
  have h4:=hcs 0 _ rfl
  refine ⟨ad1,ad2,c2,a,z,e1,?_,h5,h6,h1,h2⟩
  have e5:j * (Kd.slice 3 (Kd.int .i64)).sz+0=j:=by show j * 1+0=j;omega
  rw [e5] at h4
  exact h4
set_option maxHeartbeats 8000000 in
set_option maxRecDepth 100000 in
theorem getLoc_walk {w:World} {g b cap:Nat} {s:ByteArray} (h:Src w g b cap s) (p:Nat) (hps:p≤s.size) :
 Calls Tryz.prog 167 #[.pointer (some ⟨g,0,none⟩),.int .i64 p] w fun e w'=>(∃ l c:Int,e=.returned (.agg #[.int .i64 l,.int .i64 c]))∧Below w.heap.size w w':=by
 have HB:=mkA (Below.refl w.heap.size w)
 have HS:=mkA h
 have hcap:s.size≤cap:=h.cap
 have HC:=mkA hcap
 clear h hps hcap
 go_enter Tryz.func167,Tryz.ntmps167
 go_wp2_with (first
  | ((with_reducible refine gate_dst (N:=4) rfl ?_);refine bxe (cs:=#[.int .i64 0,.int .i64 0]) (t:=285) ?hr ?_;(case hr=>first | (go_simp;done) | (go_simp;rfl));intro gb hg w2 hbox hb;have hB2:=below_step HB.out hb;have GE:=mkA ((by rw [hg];exact below_size HB.out:w.heap.size≤gb));have hS2:=HS.out.below hB2;have hc0:∀ o:Obj,(w2.alloc o).cell? ⟨g,0,none⟩=some (.slice (some ⟨b,0,none⟩) s.size cap):=fun o=>(hS2.below (below_alloc (Below.refl _ _) o)).body;have HB2:=mkA hB2;have HS2:=mkA hS2;have BK:=mkA hbox;clear hb hbox hg hB2 hS2)
  | (go_at_call 175;refine (zz_walk (HS2.out.below (below_alloc (Below.refl _ _) _))).mono ?_;rintro e w3 ⟨⟨A,n,c,rfl,hnn,hn⟩,hB⟩;have HB3:=mkA ((below_alloc HB2.out _).trans (hB.mono (by have:=HB2.out.size;simp only [World.size_alloc];omega)));have BK3:=mkA (blk_below (blk_alloc BK.out _) hB);have HN:=mkA hn;have HNN:=mkA hnn;have HC1:=mkA (show w3.cell? ⟨g,0,none⟩=some (.slice (some ⟨b,0,none⟩) s.size cap) from ((HS2.out.below (below_alloc (Below.refl _ _) _)).below hB).body);clear hB hn hnn hc0))
 go_loopw [6,7,26] (fun v6 v7 v26 wr=>∃ (j nd:Nat) (l c:Int),Aside0 (j≤n)∧v6=.int .i64 l∧v7=.int .i64 c∧v26=.int .i64 j∧Aside0 (wr=w3.drewN nd)) (fun _ _ v26 _=>n - (intOf v26).toNat)
 case atStart=>exact ⟨0,0,_,_,⟨Nat.zero_le _⟩,rfl,rfl,rfl,⟨rfl⟩⟩
 case round =>
  obtain ⟨j,nd,l,c,HJ,rfl,rfl,rfl,HW⟩:=hrel
  obtain rfl:=HW.out
  by_cases hlt:j < n
  ·obtain ⟨ad,ad2,c2,a,z,rfl,h1,h2,h3,h4,h5⟩:=HN.out j hlt
   have hz0:w3.cell? ⟨gb,0,none⟩=some (.int .i64 0):=(blk_cell BK3.out 0).trans rfl
   have hz1:w3.cell? ⟨gb,1,none⟩=some (.int .i64 0):=(blk_cell BK3.out 1).trans rfl
   have hf0:w3.frozen? ⟨gb,0,none⟩=false:=blk_frozen BK3.out 0
   have hf1:w3.frozen? ⟨gb,1,none⟩=false:=blk_frozen BK3.out 1
   have HLT:=mkA hlt
   have q0:(j < n)=True:=eq_true hlt
   have hb1:=HC1.out
   have HZ:=mkA (And.intro h4 h5)
   clear hlt
   by_cases hap:a < p
   ·have ea:(a < p)=True:=eq_true hap
    have q1:(a≤z)=True:=eq_true h4
    have q2:(z≤cap)=True:=eq_true (Nat.le_trans h5 HC.out)
    clear h4 h5 hap hz0 hz1 hf0 hf1
    go_wp2
    go_quiet (fail)
    go_wp2
    go_roundw
    case rel=>exact ⟨j+1,_,_,_,⟨by have:=HLT.out;omega⟩,rfl,rfl,congrArg (Value.int .i64) (show wrap64 ((j:Int)+1)=((j+1:Nat):Int) from (w64 (by omega) (by have h1:=HNN.out;have h2:=HLT.out;omega)).trans (by omega)),⟨rfl⟩⟩
    case measure=>exact msr_up n j HLT.out HNN.out
   ·have ea:(a < p)=False:=eq_false hap
    clear h4 h5 hap
    go_wp2
    refine bodyPost_ret (results_cell_row rfl _ _ gb 285 #[.int .i64 l,.int .i64 c] (0,0) _ rfl (by refine blk_put (cs:=#[.int .i64 l,.int .i64 0]) ?_ 1 _ rfl;refine blk_put (cs:=#[.int .i64 0,.int .i64 0]) ?_ 0 _ rfl;exact BK3.out) Tryz.underlying285 rfl (by kernel_rfl)) rfl ?_
    exact ⟨⟨_,_,rfl⟩,below_set (below_set (pw_below_drewN HB3.out nd) GE.out) GE.out⟩
  ·have q0:(j < n)=False:=eq_false hlt
   have hz0:w3.cell? ⟨gb,0,none⟩=some (.int .i64 0):=(blk_cell BK3.out 0).trans rfl
   have hz1:w3.cell? ⟨gb,1,none⟩=some (.int .i64 0):=(blk_cell BK3.out 1).trans rfl
   have hf0:w3.frozen? ⟨gb,0,none⟩=false:=blk_frozen BK3.out 0
   have hf1:w3.frozen? ⟨gb,1,none⟩=false:=blk_frozen BK3.out 1
   clear hlt
   go_wp2
   refine bodyPost_ret (results_cell_row rfl _ _ gb 285 #[.int .i64 l,.int .i64 c] (0,0) _ rfl (by refine blk_put (cs:=#[.int .i64 l,.int .i64 0]) ?_ 1 _ rfl;refine blk_put (cs:=#[.int .i64 0,.int .i64 0]) ?_ 0 _ rfl;exact BK3.out) Tryz.underlying285 rfl (by kernel_rfl)) rfl ?_
   exact ⟨⟨_,_,rfl⟩,below_set (below_set (pw_below_drewN HB3.out nd) GE.out) GE.out⟩
abbrev synB:ByteArray:=⟨#[83,121,110,116,97,120,32,69,114,114,111,114]⟩
theorem info285:(Tryz.prog.info? 285).map (fun i=>(i.zero,i.size,i.bytes))=some (some (.agg #[.int .i64 0,.int .i64 0]),2,16):=by kernel_rfl
def k285:Kd (Int × Int):=Kd.pair (Kd.int .i64) (Kd.int .i64)
theorem k285_mk (w:World) (base:Nat) (ok:Nat→Prop) (x:Int × Int):k285.M w base ok x [.int .i64 x.1,.int .i64 x.2]:=⟨[.int .i64 x.1],[.int .i64 x.2],rfl,rfl,rfl⟩
def lft:Value→Nat
 | .int _ a=>2 - a.toNat
 | _=>0
set_option maxHeartbeats 8000000 in
set_option maxRecDepth 100000 in
theorem newError_walk {w:World} {g b cap:Nat} {s:ByteArray} (h:Src w g b cap s) (p:Nat) (hps:p≤s.size) (nA:Option Addr) (pb:Nat) (hpb:w.cell? ⟨pb,0,none⟩=some (.int .i64 p)) :
 Calls Tryz.prog 152 #[.string synB,.slice nA 0 0,.string ⟨#[]⟩,.pointer (some ⟨g,0,none⟩),.slice (some ⟨pb,0,none⟩) 1 1,.slice none 0 0,.nilIface] w fun e w'=>(∃ gq:Nat,e=.returned (.pointer (some ⟨gq,0,none⟩)))∧Below w.heap.size w w':=by
 have HB:=mkA (Below.refl w.heap.size w)
 have HS:=mkA h
 have HPS:=mkA hps
 have HPB:=mkA hpb
 clear h hps hpb
 go_enter Tryz.func152,Tryz.ntmps152
 go_wp2_with (first
  | ((with_reducible refine gate_dst (N:=85) rfl ?_);refine Kd.S_lit k285 w.heap.size 285 ?hg (N:=85) ?hd (xs:=([]:List (Int × Int))) (inner:=[]) (ok:=fun _=>True) (okp:=fun _=>True) ?hr ?hp (fun _ hk=>hk) trivial HB.out (Nat.le_refl _) (by simp) ?_;(case hd=>rfl);(case hg=>rfl);(case hr=>first | (go_simp;done) | (go_simp;rfl));(case hp=>exact Reps.none _ _);intro v1 w1 ho hb hg_ hnew_;have HO:=mkA ho;have HB1:=mkA hb;clear ho hb hg_ hnew_;obtain ⟨A0,c0,e0⟩:=Kd.S_slice HO.out;subst e0;have hpc:w1.cell? ⟨pb,0,none⟩=some (.int .i64 p):=(HB1.out.cell (World.block_lt_of_cell? w _ HPB.out)).trans HPB.out))
 go_loopw [19,88] (fun v19 v88 wr=>(v19=.slice A0 0 c0∧v88=.int .i64 0∧w1=wr)∨(∃ (A:Option Addr) (n c:Nat),v19=.slice A n c∧v88=.int .i64 1∧Aside0 (Below w.heap.size w wr))) (fun _ v88 _=>lft v88)
 case atStart=>exact .inl ⟨rfl,rfl,rfl⟩
 case round =>
  rcases hrel with ⟨rfl,rfl,rfl⟩ | ⟨A,n,c,rfl,rfl,HBr⟩
  ·go_wp2_with (first
    | (go_at_call 167;refine (getLoc_walk (HS.out.below HB1.out) p HPS.out).mono ?_;rintro e w3 ⟨⟨l,cc,rfl⟩,hB⟩;have HO3:=mkA (Kd.S_below HO.out hB);have HB3:=mkA (below_step HB1.out hB);clear hB)
    | ((with_reducible refine gate_dst (N:=22) rfl ?_);refine bxe (cs:=#[.int .i64 0,.int .i64 0]) (t:=285) ?hr ?_;(case hr=>first | (go_simp;done) | (go_simp;rfl));intro gb hg w4 hbox hb;have GE:=mkA ((by rw [hg];exact below_size HB3.out:w.heap.size≤gb));have HO4:=mkA (Kd.S_below (Kd.S_elderB HO3.out gb (by omega)) hb);have HB4:=mkA (below_step HB3.out hb);have BK:=mkA hbox;clear hb hbox hg;have hcz0:w4.cell? ⟨gb,0,none⟩=some (.int .i64 0):=(blk_cell BK.out 0).trans rfl;have hcz1:w4.cell? ⟨gb,1,none⟩=some (.int .i64 0):=(blk_cell BK.out 1).trans rfl;have hfz0:=blk_frozen BK.out 0;have hfz1:=blk_frozen BK.out 1)
    | ((with_reducible refine gate_builtin (b:=.append) (xs:=#[.tmp 95,.tmp 97]) rfl ?_);((try (refine gate_guard (by rfl) ?_;dsimp only));at_builtin;refine Kd.S_append k285 (w0:=w) w.heap.size rfl (.tmp 95) (.tmp 97) 283 285 (.agg #[.int .i64 0,.int .i64 0]) 16 rfl Tryz.underlying283 info285 rfl (by decide) (by omega) (.slice A0 0 c0) [] (l,cc) [.int .i64 l,.int .i64 cc] (fun _=>True) (fun _=>False) rfl ?hx (k285_mk _ _ _ _) (fun _ hk=>hk.elim) (fun _ _=>trivial) ?aO ?aB ?aS (by simp) ?_;(case hx=>show Value.slice (some ⟨w4.heap.size,0,none⟩) 1 1=_;simp);(case aO=>exact Kd.S_mono (Kd.S_far (Kd.S_far HO4.out (fun k hk=>hk.2) _) (fun k hk=>hk.2) _) (fun k hk=>⟨trivial,fun e=>e.elim⟩));(case aB=>exact below_set (below_set HB4.out GE.out) GE.out);(case aS=>exact (below_set (below_set HB4.out GE.out) GE.out).size);intro v5 w5 ho hb hg hat;have HB5:=mkA hb;obtain ⟨A5,c5,e5⟩:=Kd.S_slice ho;subst e5;clear ho hb hg hat)))
   go_roundw
   case rel=>exact .inr ⟨_,_,_,rfl,rfl,HB5⟩
   case measure=>decide
  ·go_wp2_with (first
    | ((with_reducible refine gate_dst (N:=109) rfl ?_);refine bxe (cs:=#[.string synB,.string synB,.slice nA 0 0,.pointer (some ⟨g,0,none⟩),.slice (some ⟨pb,0,none⟩) 1 1,.slice A n c,.nilIface,.slice none 0 0]) (t:=288) ?hr ?_;(case hr=>first | (go_simp;done) | (go_simp;rfl));intro gb hg w4 hbox hb;have HB4:=mkA (below_step HBr.out hb);clear hb hbox hg))
   go_ret
   exact ⟨⟨gb,rfl⟩,HB4.out⟩
theorem newErr_walk {w:World} {g b cap:Nat} {s:ByteArray} (h:Src w g b cap s) (p:Nat) (hps:p≤s.size) (nA:Option Addr) (pb:Nat) (hpb:w.cell? ⟨pb,0,none⟩=some (.int .i64 p)) :
 Calls Tryz.prog 134 #[.string synB,.slice nA 0 0,.string ⟨#[]⟩,.pointer (some ⟨g,0,none⟩),.slice (some ⟨pb,0,none⟩) 1 1,.nilIface] w fun e w'=>(∃ gq:Nat,e=.returned (.pointer (some ⟨gq,0,none⟩)))∧Below w.heap.size w w':=by
 have c24:=newError_walk h p hps nA pb hpb
 clear h hps hpb
 go_enter Tryz.func134,Tryz.ntmps134
 go_wp2_with (first | (go_at_call 152;refine c24.mono ?_;rintro e w' ⟨⟨gq,rfl⟩,hB⟩;have hB:=mkA hB))
 go_ret
 exact ⟨⟨gq,rfl⟩,hB.out⟩
set_option maxRecDepth 100000 in
theorem synErr_walk {w:World} {g b cap:Nat} {s:ByteArray} (h:Src w g b cap s) (p:Nat) (hps:p≤s.size) (m:ByteArray) :
 Calls Tryz.prog 101 #[.pointer (some ⟨g,0,none⟩),.int .i64 p,.string m] w fun e w'=>(∃ gq:Nat,e=.returned (.pointer (some ⟨gq,0,none⟩)))∧Below w.heap.size w w':=by
 have HS:=mkA h
 have HPS:=mkA hps
 clear h hps
 go_enter Tryz.func101,Tryz.ntmps101
 go_wp2_with (first | (go_at_call 134;(refine (newErr_walk (HS.out.below (below_alloc (below_alloc (Below.refl _ _) _) _)) p HPS.out _ _ ?hc).mono ?_;(case hc=>simp);rintro e w' ⟨⟨gq,rfl⟩,hB⟩;have HB:=mkA (below_step (below_alloc (below_alloc (Below.refl _ _) _) _) hB);clear hB)))
 go_ret
 exact ⟨⟨gq,rfl⟩,HB.out⟩
end Go.Proofs.YthgcghpcikbnkaaGreatDoor.R
