/- A part of the proof of the theorem of this claim: Pv1, Pv2, Pv3, Got, Skp. No condition of its own. -/
import Derived.Test.YthgcghpcikbnkaaGreatDoorC8
import Derived.Test.YthgcghpcikbnkaaGreatDoorC7
set_option maxHeartbeats 16000000
set_option maxRecDepth 100000
namespace Go.Proofs.YthgcghpcikbnkaaGreatDoor.R
open Go.RowKit Go.Proofs.YthgcghpcikbnkaaGreatDoorW.PrintWords Go.Proofs.YthgcghpcikbnkaaGreatDoorW.PrintLast Go.Proofs.YthgcghpcikbnkaaGreatDoorW.PrintMore
set_option linter.unusedVariables false
set_option linter.unusedSimpArgs false
theorem val_10 {C:Cx} {w:World} {t:Tk} {r:List Tk} {c:Bool} (h:PS C w t r) (q0:(t.k == 10)=true) {f:Nat} (hV:ValSpec C f c) (hf:f≤1000000) (hne:rev false (pVal f c) 10 11 f (t :: r)≠.out):Calls Tryz.prog 84 #[ptr C.gp,.bool c] w (Got C w ((rev false (pVal f c) 10 11 f (t :: r)).bind fun x=>.ok (nd 17 e0 e0 e0 0 x.1,x.2)) ValE):=by
 have HP:=mkA h
 have OK:=mkA h.ok
 have LOW:=mkA h.lo
 have HB:=mkA (Fr.refl C.gp C.gc w)
 obtain ⟨c1,c5,c6,c7,c8⟩:=h.cells
 clear h
 have HV:=mkA hV
 have HF:=mkA hf
 have HNE:=mkA hne
 clear hV hf hne
 obtain ⟨RES,hR⟩:∃ RES,RES=((rev false (pVal f c) 10 11 f (t :: r)).bind fun x=>.ok (nd 17 e0 e0 e0 0 x.1,x.2)):=⟨_,rfl⟩
 rw [← hR]
 have HR:=mkA hR
 clear hR
 cases RES with
 | out =>
   exfalso
   have h1:=HR.out
   have h2:=HNE.out
   revert h1 h2
   cases rev false (pVal f c) 10 11 f (t :: r) with
   | out=>exact fun _ h=>h rfl
   | bad=>exact fun h _=>by cases h
   | ok a=>exact fun h _=>by cases h
 | bad =>
   go_enter Tryz.func84,Tryz.ntmps84
   go_upto_region 2 with (first
    | ((with_reducible refine gate_dst (N:=6) rfl ?_);refine bxz ?hr ?_;(case hr=>first | (go_simp;done) | (go_simp;rfl));intro gt hg w2 hbox hb;obtain ⟨n0_,GT,GT2,n1_,BT,NP,tz0,tz1,tz2,tz3,tf0,tf1,tf2,tf3⟩:=tkb OK.out HB.out HP.out hg hbox hb;clear HB hb hbox hg c1 c5 c6 c7 c8;have HB:=n0_;have HP2:=n1_;clear n0_ n1_))
   obtain ⟨w3,hw3,n0_,n1_,n2_,sx0,sx1,sx2,sx3⟩:=tk3 HB.out GT.out BT.out HP2.out GT2.out
   rw [← hw3]
   clear HB BT HP2 hw3 tz0 tz1 tz2 tz3 tf0 tf1 tf2 tf3
   have HB:=n0_;have BT:=n1_;have HP2:=n2_
   clear n0_ n1_ n2_
   go_wp2_with (first
    | (go_at_call 107;have c_:=list_walk HV.out HF.out HP2.out HNE.out;rw [← HR.out] at c_;(with_reducible refine c_.mono ?_);rintro e w4 ⟨hF,hP,v_,te,x,rfl⟩;have HB4:=mkA (HB.out.trans hF);have HP4:=mkA hP;clear hF hP))
   go_ret2
   exact ⟨HB4.out,HP4.out,_,te,x,rfl⟩
 | ok a_ =>
   obtain ⟨rows,l_⟩:=a_
   go_enter Tryz.func84,Tryz.ntmps84
   go_upto_region 2 with (first
    | ((with_reducible refine gate_dst (N:=6) rfl ?_);refine bxz ?hr ?_;(case hr=>first | (go_simp;done) | (go_simp;rfl));intro gt hg w2 hbox hb;obtain ⟨n0_,GT,GT2,n1_,BT,NP,tz0,tz1,tz2,tz3,tf0,tf1,tf2,tf3⟩:=tkb OK.out HB.out HP.out hg hbox hb;clear HB hb hbox hg c1 c5 c6 c7 c8;have HB:=n0_;have HP2:=n1_;clear n0_ n1_))
   obtain ⟨w3,hw3,n0_,n1_,n2_,sx0,sx1,sx2,sx3⟩:=tk3 HB.out GT.out BT.out HP2.out GT2.out
   rw [← hw3]
   clear HB BT HP2 hw3 tz0 tz1 tz2 tz3 tf0 tf1 tf2 tf3
   have HB:=n0_;have BT:=n1_;have HP2:=n2_
   clear n0_ n1_ n2_
   go_wp2_with (first
    | (go_at_call 107;have c_:=list_walk HV.out HF.out HP2.out HNE.out;rw [← HR.out] at c_;(with_reducible refine c_.mono ?_);rintro e w4 ⟨hF,v4,u4,r4,hl_,hP,hN,rfl⟩;subst hl_;obtain ⟨g4,k4,l4,sl4,rw4,rfl,q1,q2,q3,q4⟩:=hN;have HN4:=mkA (And.intro q1 (And.intro q2 (And.intro q3 q4)));have HB4:=mkA (HB.out.trans hF);have HP4:=mkA hP;clear hF hP q1 q2 q3 q4))
   go_ret2
   obtain ⟨q1,q2,⟨n4,xs4,q30,q31,q32⟩,q4⟩:=HN4.out
   obtain ⟨dep,q33⟩:=many_depth q32
   have hk:Keeps (from_ w3.heap.size) (from_ w.heap.size) w4 w4:=keeps_weak HB.out.size
   have hv:ValS (from_ w3.heap.size) w4 (ValA (from_ w3.heap.size) w4 dep) (.iface 141 (ptr g4)) rows:=by rw [q4];exact .lst q1 q2 ⟨n4,xs4,q30,q31,q33⟩
   exact ⟨HB4.out,_,u4,r4,rfl,HP4.out,⟨dep+1,ValA.fr hk (dep+1) _ _ hv⟩,rfl⟩
theorem val_12 {C:Cx} {w:World} {t:Tk} {r:List Tk} {c:Bool} (h:PS C w t r) (q0:(t.k == 10)=false) (q1:(t.k == 12)=true) {f:Nat} (hV:ValSpec C f c) (hf:f≤1000000) (hne:rev false (pNV 19 (pVal f c)) 12 14 f (t :: r)≠.out):Calls Tryz.prog 84 #[ptr C.gp,.bool c] w (Got C w ((rev false (pNV 19 (pVal f c)) 12 14 f (t :: r)).bind fun x=>.ok (nd 18 e0 e0 e0 0 x.1,x.2)) ValE):=by
 have HP:=mkA h
 have OK:=mkA h.ok
 have LOW:=mkA h.lo
 have HB:=mkA (Fr.refl C.gp C.gc w)
 obtain ⟨c1,c5,c6,c7,c8⟩:=h.cells
 clear h
 have HV:=mkA hV
 have HF:=mkA hf
 have HNE:=mkA hne
 clear hV hf hne
 obtain ⟨RES,hR⟩:∃ RES,RES=((rev false (pNV 19 (pVal f c)) 12 14 f (t :: r)).bind fun x=>.ok (nd 18 e0 e0 e0 0 x.1,x.2)):=⟨_,rfl⟩
 rw [← hR]
 have HR:=mkA hR
 clear hR
 cases RES with
 | out =>
   exfalso
   have h1:=HR.out
   have h2:=HNE.out
   revert h1 h2
   cases rev false (pNV 19 (pVal f c)) 12 14 f (t :: r) with
   | out=>exact fun _ h=>h rfl
   | bad=>exact fun h _=>by cases h
   | ok a=>exact fun h _=>by cases h
 | bad =>
   go_enter Tryz.func84,Tryz.ntmps84
   go_upto_region 2 with (first
    | ((with_reducible refine gate_dst (N:=6) rfl ?_);refine bxz ?hr ?_;(case hr=>first | (go_simp;done) | (go_simp;rfl));intro gt hg w2 hbox hb;obtain ⟨n0_,GT,GT2,n1_,BT,NP,tz0,tz1,tz2,tz3,tf0,tf1,tf2,tf3⟩:=tkb OK.out HB.out HP.out hg hbox hb;clear HB hb hbox hg c1 c5 c6 c7 c8;have HB:=n0_;have HP2:=n1_;clear n0_ n1_))
   obtain ⟨w3,hw3,n0_,n1_,n2_,sx0,sx1,sx2,sx3⟩:=tk3 HB.out GT.out BT.out HP2.out GT2.out
   rw [← hw3]
   clear HB BT HP2 hw3 tz0 tz1 tz2 tz3 tf0 tf1 tf2 tf3
   have HB:=n0_;have BT:=n1_;have HP2:=n2_
   clear n0_ n1_ n2_
   go_wp2_with (first
    | (go_at_call 108;have c_:=obj_walk HV.out HF.out HP2.out HNE.out;rw [← HR.out] at c_;(with_reducible refine c_.mono ?_);rintro e w4 ⟨hF,hP,v_,te,x,rfl⟩;have HB4:=mkA (HB.out.trans hF);have HP4:=mkA hP;clear hF hP))
   go_ret2
   exact ⟨HB4.out,HP4.out,_,te,x,rfl⟩
 | ok a_ =>
   obtain ⟨rows,l_⟩:=a_
   go_enter Tryz.func84,Tryz.ntmps84
   go_upto_region 2 with (first
    | ((with_reducible refine gate_dst (N:=6) rfl ?_);refine bxz ?hr ?_;(case hr=>first | (go_simp;done) | (go_simp;rfl));intro gt hg w2 hbox hb;obtain ⟨n0_,GT,GT2,n1_,BT,NP,tz0,tz1,tz2,tz3,tf0,tf1,tf2,tf3⟩:=tkb OK.out HB.out HP.out hg hbox hb;clear HB hb hbox hg c1 c5 c6 c7 c8;have HB:=n0_;have HP2:=n1_;clear n0_ n1_))
   obtain ⟨w3,hw3,n0_,n1_,n2_,sx0,sx1,sx2,sx3⟩:=tk3 HB.out GT.out BT.out HP2.out GT2.out
   rw [← hw3]
   clear HB BT HP2 hw3 tz0 tz1 tz2 tz3 tf0 tf1 tf2 tf3
   have HB:=n0_;have BT:=n1_;have HP2:=n2_
   clear n0_ n1_ n2_
   go_wp2_with (first
    | (go_at_call 108;have c_:=obj_walk HV.out HF.out HP2.out HNE.out;rw [← HR.out] at c_;(with_reducible refine c_.mono ?_);rintro e w4 ⟨hF,v4,u4,r4,hl_,hP,hN,rfl⟩;subst hl_;obtain ⟨g4,k4,l4,sl4,rw4,rfl,q1,q2,q3,q4⟩:=hN;have HN4:=mkA (And.intro q1 (And.intro q2 (And.intro q3 q4)));have HB4:=mkA (HB.out.trans hF);have HP4:=mkA hP;clear hF hP q1 q2 q3 q4))
   go_ret2
   obtain ⟨q1,q2,⟨n4,xs4,q30,q31,q32⟩,q4⟩:=HN4.out
   obtain ⟨dep,q33⟩:=FldA.depth q32
   have hk:Keeps (from_ w3.heap.size) (from_ w.heap.size) w4 w4:=keeps_weak HB.out.size
   have hv:ValS (from_ w3.heap.size) w4 (ValA (from_ w3.heap.size) w4 dep) (.iface 145 (ptr g4)) rows:=by rw [q4];exact .obj q1 q2 ⟨n4,xs4,q30,q31,q33⟩
   exact ⟨HB4.out,_,u4,r4,rfl,HP4.out,⟨dep+1,ValA.fr hk (dep+1) _ _ hv⟩,rfl⟩
theorem val_16 {C:Cx} {w:World} {t:Tk} {r:List Tk} {c:Bool} (h:PS C w t r) (q0:(t.k == 10)=false) (q1:(t.k == 12)=false) (q2:(t.k == 16)=true):Calls Tryz.prog 84 #[ptr C.gp,.bool c] w (Got C w (one (nd 12 e0 e0 t.v 0 []) (t :: r)) ValE):=by
 have HP:=mkA h
 have OK:=mkA h.ok
 have LOW:=mkA h.lo
 have HB:=mkA (Fr.refl C.gp C.gc w)
 obtain ⟨c1,c5,c6,c7,c8⟩:=h.cells
 have HTK:=mkA (show t.k≠1 from by intro e;rw [e] at q2;exact absurd q2 (by decide))
 clear h
 cases r with
 | nil =>
   rw [show one (nd 12 e0 e0 t.v 0 []) [t]=.bad by unfold one;rw [adv_nil HTK.out];rfl]
   go_enter Tryz.func84,Tryz.ntmps84
   go_upto_region 2 with (first
    | ((with_reducible refine gate_dst (N:=6) rfl ?_);refine bxz ?hr ?_;(case hr=>first | (go_simp;done) | (go_simp;rfl));intro gt hg w2 hbox hb;obtain ⟨n0_,GT,GT2,n1_,BT,NP,tz0,tz1,tz2,tz3,tf0,tf1,tf2,tf3⟩:=tkb OK.out HB.out HP.out hg hbox hb;clear HB hb hbox hg c1 c5 c6 c7 c8;have HB:=n0_;have HP2:=n1_;clear n0_ n1_))
   obtain ⟨w3,hw3,n0_,n1_,n2_,sx0,sx1,sx2,sx3⟩:=tk3 HB.out GT.out BT.out HP2.out GT2.out
   rw [← hw3]
   clear HB BT HP2 hw3 tz0 tz1 tz2 tz3 tf0 tf1 tf2 tf3
   have HB:=n0_;have BT:=n1_;have HP2:=n2_
   clear n0_ n1_ n2_
   have CA:=mkA (advance_walk HP2.out HTK.out)
   go_wp2_with (first
    | (go_at_call 100;(with_reducible refine CA.out.mono ?_);rintro e w4 ⟨hF,hP,te,x,rfl⟩;replace HB:=mkA (HB.out.trans hF);have HQ:=mkA hP;clear hF hP))
   go_ret2
   exact ⟨HB.out,HQ.out,_,te,x,rfl⟩
 | cons u r =>
   rw [show one (nd 12 e0 e0 t.v 0 []) (t :: u :: r)=.ok (nd 12 e0 e0 t.v 0 [],u :: r) by unfold one;rw [adv_cons HTK.out];rfl]
   go_enter Tryz.func84,Tryz.ntmps84
   go_upto_region 2 with (first
    | ((with_reducible refine gate_dst (N:=6) rfl ?_);refine bxz ?hr ?_;(case hr=>first | (go_simp;done) | (go_simp;rfl));intro gt hg w2 hbox hb;obtain ⟨n0_,GT,GT2,n1_,BT,NP,tz0,tz1,tz2,tz3,tf0,tf1,tf2,tf3⟩:=tkb OK.out HB.out HP.out hg hbox hb;clear HB hb hbox hg c1 c5 c6 c7 c8;have HB:=n0_;have HP2:=n1_;clear n0_ n1_))
   obtain ⟨w3,hw3,n0_,n1_,n2_,sx0,sx1,sx2,sx3⟩:=tk3 HB.out GT.out BT.out HP2.out GT2.out
   rw [← hw3]
   clear HB BT HP2 hw3 tz0 tz1 tz2 tz3 tf0 tf1 tf2 tf3
   have HB:=n0_;have BT:=n1_;have HP2:=n2_
   clear n0_ n1_ n2_
   have CA:=mkA (advance_walk HP2.out HTK.out)
   go_upto_region 11 with (first
    | (go_at_call 100;(with_reducible refine CA.out.mono ?_);rintro e w4 ⟨hF,hP,rfl⟩;replace HB:=mkA (HB.out.trans hF);have HQ:=mkA hP;have BT4:=mkA (hF.blk BT.out NP.out.1 NP.out.2);clear hF hP))
   clear sx0 sx1 sx3
   have sx0:w4.cell? ⟨gt,3,none⟩=some (.string t.v):=(blk_cell BT4.out 3).trans rfl
   have sx1:w4.cell? ⟨gt,1,none⟩=some (.int .i64 t.a):=(blk_cell BT4.out 1).trans rfl
   have K0:∀ u,Below w4.heap.size w4 u→(u.cell? ⟨gt,3,none⟩=some (.string t.v)∧u.cell? ⟨gt,1,none⟩=some (.int .i64 t.a))∧Below w4.heap.size w4 u:=fun u hu=>⟨⟨(hu.cell (World.block_lt_of_cell? _ _ sx0)).trans sx0,(hu.cell (World.block_lt_of_cell? _ _ sx1)).trans sx1⟩,hu⟩
   have cL:=mkA (fun (u:World) (hu:Below w4.heap.size w4 u) (a:Int)=>(show Calls Tryz.prog 59 #[ptr C.gp,.int .i64 a] u fun e w'=>(∃ g':Nat,e=.returned (ptr g')∧LocA (from_ w4.heap.size) w' (ptr g'))∧Below w4.heap.size w4 w' from (loc_ps (HQ.out.below hu) a).mono fun e w' q=>by obtain ⟨⟨g',q1,q2⟩,q3⟩:=q;exact ⟨⟨g',q1,q2.fr (keeps_weak hu.size)⟩,below_step hu q3⟩))
   have LO:=mkA (show w.heap.size≤w4.heap.size from HB.out.size)
   go_region_held3 (fun u=>(u.cell? ⟨gt,3,none⟩=some (.string t.v)∧u.cell? ⟨gt,1,none⟩=some (.int .i64 t.a))∧Below w4.heap.size w4 u) (first | exact K0 _ (Below.refl _ _) | exact K0 _ (below_drew1 (Below.refl _ _)) | exact K0 _ (below_drew1 (below_alloc (Below.refl _ _) _)) | exact hS9 | exact hS5 | exact hS6 | fail) (first
    | (go_at_call 59;refine (cL.out _ ?_ _).mono ?_;(first | exact below_drew1 (Below.refl _ _) | exact Below.refl _ _);rintro e w5 ⟨⟨gl,rfl,hgl⟩,hW5⟩;have hS5:=K0 _ hW5;have hS6:=K0 _ (below_alloc hW5 (.cells #[.string ⟨#[]⟩,ptr gl,.string t.v] 131));have cN:=(show Calls Tryz.prog 109 #[ptr w5.heap.size] (w5.alloc (.cells #[.string ⟨#[]⟩,ptr gl,.string t.v] 131)) fun e w'=>∃ (g9:Nat) (k9:ByteArray),e=.returned (ptr g9)∧w.heap.size≤g9∧w'.heap[g9]?=some (.cells #[.string k9,ptr gl,.string t.v] 131 (0,0))∧Below w5.heap.size w5 w' from (newInt (B:=w5.heap.size) (heap_alloc_new w5 _) (Nat.le_refl _) (below_alloc (Below.refl w5.heap.size w5) _).size).mono fun e w' q=>by obtain ⟨⟨g9,k9,q1,q2,q3⟩,q4⟩:=q;exact ⟨g9,k9,q1,Nat.le_trans (Nat.le_trans LO.out hW5.size) q2,q3,(below_alloc (Below.refl w5.heap.size w5) _).trans q4⟩))
    | (go_at_call 109;refine cN.mono ?_;rintro e w9 ⟨g9,k9,rfl,h90,h91,hX⟩;have hW9:=below_step hW5 hX;have hS9:=K0 _ hW9)
    | fail)
   go_wp2
   go_ret2
   have KX:=keeps_below (ok:=from_ w4.heap.size) (ok':=from_ w.heap.size) hX (fun g hg=>Nat.le_trans HB.out.size hg)
   exact ⟨HB.out.step hW9,_,_,_,rfl,HQ.out.below hW9,⟨1,ValS.int (X:=ValA (from_ w.heap.size) _ 0) ⟨h90,h91⟩ (hgl.fr KX)⟩,rfl⟩
theorem val_17 {C:Cx} {w:World} {t:Tk} {r:List Tk} {c:Bool} (h:PS C w t r) (q0:(t.k == 10)=false) (q1:(t.k == 12)=false) (q2:(t.k == 16)=false) (q3:(t.k == 17)=true):Calls Tryz.prog 84 #[ptr C.gp,.bool c] w (Got C w (one (nd 13 e0 e0 t.v 0 []) (t :: r)) ValE):=by
 have HP:=mkA h
 have OK:=mkA h.ok
 have LOW:=mkA h.lo
 have HB:=mkA (Fr.refl C.gp C.gc w)
 obtain ⟨c1,c5,c6,c7,c8⟩:=h.cells
 have HTK:=mkA (show t.k≠1 from by intro e;rw [e] at q3;exact absurd q3 (by decide))
 clear h
 cases r with
 | nil =>
   rw [show one (nd 13 e0 e0 t.v 0 []) [t]=.bad by unfold one;rw [adv_nil HTK.out];rfl]
   go_enter Tryz.func84,Tryz.ntmps84
   go_upto_region 2 with (first
    | ((with_reducible refine gate_dst (N:=6) rfl ?_);refine bxz ?hr ?_;(case hr=>first | (go_simp;done) | (go_simp;rfl));intro gt hg w2 hbox hb;obtain ⟨n0_,GT,GT2,n1_,BT,NP,tz0,tz1,tz2,tz3,tf0,tf1,tf2,tf3⟩:=tkb OK.out HB.out HP.out hg hbox hb;clear HB hb hbox hg c1 c5 c6 c7 c8;have HB:=n0_;have HP2:=n1_;clear n0_ n1_))
   obtain ⟨w3,hw3,n0_,n1_,n2_,sx0,sx1,sx2,sx3⟩:=tk3 HB.out GT.out BT.out HP2.out GT2.out
   rw [← hw3]
   clear HB BT HP2 hw3 tz0 tz1 tz2 tz3 tf0 tf1 tf2 tf3
   have HB:=n0_;have BT:=n1_;have HP2:=n2_
   clear n0_ n1_ n2_
   have CA:=mkA (advance_walk HP2.out HTK.out)
   go_wp2_with (first
    | (go_at_call 100;(with_reducible refine CA.out.mono ?_);rintro e w4 ⟨hF,hP,te,x,rfl⟩;replace HB:=mkA (HB.out.trans hF);have HQ:=mkA hP;clear hF hP))
   go_ret2
   exact ⟨HB.out,HQ.out,_,te,x,rfl⟩
 | cons u r =>
   rw [show one (nd 13 e0 e0 t.v 0 []) (t :: u :: r)=.ok (nd 13 e0 e0 t.v 0 [],u :: r) by unfold one;rw [adv_cons HTK.out];rfl]
   go_enter Tryz.func84,Tryz.ntmps84
   go_upto_region 2 with (first
    | ((with_reducible refine gate_dst (N:=6) rfl ?_);refine bxz ?hr ?_;(case hr=>first | (go_simp;done) | (go_simp;rfl));intro gt hg w2 hbox hb;obtain ⟨n0_,GT,GT2,n1_,BT,NP,tz0,tz1,tz2,tz3,tf0,tf1,tf2,tf3⟩:=tkb OK.out HB.out HP.out hg hbox hb;clear HB hb hbox hg c1 c5 c6 c7 c8;have HB:=n0_;have HP2:=n1_;clear n0_ n1_))
   obtain ⟨w3,hw3,n0_,n1_,n2_,sx0,sx1,sx2,sx3⟩:=tk3 HB.out GT.out BT.out HP2.out GT2.out
   rw [← hw3]
   clear HB BT HP2 hw3 tz0 tz1 tz2 tz3 tf0 tf1 tf2 tf3
   have HB:=n0_;have BT:=n1_;have HP2:=n2_
   clear n0_ n1_ n2_
   have CA:=mkA (advance_walk HP2.out HTK.out)
   go_upto_region 16 with (first
    | (go_at_call 100;(with_reducible refine CA.out.mono ?_);rintro e w4 ⟨hF,hP,rfl⟩;replace HB:=mkA (HB.out.trans hF);have HQ:=mkA hP;have BT4:=mkA (hF.blk BT.out NP.out.1 NP.out.2);clear hF hP))
   clear sx0 sx1 sx3
   have sx0:w4.cell? ⟨gt,3,none⟩=some (.string t.v):=(blk_cell BT4.out 3).trans rfl
   have sx1:w4.cell? ⟨gt,1,none⟩=some (.int .i64 t.a):=(blk_cell BT4.out 1).trans rfl
   have K0:∀ u,Below w4.heap.size w4 u→(u.cell? ⟨gt,3,none⟩=some (.string t.v)∧u.cell? ⟨gt,1,none⟩=some (.int .i64 t.a))∧Below w4.heap.size w4 u:=fun u hu=>⟨⟨(hu.cell (World.block_lt_of_cell? _ _ sx0)).trans sx0,(hu.cell (World.block_lt_of_cell? _ _ sx1)).trans sx1⟩,hu⟩
   have cL:=mkA (fun (u:World) (hu:Below w4.heap.size w4 u) (a:Int)=>(show Calls Tryz.prog 59 #[ptr C.gp,.int .i64 a] u fun e w'=>(∃ g':Nat,e=.returned (ptr g')∧LocA (from_ w4.heap.size) w' (ptr g'))∧Below w4.heap.size w4 w' from (loc_ps (HQ.out.below hu) a).mono fun e w' q=>by obtain ⟨⟨g',q1,q2⟩,q3⟩:=q;exact ⟨⟨g',q1,q2.fr (keeps_weak hu.size)⟩,below_step hu q3⟩))
   have LO:=mkA (show w.heap.size≤w4.heap.size from HB.out.size)
   go_region_held3 (fun u=>(u.cell? ⟨gt,3,none⟩=some (.string t.v)∧u.cell? ⟨gt,1,none⟩=some (.int .i64 t.a))∧Below w4.heap.size w4 u) (first | exact K0 _ (Below.refl _ _) | exact K0 _ (below_drew1 (Below.refl _ _)) | exact K0 _ (below_drew1 (below_alloc (Below.refl _ _) _)) | exact hS9 | exact hS5 | exact hS6 | fail) (first
    | (go_at_call 59;refine (cL.out _ ?_ _).mono ?_;(first | exact below_drew1 (Below.refl _ _) | exact Below.refl _ _);rintro e w5 ⟨⟨gl,rfl,hgl⟩,hW5⟩;have hS5:=K0 _ hW5;have hS6:=K0 _ (below_alloc hW5 (.cells #[.string ⟨#[]⟩,ptr gl,.string t.v] 133));have cN:=(show Calls Tryz.prog 110 #[ptr w5.heap.size] (w5.alloc (.cells #[.string ⟨#[]⟩,ptr gl,.string t.v] 133)) fun e w'=>∃ (g9:Nat) (k9:ByteArray),e=.returned (ptr g9)∧w.heap.size≤g9∧w'.heap[g9]?=some (.cells #[.string k9,ptr gl,.string t.v] 133 (0,0))∧Below w5.heap.size w5 w' from (newFloat (B:=w5.heap.size) (heap_alloc_new w5 _) (Nat.le_refl _) (below_alloc (Below.refl w5.heap.size w5) _).size).mono fun e w' q=>by obtain ⟨⟨g9,k9,q1,q2,q3⟩,q4⟩:=q;exact ⟨g9,k9,q1,Nat.le_trans (Nat.le_trans LO.out hW5.size) q2,q3,(below_alloc (Below.refl w5.heap.size w5) _).trans q4⟩))
    | (go_at_call 110;refine cN.mono ?_;rintro e w9 ⟨g9,k9,rfl,h90,h91,hX⟩;have hW9:=below_step hW5 hX;have hS9:=K0 _ hW9)
    | fail)
   go_wp2
   go_ret2
   have KX:=keeps_below (ok:=from_ w4.heap.size) (ok':=from_ w.heap.size) hX (fun g hg=>Nat.le_trans HB.out.size hg)
   exact ⟨HB.out.step hW9,_,_,_,rfl,HQ.out.below hW9,⟨1,ValS.flt (X:=ValA (from_ w.heap.size) _ 0) ⟨h90,h91⟩ (hgl.fr KX)⟩,rfl⟩
theorem word_yes {v:ByteArray} {l:List UInt8} (h:v=⟨l.toArray⟩):(v.toList=l)=True∧(v.toList == l)=true:=by
 have e:v.toList=l:=by rw [h];exact ByteArray.toList_mk l
 exact ⟨eq_true e,beq_iff_eq.2 e⟩
theorem word_no {v:ByteArray} {l:List UInt8} (h:v≠⟨l.toArray⟩):(v.toList=l)=False∧(v.toList == l)=false:=by
 have e:¬ v.toList=l:=fun e=>h (by rw [← e,ByteArray.toList_eq])
 exact ⟨eq_false e,beq_eq_false_iff_ne.2 e⟩
theorem adv_ne (l:List Tk):adv l≠.out:=by
 unfold adv
 cases l with
 | nil=>exact fun e=>by cases e
 | cons t r =>
   dsimp only
   split
   ·exact fun e=>by cases e
   ·cases r <;> exact fun e=>by cases e
theorem must_ne (k:Int) (l:List Tk):must k l≠.out:=by
 unfold must
 split
 ·exact adv_ne l
 ·exact fun e=>by cases e
theorem pName_ne (l:List Tk):pName l≠.out:=by
 unfold pName
 split
 ·have:=adv_ne l
  revert this
  cases adv l <;> simp
 ·exact fun e=>by cases e
theorem pVar_ne (l:List Tk):pVar l≠.out:=by
 unfold pVar
 have:=must_ne 3 l
 revert this
 cases must 3 l with
 | out=>exact fun h=>absurd rfl h
 | bad=>exact fun _ e=>by cases e
 | ok r=>exact fun _=>pName_ne r
theorem val_18 {C:Cx} {w:World} {t:Tk} {r:List Tk} {c:Bool} (h:PS C w t r) (q0:(t.k == 10)=false) (q1:(t.k == 12)=false) (q2:(t.k == 16)=false) (q3:(t.k == 17)=false) (q4:(t.k == 19)=false) (q5:(t.k == 18)=true):Calls Tryz.prog 84 #[ptr C.gp,.bool c] w (Got C w (one (nd 14 e0 e0 t.v 0 []) (t :: r)) ValE):=by
 have HP:=mkA h
 have OK:=mkA h.ok
 have LOW:=mkA h.lo
 have HB:=mkA (Fr.refl C.gp C.gc w)
 obtain ⟨c1,c5,c6,c7,c8⟩:=h.cells
 have HTK:=mkA (show t.k≠1 from by intro e;rw [e] at q5;exact absurd q5 (by decide))
 clear h
 cases r with
 | nil =>
   rw [show one (nd 14 e0 e0 t.v 0 []) [t]=.bad by unfold one;rw [adv_nil HTK.out];rfl]
   go_enter Tryz.func84,Tryz.ntmps84
   go_upto_region 2 with (first
    | ((with_reducible refine gate_dst (N:=6) rfl ?_);refine bxz ?hr ?_;(case hr=>first | (go_simp;done) | (go_simp;rfl));intro gt hg w2 hbox hb;obtain ⟨n0_,GT,GT2,n1_,BT,NP,tz0,tz1,tz2,tz3,tf0,tf1,tf2,tf3⟩:=tkb OK.out HB.out HP.out hg hbox hb;clear HB hb hbox hg c1 c5 c6 c7 c8;have HB:=n0_;have HP2:=n1_;clear n0_ n1_))
   obtain ⟨w3,hw3,n0_,n1_,n2_,sx0,sx1,sx2,sx3⟩:=tk3 HB.out GT.out BT.out HP2.out GT2.out
   rw [← hw3]
   clear HB BT HP2 hw3 tz0 tz1 tz2 tz3 tf0 tf1 tf2 tf3
   have HB:=n0_;have BT:=n1_;have HP2:=n2_
   clear n0_ n1_ n2_
   go_wp2_with (first
    | (go_at_call 111;have c_:=strLit_walk HP2.out HTK.out;rw [adv_nil HTK.out] at c_;(with_reducible refine c_.mono ?_);rintro e w4 ⟨hF,hP,v_,te,x,rfl⟩;have HB4:=mkA (HB.out.trans hF);have HP4:=mkA hP;clear hF hP))
   go_ret2
   exact ⟨HB4.out,HP4.out,_,te,x,rfl⟩
 | cons u r =>
   rw [show one (nd 14 e0 e0 t.v 0 []) (t :: u :: r)=.ok (nd 14 e0 e0 t.v 0 [],u :: r) by unfold one;rw [adv_cons HTK.out];rfl]
   go_enter Tryz.func84,Tryz.ntmps84
   go_upto_region 2 with (first
    | ((with_reducible refine gate_dst (N:=6) rfl ?_);refine bxz ?hr ?_;(case hr=>first | (go_simp;done) | (go_simp;rfl));intro gt hg w2 hbox hb;obtain ⟨n0_,GT,GT2,n1_,BT,NP,tz0,tz1,tz2,tz3,tf0,tf1,tf2,tf3⟩:=tkb OK.out HB.out HP.out hg hbox hb;clear HB hb hbox hg c1 c5 c6 c7 c8;have HB:=n0_;have HP2:=n1_;clear n0_ n1_))
   obtain ⟨w3,hw3,n0_,n1_,n2_,sx0,sx1,sx2,sx3⟩:=tk3 HB.out GT.out BT.out HP2.out GT2.out
   rw [← hw3]
   clear HB BT HP2 hw3 tz0 tz1 tz2 tz3 tf0 tf1 tf2 tf3
   have HB:=n0_;have BT:=n1_;have HP2:=n2_
   clear n0_ n1_ n2_
   go_wp2_with (first
    | (go_at_call 111;have c_:=strLit_walk HP2.out HTK.out;rw [adv_cons HTK.out] at c_;(with_reducible refine c_.mono ?_);rintro e w4 ⟨hF,v4,u4,r4,hl_,hP,hN,rfl⟩;injection hl_ with e1 e2;subst e1 e2;obtain ⟨g4,k4,l4,rfl,q1,q2⟩:=hN;have HN4:=mkA (And.intro q1 q2);have HB4:=mkA (HB.out.trans hF);have HP4:=mkA hP;clear hF hP q1 q2))
   go_ret2
   have hk:Keeps (from_ w3.heap.size) (from_ w.heap.size) w4 w4:=keeps_weak HB.out.size
   exact ⟨HB4.out,_,u,r,rfl,HP4.out,⟨1,ValS.str (X:=ValA (from_ w.heap.size) _ 0) (HN4.out.1.fr hk) (HN4.out.2.fr hk)⟩,rfl⟩
theorem val_19 {C:Cx} {w:World} {t:Tk} {r:List Tk} {c:Bool} (h:PS C w t r) (q0:(t.k == 10)=false) (q1:(t.k == 12)=false) (q2:(t.k == 16)=false) (q3:(t.k == 17)=false) (q4:(t.k == 19)=true):Calls Tryz.prog 84 #[ptr C.gp,.bool c] w (Got C w (one (nd 14 e0 e0 t.v 0 []) (t :: r)) ValE):=by
 have HP:=mkA h
 have OK:=mkA h.ok
 have LOW:=mkA h.lo
 have HB:=mkA (Fr.refl C.gp C.gc w)
 obtain ⟨c1,c5,c6,c7,c8⟩:=h.cells
 have HTK:=mkA (show t.k≠1 from by intro e;rw [e] at q4;exact absurd q4 (by decide))
 clear h
 cases r with
 | nil =>
   rw [show one (nd 14 e0 e0 t.v 0 []) [t]=.bad by unfold one;rw [adv_nil HTK.out];rfl]
   go_enter Tryz.func84,Tryz.ntmps84
   go_upto_region 2 with (first
    | ((with_reducible refine gate_dst (N:=6) rfl ?_);refine bxz ?hr ?_;(case hr=>first | (go_simp;done) | (go_simp;rfl));intro gt hg w2 hbox hb;obtain ⟨n0_,GT,GT2,n1_,BT,NP,tz0,tz1,tz2,tz3,tf0,tf1,tf2,tf3⟩:=tkb OK.out HB.out HP.out hg hbox hb;clear HB hb hbox hg c1 c5 c6 c7 c8;have HB:=n0_;have HP2:=n1_;clear n0_ n1_))
   obtain ⟨w3,hw3,n0_,n1_,n2_,sx0,sx1,sx2,sx3⟩:=tk3 HB.out GT.out BT.out HP2.out GT2.out
   rw [← hw3]
   clear HB BT HP2 hw3 tz0 tz1 tz2 tz3 tf0 tf1 tf2 tf3
   have HB:=n0_;have BT:=n1_;have HP2:=n2_
   clear n0_ n1_ n2_
   go_wp2_with (first
    | (go_at_call 111;have c_:=strLit_walk HP2.out HTK.out;rw [adv_nil HTK.out] at c_;(with_reducible refine c_.mono ?_);rintro e w4 ⟨hF,hP,v_,te,x,rfl⟩;have HB4:=mkA (HB.out.trans hF);have HP4:=mkA hP;clear hF hP))
   go_ret2
   exact ⟨HB4.out,HP4.out,_,te,x,rfl⟩
 | cons u r =>
   rw [show one (nd 14 e0 e0 t.v 0 []) (t :: u :: r)=.ok (nd 14 e0 e0 t.v 0 [],u :: r) by unfold one;rw [adv_cons HTK.out];rfl]
   go_enter Tryz.func84,Tryz.ntmps84
   go_upto_region 2 with (first
    | ((with_reducible refine gate_dst (N:=6) rfl ?_);refine bxz ?hr ?_;(case hr=>first | (go_simp;done) | (go_simp;rfl));intro gt hg w2 hbox hb;obtain ⟨n0_,GT,GT2,n1_,BT,NP,tz0,tz1,tz2,tz3,tf0,tf1,tf2,tf3⟩:=tkb OK.out HB.out HP.out hg hbox hb;clear HB hb hbox hg c1 c5 c6 c7 c8;have HB:=n0_;have HP2:=n1_;clear n0_ n1_))
   obtain ⟨w3,hw3,n0_,n1_,n2_,sx0,sx1,sx2,sx3⟩:=tk3 HB.out GT.out BT.out HP2.out GT2.out
   rw [← hw3]
   clear HB BT HP2 hw3 tz0 tz1 tz2 tz3 tf0 tf1 tf2 tf3
   have HB:=n0_;have BT:=n1_;have HP2:=n2_
   clear n0_ n1_ n2_
   go_wp2_with (first
    | (go_at_call 111;have c_:=strLit_walk HP2.out HTK.out;rw [adv_cons HTK.out] at c_;(with_reducible refine c_.mono ?_);rintro e w4 ⟨hF,v4,u4,r4,hl_,hP,hN,rfl⟩;injection hl_ with e1 e2;subst e1 e2;obtain ⟨g4,k4,l4,rfl,q1,q2⟩:=hN;have HN4:=mkA (And.intro q1 q2);have HB4:=mkA (HB.out.trans hF);have HP4:=mkA hP;clear hF hP q1 q2))
   go_ret2
   have hk:Keeps (from_ w3.heap.size) (from_ w.heap.size) w4 w4:=keeps_weak HB.out.size
   exact ⟨HB4.out,_,u,r,rfl,HP4.out,⟨1,ValS.str (X:=ValA (from_ w.heap.size) _ 0) (HN4.out.1.fr hk) (HN4.out.2.fr hk)⟩,rfl⟩
theorem val_enum {C:Cx} {w:World} {t:Tk} {r:List Tk} {c:Bool} (h:PS C w t r) (q0:(t.k == 10)=false) (q1:(t.k == 12)=false) (q2:(t.k == 16)=false) (q3:(t.k == 17)=false) (q4:(t.k == 19)=false) (q5:(t.k == 18)=false) (q6:(t.k == 15)=true) (hn1:t.v≠bTrue) (hn2:t.v≠bFalse) (hn3:t.v≠bNull):Calls Tryz.prog 84 #[ptr C.gp,.bool c] w (Got C w (one (nd 16 t.v e0 e0 0 []) (t :: r)) ValE):=by
 have HP:=mkA h
 have OK:=mkA h.ok
 have LOW:=mkA h.lo
 have HB:=mkA (Fr.refl C.gp C.gc w)
 obtain ⟨c1,c5,c6,c7,c8⟩:=h.cells
 have HTK:=mkA (show t.k≠1 from by intro e;rw [e] at q6;exact absurd q6 (by decide))
 clear h
 obtain ⟨x1,y1⟩:=word_no (l:=[116,114,117,101]) hn1;obtain ⟨x2,y2⟩:=word_no (l:=[102,97,108,115,101]) hn2;obtain ⟨x3,y3⟩:=word_no (l:=[110,117,108,108]) hn3;clear hn1 hn2 hn3
 cases r with
 | nil =>
   rw [show one (nd 16 t.v e0 e0 0 []) [t]=.bad by unfold one;rw [adv_nil HTK.out];rfl]
   go_enter Tryz.func84,Tryz.ntmps84
   go_upto_region 2 with (first
    | ((with_reducible refine gate_dst (N:=6) rfl ?_);refine bxz ?hr ?_;(case hr=>first | (go_simp;done) | (go_simp;rfl));intro gt hg w2 hbox hb;obtain ⟨n0_,GT,GT2,n1_,BT,NP,tz0,tz1,tz2,tz3,tf0,tf1,tf2,tf3⟩:=tkb OK.out HB.out HP.out hg hbox hb;clear HB hb hbox hg c1 c5 c6 c7 c8;have HB:=n0_;have HP2:=n1_;clear n0_ n1_))
   obtain ⟨w3,hw3,n0_,n1_,n2_,sx0,sx1,sx2,sx3⟩:=tk3 HB.out GT.out BT.out HP2.out GT2.out
   rw [← hw3]
   clear HB BT HP2 hw3 tz0 tz1 tz2 tz3 tf0 tf1 tf2 tf3
   have HB:=n0_;have BT:=n1_;have HP2:=n2_
   clear n0_ n1_ n2_
   have CA:=mkA (advance_walk HP2.out HTK.out)
   go_wp2_with (first
    | (go_at_call 100;(with_reducible refine CA.out.mono ?_);rintro e w4 ⟨hF,hP,te,x,rfl⟩;replace HB:=mkA (HB.out.trans hF);have HQ:=mkA hP;clear hF hP))
   go_ret2
   exact ⟨HB.out,HQ.out,_,te,x,rfl⟩
 | cons u r =>
   rw [show one (nd 16 t.v e0 e0 0 []) (t :: u :: r)=.ok (nd 16 t.v e0 e0 0 [],u :: r) by unfold one;rw [adv_cons HTK.out];rfl]
   go_enter Tryz.func84,Tryz.ntmps84
   go_upto_region 2 with (first
    | ((with_reducible refine gate_dst (N:=6) rfl ?_);refine bxz ?hr ?_;(case hr=>first | (go_simp;done) | (go_simp;rfl));intro gt hg w2 hbox hb;obtain ⟨n0_,GT,GT2,n1_,BT,NP,tz0,tz1,tz2,tz3,tf0,tf1,tf2,tf3⟩:=tkb OK.out HB.out HP.out hg hbox hb;clear HB hb hbox hg c1 c5 c6 c7 c8;have HB:=n0_;have HP2:=n1_;clear n0_ n1_))
   obtain ⟨w3,hw3,n0_,n1_,n2_,sx0,sx1,sx2,sx3⟩:=tk3 HB.out GT.out BT.out HP2.out GT2.out
   rw [← hw3]
   clear HB BT HP2 hw3 tz0 tz1 tz2 tz3 tf0 tf1 tf2 tf3
   have HB:=n0_;have BT:=n1_;have HP2:=n2_
   clear n0_ n1_ n2_
   have CA:=mkA (advance_walk HP2.out HTK.out)
   go_upto_region 33 with (first
    | (go_at_call 100;(with_reducible refine CA.out.mono ?_);rintro e w4 ⟨hF,hP,rfl⟩;replace HB:=mkA (HB.out.trans hF);have HQ:=mkA hP;have BT4:=mkA (hF.blk BT.out NP.out.1 NP.out.2);clear hF hP))
   clear sx0 sx1 sx3
   have sx0:w4.cell? ⟨gt,3,none⟩=some (.string t.v):=(blk_cell BT4.out 3).trans rfl
   have sx1:w4.cell? ⟨gt,1,none⟩=some (.int .i64 t.a):=(blk_cell BT4.out 1).trans rfl
   have K0:∀ u,Below w4.heap.size w4 u→(u.cell? ⟨gt,3,none⟩=some (.string t.v)∧u.cell? ⟨gt,1,none⟩=some (.int .i64 t.a))∧Below w4.heap.size w4 u:=fun u hu=>⟨⟨(hu.cell (World.block_lt_of_cell? _ _ sx0)).trans sx0,(hu.cell (World.block_lt_of_cell? _ _ sx1)).trans sx1⟩,hu⟩
   have cL:=mkA (fun (u:World) (hu:Below w4.heap.size w4 u) (a:Int)=>(show Calls Tryz.prog 59 #[ptr C.gp,.int .i64 a] u fun e w'=>(∃ g':Nat,e=.returned (ptr g')∧LocA (from_ w4.heap.size) w' (ptr g'))∧Below w4.heap.size w4 w' from (loc_ps (HQ.out.below hu) a).mono fun e w' q=>by obtain ⟨⟨g',q1,q2⟩,q3⟩:=q;exact ⟨⟨g',q1,q2.fr (keeps_weak hu.size)⟩,below_step hu q3⟩))
   have LO:=mkA (show w.heap.size≤w4.heap.size from HB.out.size)
   go_region_held3 (fun u=>(u.cell? ⟨gt,3,none⟩=some (.string t.v)∧u.cell? ⟨gt,1,none⟩=some (.int .i64 t.a))∧Below w4.heap.size w4 u) (first | exact K0 _ (Below.refl _ _) | exact K0 _ (below_drew1 (Below.refl _ _)) | exact K0 _ (below_drew1 (below_alloc (Below.refl _ _) _)) | exact hS9 | exact hS5 | exact hS6 | fail) (first
    | (go_at_call 59;refine (cL.out _ ?_ _).mono ?_;(first | exact below_drew1 (Below.refl _ _) | exact Below.refl _ _);rintro e w5 ⟨⟨gl,rfl,hgl⟩,hW5⟩;have hS5:=K0 _ hW5;have hS6:=K0 _ (below_alloc hW5 (.cells #[.string ⟨#[]⟩,ptr gl,.string t.v] 140));have cN:=(show Calls Tryz.prog 113 #[ptr w5.heap.size] (w5.alloc (.cells #[.string ⟨#[]⟩,ptr gl,.string t.v] 140)) fun e w'=>∃ (g9:Nat) (k9:ByteArray),e=.returned (ptr g9)∧w.heap.size≤g9∧w'.heap[g9]?=some (.cells #[.string k9,ptr gl,.string t.v] 140 (0,0))∧Below w5.heap.size w5 w' from (newEnum (B:=w5.heap.size) (heap_alloc_new w5 _) (Nat.le_refl _) (below_alloc (Below.refl w5.heap.size w5) _).size).mono fun e w' q=>by obtain ⟨⟨g9,k9,q1,q2,q3⟩,q4⟩:=q;exact ⟨g9,k9,q1,Nat.le_trans (Nat.le_trans LO.out hW5.size) q2,q3,(below_alloc (Below.refl w5.heap.size w5) _).trans q4⟩))
    | (go_at_call 113;refine cN.mono ?_;rintro e w9 ⟨g9,k9,rfl,h90,h91,hX⟩;have hW9:=below_step hW5 hX;have hS9:=K0 _ hW9)
    | fail)
   go_wp2
   go_ret2
   have KX:=keeps_below (ok:=from_ w4.heap.size) (ok':=from_ w.heap.size) hX (fun g hg=>Nat.le_trans HB.out.size hg)
   exact ⟨HB.out.step hW9,_,_,_,rfl,HQ.out.below hW9,⟨1,ValS.enm (X:=ValA (from_ w.heap.size) _ 0) ⟨h90,h91⟩ (hgl.fr KX)⟩,rfl⟩
theorem val_true {C:Cx} {w:World} {t:Tk} {r:List Tk} {c:Bool} (h:PS C w t r) (q0:(t.k == 10)=false) (q1:(t.k == 12)=false) (q2:(t.k == 16)=false) (q3:(t.k == 17)=false) (q4:(t.k == 19)=false) (q5:(t.k == 18)=false) (q6:(t.k == 15)=true) (hn1:t.v=bTrue) (hn2:t.v≠bFalse) (hn3:t.v≠bNull):Calls Tryz.prog 84 #[ptr C.gp,.bool c] w (Got C w (one (nd 15 e0 e0 e0 1 []) (t :: r)) ValE):=by
 have HP:=mkA h
 have OK:=mkA h.ok
 have LOW:=mkA h.lo
 have HB:=mkA (Fr.refl C.gp C.gc w)
 obtain ⟨c1,c5,c6,c7,c8⟩:=h.cells
 have HTK:=mkA (show t.k≠1 from by intro e;rw [e] at q6;exact absurd q6 (by decide))
 clear h
 obtain ⟨x1,y1⟩:=word_yes (l:=[116,114,117,101]) hn1;obtain ⟨x2,y2⟩:=word_no (l:=[102,97,108,115,101]) hn2;obtain ⟨x3,y3⟩:=word_no (l:=[110,117,108,108]) hn3;clear hn1 hn2 hn3
 cases r with
 | nil =>
   rw [show one (nd 15 e0 e0 e0 1 []) [t]=.bad by unfold one;rw [adv_nil HTK.out];rfl]
   go_enter Tryz.func84,Tryz.ntmps84
   go_upto_region 2 with (first
    | ((with_reducible refine gate_dst (N:=6) rfl ?_);refine bxz ?hr ?_;(case hr=>first | (go_simp;done) | (go_simp;rfl));intro gt hg w2 hbox hb;obtain ⟨n0_,GT,GT2,n1_,BT,NP,tz0,tz1,tz2,tz3,tf0,tf1,tf2,tf3⟩:=tkb OK.out HB.out HP.out hg hbox hb;clear HB hb hbox hg c1 c5 c6 c7 c8;have HB:=n0_;have HP2:=n1_;clear n0_ n1_))
   obtain ⟨w3,hw3,n0_,n1_,n2_,sx0,sx1,sx2,sx3⟩:=tk3 HB.out GT.out BT.out HP2.out GT2.out
   rw [← hw3]
   clear HB BT HP2 hw3 tz0 tz1 tz2 tz3 tf0 tf1 tf2 tf3
   have HB:=n0_;have BT:=n1_;have HP2:=n2_
   clear n0_ n1_ n2_
   have CA:=mkA (advance_walk HP2.out HTK.out)
   go_wp2_with (first
    | (go_at_call 100;(with_reducible refine CA.out.mono ?_);rintro e w4 ⟨hF,hP,te,x,rfl⟩;replace HB:=mkA (HB.out.trans hF);have HQ:=mkA hP;clear hF hP))
   go_ret2
   exact ⟨HB.out,HQ.out,_,te,x,rfl⟩
 | cons u r =>
   rw [show one (nd 15 e0 e0 e0 1 []) (t :: u :: r)=.ok (nd 15 e0 e0 e0 1 [],u :: r) by unfold one;rw [adv_cons HTK.out];rfl]
   go_enter Tryz.func84,Tryz.ntmps84
   go_upto_region 2 with (first
    | ((with_reducible refine gate_dst (N:=6) rfl ?_);refine bxz ?hr ?_;(case hr=>first | (go_simp;done) | (go_simp;rfl));intro gt hg w2 hbox hb;obtain ⟨n0_,GT,GT2,n1_,BT,NP,tz0,tz1,tz2,tz3,tf0,tf1,tf2,tf3⟩:=tkb OK.out HB.out HP.out hg hbox hb;clear HB hb hbox hg c1 c5 c6 c7 c8;have HB:=n0_;have HP2:=n1_;clear n0_ n1_))
   obtain ⟨w3,hw3,n0_,n1_,n2_,sx0,sx1,sx2,sx3⟩:=tk3 HB.out GT.out BT.out HP2.out GT2.out
   rw [← hw3]
   clear HB BT HP2 hw3 tz0 tz1 tz2 tz3 tf0 tf1 tf2 tf3
   have HB:=n0_;have BT:=n1_;have HP2:=n2_
   clear n0_ n1_ n2_
   have CA:=mkA (advance_walk HP2.out HTK.out)
   go_wp2_with (first
    | (go_at_call 100;(with_reducible refine CA.out.mono ?_);rintro e w4 ⟨hF,hP,rfl⟩;replace HB:=mkA (HB.out.trans hF);have HQ:=mkA hP;have BT4:=mkA (hF.blk BT.out NP.out.1 NP.out.2);clear hF hP;have sy1:w4.cell? ⟨gt,1,none⟩=some (.int .i64 t.a):=(blk_cell BT4.out 1).trans rfl;have sy3:w4.cell? ⟨gt,3,none⟩=some (.string t.v):=(blk_cell BT4.out 3).trans rfl)
    | (go_at_call 59;(with_reducible refine (loc_ps HQ.out _).mono ?_);rintro e wl ⟨⟨gl,rfl,hgl⟩,hBl⟩;have HL:=mkA hgl;have HBl:=mkA hBl;clear hgl hBl)
    | (go_at_call 112;(with_reducible refine (newBool (B:=wl.heap.size) (heap_alloc_new wl _) (Nat.le_refl _) (below_alloc (Below.refl wl.heap.size wl) _).size).mono ?_);rintro e w9 ⟨⟨g9,k9,rfl,q1,h91⟩,q4⟩;have HX:=mkA ((below_alloc (Below.refl wl.heap.size wl) _).trans q4);have HW:=mkA (below_step HBl.out HX.out);have H90:=mkA (Nat.le_trans (Nat.le_trans HB.out.size HBl.out.size) q1);have H91:=mkA h91;clear q1 q4 h91))
   go_ret2
   have KX:=keeps_below (ok:=from_ w4.heap.size) (ok':=from_ w.heap.size) HX.out (fun g hg=>Nat.le_trans HB.out.size hg)
   exact ⟨HB.out.step HW.out,_,u,r,rfl,HQ.out.below HW.out,⟨1,ValS.boo (b:=true) (X:=ValA (from_ w.heap.size) _ 0) ⟨H90.out,H91.out⟩ (HL.out.fr KX)⟩,rfl⟩
theorem val_false {C:Cx} {w:World} {t:Tk} {r:List Tk} {c:Bool} (h:PS C w t r) (q0:(t.k == 10)=false) (q1:(t.k == 12)=false) (q2:(t.k == 16)=false) (q3:(t.k == 17)=false) (q4:(t.k == 19)=false) (q5:(t.k == 18)=false) (q6:(t.k == 15)=true) (hn1:t.v≠bTrue) (hn2:t.v=bFalse) (hn3:t.v≠bNull):Calls Tryz.prog 84 #[ptr C.gp,.bool c] w (Got C w (one (nd 15 e0 e0 e0 0 []) (t :: r)) ValE):=by
 have HP:=mkA h
 have OK:=mkA h.ok
 have LOW:=mkA h.lo
 have HB:=mkA (Fr.refl C.gp C.gc w)
 obtain ⟨c1,c5,c6,c7,c8⟩:=h.cells
 have HTK:=mkA (show t.k≠1 from by intro e;rw [e] at q6;exact absurd q6 (by decide))
 clear h
 obtain ⟨x1,y1⟩:=word_no (l:=[116,114,117,101]) hn1;obtain ⟨x2,y2⟩:=word_yes (l:=[102,97,108,115,101]) hn2;obtain ⟨x3,y3⟩:=word_no (l:=[110,117,108,108]) hn3;clear hn1 hn2 hn3
 cases r with
 | nil =>
   rw [show one (nd 15 e0 e0 e0 0 []) [t]=.bad by unfold one;rw [adv_nil HTK.out];rfl]
   go_enter Tryz.func84,Tryz.ntmps84
   go_upto_region 2 with (first
    | ((with_reducible refine gate_dst (N:=6) rfl ?_);refine bxz ?hr ?_;(case hr=>first | (go_simp;done) | (go_simp;rfl));intro gt hg w2 hbox hb;obtain ⟨n0_,GT,GT2,n1_,BT,NP,tz0,tz1,tz2,tz3,tf0,tf1,tf2,tf3⟩:=tkb OK.out HB.out HP.out hg hbox hb;clear HB hb hbox hg c1 c5 c6 c7 c8;have HB:=n0_;have HP2:=n1_;clear n0_ n1_))
   obtain ⟨w3,hw3,n0_,n1_,n2_,sx0,sx1,sx2,sx3⟩:=tk3 HB.out GT.out BT.out HP2.out GT2.out
   rw [← hw3]
   clear HB BT HP2 hw3 tz0 tz1 tz2 tz3 tf0 tf1 tf2 tf3
   have HB:=n0_;have BT:=n1_;have HP2:=n2_
   clear n0_ n1_ n2_
   have CA:=mkA (advance_walk HP2.out HTK.out)
   go_wp2_with (first
    | (go_at_call 100;(with_reducible refine CA.out.mono ?_);rintro e w4 ⟨hF,hP,te,x,rfl⟩;replace HB:=mkA (HB.out.trans hF);have HQ:=mkA hP;clear hF hP))
   go_ret2
   exact ⟨HB.out,HQ.out,_,te,x,rfl⟩
 | cons u r =>
   rw [show one (nd 15 e0 e0 e0 0 []) (t :: u :: r)=.ok (nd 15 e0 e0 e0 0 [],u :: r) by unfold one;rw [adv_cons HTK.out];rfl]
   go_enter Tryz.func84,Tryz.ntmps84
   go_upto_region 2 with (first
    | ((with_reducible refine gate_dst (N:=6) rfl ?_);refine bxz ?hr ?_;(case hr=>first | (go_simp;done) | (go_simp;rfl));intro gt hg w2 hbox hb;obtain ⟨n0_,GT,GT2,n1_,BT,NP,tz0,tz1,tz2,tz3,tf0,tf1,tf2,tf3⟩:=tkb OK.out HB.out HP.out hg hbox hb;clear HB hb hbox hg c1 c5 c6 c7 c8;have HB:=n0_;have HP2:=n1_;clear n0_ n1_))
   obtain ⟨w3,hw3,n0_,n1_,n2_,sx0,sx1,sx2,sx3⟩:=tk3 HB.out GT.out BT.out HP2.out GT2.out
   rw [← hw3]
   clear HB BT HP2 hw3 tz0 tz1 tz2 tz3 tf0 tf1 tf2 tf3
   have HB:=n0_;have BT:=n1_;have HP2:=n2_
   clear n0_ n1_ n2_
   have CA:=mkA (advance_walk HP2.out HTK.out)
   go_wp2_with (first
    | (go_at_call 100;(with_reducible refine CA.out.mono ?_);rintro e w4 ⟨hF,hP,rfl⟩;replace HB:=mkA (HB.out.trans hF);have HQ:=mkA hP;have BT4:=mkA (hF.blk BT.out NP.out.1 NP.out.2);clear hF hP;have sy1:w4.cell? ⟨gt,1,none⟩=some (.int .i64 t.a):=(blk_cell BT4.out 1).trans rfl;have sy3:w4.cell? ⟨gt,3,none⟩=some (.string t.v):=(blk_cell BT4.out 3).trans rfl)
    | (go_at_call 59;(with_reducible refine (loc_ps HQ.out _).mono ?_);rintro e wl ⟨⟨gl,rfl,hgl⟩,hBl⟩;have HL:=mkA hgl;have HBl:=mkA hBl;clear hgl hBl)
    | (go_at_call 112;(with_reducible refine (newBool (B:=wl.heap.size) (heap_alloc_new wl _) (Nat.le_refl _) (below_alloc (Below.refl wl.heap.size wl) _).size).mono ?_);rintro e w9 ⟨⟨g9,k9,rfl,q1,h91⟩,q4⟩;have HX:=mkA ((below_alloc (Below.refl wl.heap.size wl) _).trans q4);have HW:=mkA (below_step HBl.out HX.out);have H90:=mkA (Nat.le_trans (Nat.le_trans HB.out.size HBl.out.size) q1);have H91:=mkA h91;clear q1 q4 h91))
   go_ret2
   have KX:=keeps_below (ok:=from_ w4.heap.size) (ok':=from_ w.heap.size) HX.out (fun g hg=>Nat.le_trans HB.out.size hg)
   exact ⟨HB.out.step HW.out,_,u,r,rfl,HQ.out.below HW.out,⟨1,ValS.boo (b:=false) (X:=ValA (from_ w.heap.size) _ 0) ⟨H90.out,H91.out⟩ (HL.out.fr KX)⟩,rfl⟩
theorem val_null {C:Cx} {w:World} {t:Tk} {r:List Tk} {c:Bool} (h:PS C w t r) (q0:(t.k == 10)=false) (q1:(t.k == 12)=false) (q2:(t.k == 16)=false) (q3:(t.k == 17)=false) (q4:(t.k == 19)=false) (q5:(t.k == 18)=false) (q6:(t.k == 15)=true) (hn1:t.v≠bTrue) (hn2:t.v≠bFalse) (hn3:t.v=bNull):Calls Tryz.prog 84 #[ptr C.gp,.bool c] w (Got C w ((.bad:O (List Row × List Tk))) ValE):=by
 have HP:=mkA h
 have OK:=mkA h.ok
 have LOW:=mkA h.lo
 have HB:=mkA (Fr.refl C.gp C.gc w)
 obtain ⟨c1,c5,c6,c7,c8⟩:=h.cells
 clear h
 obtain ⟨x1,y1⟩:=word_no (l:=[116,114,117,101]) hn1;obtain ⟨x2,y2⟩:=word_no (l:=[102,97,108,115,101]) hn2;obtain ⟨x3,y3⟩:=word_yes (l:=[110,117,108,108]) hn3;clear hn1 hn2 hn3
 go_enter Tryz.func84,Tryz.ntmps84
 go_upto_region 2 with (first
  | ((with_reducible refine gate_dst (N:=6) rfl ?_);refine bxz ?hr ?_;(case hr=>first | (go_simp;done) | (go_simp;rfl));intro gt hg w2 hbox hb;obtain ⟨n0_,GT,GT2,n1_,BT,NP,tz0,tz1,tz2,tz3,tf0,tf1,tf2,tf3⟩:=tkb OK.out HB.out HP.out hg hbox hb;clear HB hb hbox hg c1 c5 c6 c7 c8;have HB:=n0_;have HP2:=n1_;clear n0_ n1_))
 obtain ⟨w3,hw3,n0_,n1_,n2_,sx0,sx1,sx2,sx3⟩:=tk3 HB.out GT.out BT.out HP2.out GT2.out
 rw [← hw3]
 clear HB BT HP2 hw3 tz0 tz1 tz2 tz3 tf0 tf1 tf2 tf3
 have HB:=n0_;have BT:=n1_;have HP2:=n2_
 clear n0_ n1_ n2_
 go_wp2_with (first
  | (go_at_call 114;(with_reducible refine (unexp_walk HP2.out).mono ?_);rintro e w4 ⟨⟨te,x,rfl⟩,hB⟩;have HB4:=mkA hB;clear hB))
 go_ret2
 exact ⟨HB.out.step HB4.out,(HP2.out.below HB4.out).pb,_,te,x,rfl⟩
theorem val_none {C:Cx} {w:World} {t:Tk} {r:List Tk} {c:Bool} (h:PS C w t r) (q0:(t.k == 10)=false) (q1:(t.k == 12)=false) (q2:(t.k == 16)=false) (q3:(t.k == 17)=false) (q4:(t.k == 19)=false) (q5:(t.k == 18)=false) (q6:(t.k == 15)=false) (q7:(t.k == 3)=false):Calls Tryz.prog 84 #[ptr C.gp,.bool c] w (Got C w ((.bad:O (List Row × List Tk))) ValE):=by
 have HP:=mkA h
 have OK:=mkA h.ok
 have LOW:=mkA h.lo
 have HB:=mkA (Fr.refl C.gp C.gc w)
 obtain ⟨c1,c5,c6,c7,c8⟩:=h.cells
 clear h
 go_enter Tryz.func84,Tryz.ntmps84
 go_upto_region 2 with (first
  | ((with_reducible refine gate_dst (N:=6) rfl ?_);refine bxz ?hr ?_;(case hr=>first | (go_simp;done) | (go_simp;rfl));intro gt hg w2 hbox hb;obtain ⟨n0_,GT,GT2,n1_,BT,NP,tz0,tz1,tz2,tz3,tf0,tf1,tf2,tf3⟩:=tkb OK.out HB.out HP.out hg hbox hb;clear HB hb hbox hg c1 c5 c6 c7 c8;have HB:=n0_;have HP2:=n1_;clear n0_ n1_))
 obtain ⟨w3,hw3,n0_,n1_,n2_,sx0,sx1,sx2,sx3⟩:=tk3 HB.out GT.out BT.out HP2.out GT2.out
 rw [← hw3]
 clear HB BT HP2 hw3 tz0 tz1 tz2 tz3 tf0 tf1 tf2 tf3
 have HB:=n0_;have BT:=n1_;have HP2:=n2_
 clear n0_ n1_ n2_
 go_wp2_with (first
  | (go_at_call 114;(with_reducible refine (unexp_walk HP2.out).mono ?_);rintro e w4 ⟨⟨te,x,rfl⟩,hB⟩;have HB4:=mkA hB;clear hB))
 go_ret2
 exact ⟨HB.out.step HB4.out,(HP2.out.below HB4.out).pb,_,te,x,rfl⟩
theorem val_const {C:Cx} {w:World} {t:Tk} {r:List Tk} {c:Bool} (h:PS C w t r) (q0:(t.k == 10)=false) (q1:(t.k == 12)=false) (q2:(t.k == 16)=false) (q3:(t.k == 17)=false) (q4:(t.k == 19)=false) (q5:(t.k == 18)=false) (q6:(t.k == 15)=false) (q7:(t.k == 3)=true) (hc:c=true):Calls Tryz.prog 84 #[ptr C.gp,.bool c] w (Got C w ((.bad:O (List Row × List Tk))) ValE):=by
 have HP:=mkA h
 have OK:=mkA h.ok
 have LOW:=mkA h.lo
 have HB:=mkA (Fr.refl C.gp C.gc w)
 obtain ⟨c1,c5,c6,c7,c8⟩:=h.cells
 clear h
 subst hc
 go_enter Tryz.func84,Tryz.ntmps84
 go_upto_region 2 with (first
  | ((with_reducible refine gate_dst (N:=6) rfl ?_);refine bxz ?hr ?_;(case hr=>first | (go_simp;done) | (go_simp;rfl));intro gt hg w2 hbox hb;obtain ⟨n0_,GT,GT2,n1_,BT,NP,tz0,tz1,tz2,tz3,tf0,tf1,tf2,tf3⟩:=tkb OK.out HB.out HP.out hg hbox hb;clear HB hb hbox hg c1 c5 c6 c7 c8;have HB:=n0_;have HP2:=n1_;clear n0_ n1_))
 obtain ⟨w3,hw3,n0_,n1_,n2_,sx0,sx1,sx2,sx3⟩:=tk3 HB.out GT.out BT.out HP2.out GT2.out
 rw [← hw3]
 clear HB BT HP2 hw3 tz0 tz1 tz2 tz3 tf0 tf1 tf2 tf3
 have HB:=n0_;have BT:=n1_;have HP2:=n2_
 clear n0_ n1_ n2_
 go_wp2_with (first
  | (go_at_call 114;(with_reducible refine (unexp_walk HP2.out).mono ?_);rintro e w4 ⟨⟨te,x,rfl⟩,hB⟩;have HB4:=mkA hB;clear hB))
 go_ret2
 exact ⟨HB.out.step HB4.out,(HP2.out.below HB4.out).pb,_,te,x,rfl⟩
theorem val_var {C:Cx} {w:World} {t:Tk} {r:List Tk} {c:Bool} (h:PS C w t r) (q0:(t.k == 10)=false) (q1:(t.k == 12)=false) (q2:(t.k == 16)=false) (q3:(t.k == 17)=false) (q4:(t.k == 19)=false) (q5:(t.k == 18)=false) (q6:(t.k == 15)=false) (q7:(t.k == 3)=true) (hc:c=false):Calls Tryz.prog 84 #[ptr C.gp,.bool c] w (Got C w ((pVar (t :: r)).bind fun n=>.ok (nd 11 n.1 e0 e0 0 [],n.2)) ValE):=by
 have HP:=mkA h
 have OK:=mkA h.ok
 have LOW:=mkA h.lo
 have HB:=mkA (Fr.refl C.gp C.gc w)
 obtain ⟨c1,c5,c6,c7,c8⟩:=h.cells
 clear h
 subst hc
 have hpv:((must 3 (t :: r)).bind fun r=>(pName r).bind fun n=>O.ok (n.1,n.2))=pVar (t :: r):=by
  unfold pVar
  cases must 3 (t :: r) with
  | out=>rfl
  | bad=>rfl
  | ok l=>show (pName l).bind _=pName l;cases pName l <;> rfl
 have HPV:=mkA hpv
 clear hpv
 cases e_:pVar (t :: r) with
 | out=>exact absurd e_ (pVar_ne _)
 | bad =>
   simp only [O.bind_bad]
   have E0:=mkA e_
   clear e_
   go_enter Tryz.func84,Tryz.ntmps84
   go_upto_region 2 with (first
    | ((with_reducible refine gate_dst (N:=6) rfl ?_);refine bxz ?hr ?_;(case hr=>first | (go_simp;done) | (go_simp;rfl));intro gt hg w2 hbox hb;obtain ⟨n0_,GT,GT2,n1_,BT,NP,tz0,tz1,tz2,tz3,tf0,tf1,tf2,tf3⟩:=tkb OK.out HB.out HP.out hg hbox hb;clear HB hb hbox hg c1 c5 c6 c7 c8;have HB:=n0_;have HP2:=n1_;clear n0_ n1_))
   obtain ⟨w3,hw3,n0_,n1_,n2_,sx0,sx1,sx2,sx3⟩:=tk3 HB.out GT.out BT.out HP2.out GT2.out
   rw [← hw3]
   clear HB BT HP2 hw3 tz0 tz1 tz2 tz3 tf0 tf1 tf2 tf3
   have HB:=n0_;have BT:=n1_;have HP2:=n2_
   clear n0_ n1_ n2_
   go_wp2_with (first
    | (go_at_call 82;have c_:=parseVariable_walk HP2.out (by rw [HPV.out,E0.out];exact fun e=>by cases e);rw [HPV.out,E0.out] at c_;(with_reducible refine c_.mono ?_);rintro e w4 ⟨hF,hP,v_,te,x,rfl⟩;have HB4:=mkA (HB.out.trans hF);have HP4:=mkA hP;clear hF hP))
   go_ret2
   exact ⟨HB4.out,HP4.out,_,te,x,rfl⟩
 | ok a_ =>
   obtain ⟨n_,l_⟩:=a_
   simp only [O.bind_ok]
   have E0:=mkA e_
   clear e_
   go_enter Tryz.func84,Tryz.ntmps84
   go_upto_region 2 with (first
    | ((with_reducible refine gate_dst (N:=6) rfl ?_);refine bxz ?hr ?_;(case hr=>first | (go_simp;done) | (go_simp;rfl));intro gt hg w2 hbox hb;obtain ⟨n0_,GT,GT2,n1_,BT,NP,tz0,tz1,tz2,tz3,tf0,tf1,tf2,tf3⟩:=tkb OK.out HB.out HP.out hg hbox hb;clear HB hb hbox hg c1 c5 c6 c7 c8;have HB:=n0_;have HP2:=n1_;clear n0_ n1_))
   obtain ⟨w3,hw3,n0_,n1_,n2_,sx0,sx1,sx2,sx3⟩:=tk3 HB.out GT.out BT.out HP2.out GT2.out
   rw [← hw3]
   clear HB BT HP2 hw3 tz0 tz1 tz2 tz3 tf0 tf1 tf2 tf3
   have HB:=n0_;have BT:=n1_;have HP2:=n2_
   clear n0_ n1_ n2_
   go_wp2_with (first
    | (go_at_call 82;have c_:=parseVariable_walk HP2.out (by rw [HPV.out,E0.out];exact fun e=>by cases e);rw [HPV.out,E0.out] at c_;(with_reducible refine c_.mono ?_);rintro e w4 ⟨hF,v4,u4,r4,hl_,hP,hN,rfl⟩;subst hl_;obtain ⟨g4,k4,l4,n4,rfl,q1,q2,q3⟩:=hN;have HN4:=mkA (And.intro q1 (And.intro q2 q3));have HB4:=mkA (HB.out.trans hF);have HP4:=mkA hP;clear hF hP q1 q2 q3))
   go_ret2
   have hk:Keeps (from_ w3.heap.size) (from_ w.heap.size) w4 w4:=keeps_weak HB.out.size
   exact ⟨HB4.out,_,u4,r4,rfl,HP4.out,⟨1,ValS.var (X:=ValA (from_ w.heap.size) _ 0) (HN4.out.1.fr hk) (HN4.out.2.1.fr hk) (HN4.out.2.2.fr hk)⟩,rfl⟩
theorem pval_list {f:Nat} {c:Bool} {t:Tk} {r:List Tk} (h:t.k=10):pVal (f+1) c (t :: r)=(rev false (pVal f c) 10 11 f (t :: r)).bind fun x=>.ok (nd 17 e0 e0 e0 0 x.1,x.2):=by
 rw [rev_false,must_yes h]
 show (if hk (t :: r)=10 then _ else _)=_
 rw [if_pos (by exact h)]
 cases adv (t :: r) <;> rfl
theorem pval_obj {f:Nat} {c:Bool} {t:Tk} {r:List Tk} (h:t.k=12):pVal (f+1) c (t :: r)=(rev false (pNV 19 (pVal f c)) 12 14 f (t :: r)).bind fun x=>.ok (nd 18 e0 e0 e0 0 x.1,x.2):=by
 rw [rev_false,must_yes h]
 show (if hk (t :: r)=10 then _ else if hk (t :: r)=12 then _ else _)=_
 rw [if_neg (by show ¬ t.k=10;omega),if_pos (by exact h)]
 cases adv (t :: r) <;> rfl
theorem bind_ne {α β:Type} {x:O α} {g:α→O β} (h:x.bind g≠.out):x≠.out:=fun e=>h (by rw [e];rfl)
theorem kb {t:Tk} {k:Int} (h:t.k=k):(t.k == k)=true:=beq_iff_eq.2 h
theorem kn {t:Tk} {k:Int} (h:t.k≠k):(t.k == k)=false:=beq_eq_false_iff_ne.2 h
theorem val_step {C:Cx} {f:Nat} {c:Bool} (hV:ValSpec C f c) (hf:f≤1000000):ValSpec C (f+1) c:=by
 intro w t r h hne
 by_cases k10:t.k=10
 ·rw [pval_list k10] at hne ⊢
  exact val_10 h (kb k10) hV hf (bind_ne hne)
 by_cases k12:t.k=12
 ·rw [pval_obj k12] at hne ⊢
  exact val_12 h (kn k10) (kb k12) hV hf (bind_ne hne)
 have e3:pVal (f+1) c (t :: r)=(if t.k=16 then one (nd 12 e0 e0 t.v 0 []) (t :: r)
  else if t.k=17 then one (nd 13 e0 e0 t.v 0 []) (t :: r)
  else if t.k=18∨t.k=19 then one (nd 14 e0 e0 t.v 0 []) (t :: r)
  else if t.k=15 then (if t.v=bTrue then one (nd 15 e0 e0 e0 1 []) (t :: r) else if t.v=bFalse then one (nd 15 e0 e0 e0 0 []) (t :: r) else if t.v=bNull then .bad else one (nd 16 t.v e0 e0 0 []) (t :: r))
  else if t.k=3∧c=false then (pVar (t :: r)).bind fun n=>.ok (nd 11 n.1 e0 e0 0 [],n.2)
  else .bad):=by
  show (if hk (t :: r)=10 then _ else if hk (t :: r)=12 then _ else _)=_
  rw [if_neg (by exact k10),if_neg (by exact k12)]
  rfl
 rw [e3] at hne ⊢
 clear e3
 by_cases k16:t.k=16
 ·rw [if_pos k16]
  exact val_16 h (kn k10) (kn k12) (kb k16)
 by_cases k17:t.k=17
 ·rw [if_neg k16,if_pos k17]
  exact val_17 h (kn k10) (kn k12) (kn k16) (kb k17)
 by_cases k19:t.k=19
 ·rw [if_neg k16,if_neg k17,if_pos (.inr k19)]
  exact val_19 h (kn k10) (kn k12) (kn k16) (kn k17) (kb k19)
 by_cases k18:t.k=18
 ·rw [if_neg k16,if_neg k17,if_pos (.inl k18)]
  exact val_18 h (kn k10) (kn k12) (kn k16) (kn k17) (kn k19) (kb k18)
 rw [if_neg k16,if_neg k17,if_neg (by omega)]
 by_cases k15:t.k=15
 ·rw [if_pos k15]
  by_cases h1:t.v=bTrue
  ·rw [if_pos h1]
   exact val_true h (kn k10) (kn k12) (kn k16) (kn k17) (kn k19) (kn k18) (kb k15) h1 (by rw [h1];decide) (by rw [h1];decide)
  by_cases h2:t.v=bFalse
  ·rw [if_neg h1,if_pos h2]
   exact val_false h (kn k10) (kn k12) (kn k16) (kn k17) (kn k19) (kn k18) (kb k15) h1 h2 (by rw [h2];decide)
  by_cases h3:t.v=bNull
  ·rw [if_neg h1,if_neg h2,if_pos h3]
   exact val_null h (kn k10) (kn k12) (kn k16) (kn k17) (kn k19) (kn k18) (kb k15) h1 h2 h3
  ·rw [if_neg h1,if_neg h2,if_neg h3]
   exact val_enum h (kn k10) (kn k12) (kn k16) (kn k17) (kn k19) (kn k18) (kb k15) h1 h2 h3
 rw [if_neg k15]
 by_cases k3:t.k=3
 ·cases c with
  | false =>
    rw [if_pos ⟨k3,rfl⟩]
    exact val_var h (kn k10) (kn k12) (kn k16) (kn k17) (kn k19) (kn k18) (kn k15) (kb k3) rfl
  | true =>
    rw [if_neg (fun e=>by cases e.2)]
    exact val_const h (kn k10) (kn k12) (kn k16) (kn k17) (kn k19) (kn k18) (kn k15) (kb k3) rfl
 ·rw [if_neg (fun e=>k3 e.1)]
  exact val_none h (kn k10) (kn k12) (kn k16) (kn k17) (kn k19) (kn k18) (kn k15) (kn k3)
theorem val_spec {C:Cx} {c:Bool}:∀ f,f≤1000000→ValSpec C f c:=by
 intro f
 induction f with
 | zero=>intro _ w t r h hne;exact absurd rfl hne
 | succ f ih=>intro hf;exact val_step (ih (by omega)) (by omega)
theorem O.bind_assoc {α β γ:Type} (x:O α) (f:α→O β) (g:β→O γ):(x.bind f).bind g=x.bind fun a=>(f a).bind g:=by cases x <;> rfl
theorem no_out {α β:Type} {RES:O β} {res:O α} {k:α→O β} (HR:Aside0 (RES=res.bind k)) (HN:Aside0 (RES≠.out)):res≠.out:=fun e=>HN.out (by rw [HR.out,e];rfl)
theorem got_cases {A β:Type} {C:Cx} {w wi w':World} {res:O (A × List Tk)} {P:Ok→World→A→Value→Prop} {e:Ending} {RES:O β} {k:A × List Tk→O β} (hG:Got C wi res P e w') (tr:∀ {ok ok':Ok} {w w':World} {a:A} {p:Value},P ok w a p→Keeps ok ok' w w'→P ok' w' a p) (OK:Aside0 C.Ok) (LO:Aside0 (C.lo≤w.heap.size)) (HB:Aside0 (FrC C w wi)) (HR:Aside0 (RES=res.bind k)) (HN:Aside0 (RES≠.out)) :
 (∃ (v:Value) (te:TypeId) (x:Value),RES=.bad∧e=.returned (.tuple #[v,.iface te x])∧Aside0 (PB C w')∧Aside0 (FrC C w w'))∨∃ (a:A) (u:Tk) (r:List Tk) (p:Value),e=.returned (.tuple #[p,.nilIface])∧Aside0 (RES=k (a,u :: r))∧Aside0 (PS C w' u r)∧Aside0 (FrC C w w')∧Aside0 (Keeps (from_ w.heap.size) (from_ w.heap.size) wi w')∧Aside0 (P (from_ w.heap.size) w' a p):=by
 obtain ⟨hF,hG⟩:=hG
 have hr:=HR.out
 cases res with
 | out=>exact absurd hr HN.out
 | bad=>obtain ⟨hP,v,te,x,rfl⟩:=hG;exact .inl ⟨v,te,x,hr,rfl,⟨hP⟩,⟨HB.out.trans hF⟩⟩
 | ok y =>
   obtain ⟨a,l⟩:=y
   obtain ⟨p,u,r,rfl,hP,hp,rfl⟩:=hG
   exact .inr ⟨a,u,r,p,rfl,⟨hr⟩,⟨hP⟩,⟨HB.out.trans hF⟩,⟨PS.keeps OK.out hF LO.out (Nat.le_refl _)⟩,⟨tr hp (keeps_weak HB.out.size)⟩⟩
def E3 (C:Cx) (w:World) (res:O (List Tk)) (fb:TypeId→Value→Value) (vo:Value) (e:Ending) (w':World):Prop:=FrC C w w'∧(res=.out∨(res=.bad∧PB C w'∧∃ (te:TypeId) (x:Value),e=.returned (fb te x))∨∃ (u:Tk) (r':List Tk),res=.ok (u :: r')∧PS C w' u r'∧e=.returned vo)
theorem exp_cases {β:Type} {C:Cx} {w wi w':World} {res:O (List Tk)} {e:Ending} {RES:O β} {k:List Tk→O β} {fb:TypeId→Value→Value} {vo:Value} (hG:E3 C wi res fb vo e w') (OK:Aside0 C.Ok) (LO:Aside0 (C.lo≤w.heap.size)) (HB:Aside0 (FrC C w wi)) (HR:Aside0 (RES=res.bind k)) (HN:Aside0 (RES≠.out)) :
 (∃ (te:TypeId) (x:Value),RES=.bad∧e=.returned (fb te x)∧Aside0 (PB C w')∧Aside0 (FrC C w w'))∨∃ (u:Tk) (r:List Tk),e=.returned vo∧Aside0 (RES=k (u :: r))∧Aside0 (PS C w' u r)∧Aside0 (FrC C w w')∧Aside0 (Keeps (from_ w.heap.size) (from_ w.heap.size) wi w'):=by
 obtain ⟨hF,rfl | ⟨rfl,hP,te,x,rfl⟩ | ⟨u,r,rfl,hP,rfl⟩⟩:=hG
 ·exact absurd HR.out HN.out
 ·exact .inl ⟨te,x,HR.out,rfl,⟨hP⟩,⟨HB.out.trans hF⟩⟩
 ·exact .inr ⟨u,r,rfl,⟨HR.out⟩,⟨hP⟩,⟨HB.out.trans hF⟩,⟨PS.keeps OK.out hF LO.out (Nat.le_refl _)⟩⟩
theorem ExpP.e3 {C:Cx} {w w':World} {res:O (List Tk)} {t:Tk} {e:Ending} (h:ExpP C w res t e w'):E3 C w res (fun te x=>.tuple #[tokV t,.iface te x]) (.tuple #[tokV t,.nilIface]) e w':=by
 obtain ⟨hF,hG⟩:=h
 refine ⟨hF,?_⟩
 cases res with
 | out=>exact .inl rfl
 | bad=>exact .inr (.inl ⟨rfl,hG⟩)
 | ok l=>obtain ⟨u,r',rfl,hG⟩:=hG;exact .inr (.inr ⟨u,r',rfl,hG⟩)
theorem new_facts {C:Cx} {w wi wl w9:World} {o:Obj} {g9:Nat} (HB:Aside0 (FrC C w wi)) (hBl:Below wi.heap.size wi wl) (q4:Below wl.heap.size (wl.alloc o) w9) (q1:wl.heap.size≤g9):Aside0 (w.heap.size≤g9)∧Aside0 (Below wi.heap.size wi w9)∧Aside0 (Keeps (from_ wi.heap.size) (from_ w.heap.size) wl w9)∧Aside0 (Keeps (from_ w.heap.size) (from_ w.heap.size) wi w9) :=
 have hx:=(below_alloc (Below.refl wl.heap.size wl) o).trans q4
 have hw:=below_step hBl hx
 ⟨⟨Nat.le_trans (Nat.le_trans HB.out.size hBl.size) q1⟩,⟨hw⟩,⟨keeps_below hx (fun g hg=>Nat.le_trans HB.out.size hg)⟩,⟨keeps_below hw (fun g hg=>hg)⟩⟩
def SkpP (C:Cx) (w:World) (res:O (List Tk)) (e:Ending) (w':World):Prop :=
 FrC C w w'∧match res with
 | .out=>True
 | .bad=>PB C w'∧∃ (te:TypeId) (x:Value),e=.returned (.tuple #[.bool true,.iface te x])
 | .ok l=>∃ (u:Tk) (r':List Tk),l=u :: r'∧PS C w' u r'∧e=.returned (.tuple #[.bool true,.nilIface])
theorem skip_adv {C:Cx} {w:World} {t:Tk} {r:List Tk} (h:PS C w t r) (k:Int) (hk:R.hk (t :: r)=k) (h1:k≠1):Calls Tryz.prog 80 #[ptr C.gp,.int .i64 k] w (SkpP C w (adv (t :: r))):=by
 have hk':t.k=k:=hk
 have ht:t.k≠1:=by rw [hk'];exact h1
 refine (skip_yes h k (kb hk') ht).mono ?_
 rintro e w' ⟨hF,hq⟩
 cases r with
 | nil=>rw [adv_nil ht];exact ⟨hF,hq⟩
 | cons u r=>rw [adv_cons ht];exact ⟨hF,u,r,rfl,hq.1,hq.2⟩
theorem skip_no' {C:Cx} {w:World} {t:Tk} {r:List Tk} (h:PS C w t r) (k:Int) (hk:¬ R.hk (t :: r)=k):Calls Tryz.prog 80 #[ptr C.gp,.int .i64 k] w fun e w'=>e=.returned (.tuple #[.bool false,.nilIface])∧w=w':=skip_no h k (kn hk)
theorem hkb {t:Tk} {r:List Tk} {k:Int} (h:R.hk (t :: r)=k):(t.k == k)=true:=kb h
theorem hkn {t:Tk} {r:List Tk} {k:Int} (h:¬ R.hk (t :: r)=k):(t.k == k)=false:=kn h
theorem SkpP.e3 {C:Cx} {w w':World} {res:O (List Tk)} {e:Ending} (h:SkpP C w res e w'):E3 C w res (fun te x=>.tuple #[.bool true,.iface te x]) (.tuple #[.bool true,.nilIface]) e w':=by
 obtain ⟨hF,hG⟩:=h
 refine ⟨hF,?_⟩
 cases res with
 | out=>exact .inl rfl
 | bad=>exact .inr (.inl ⟨rfl,hG⟩)
 | ok l=>obtain ⟨u,r',rfl,hG⟩:=hG;exact .inr (.inr ⟨u,r',rfl,hG⟩)
theorem NamedA.ptr {ok:Ok} {w:World} {p:Value} {v:ByteArray} (h:NamedA ok w p v):∃ g,p=R.ptr g:=by obtain ⟨g,_,_,_,h,_⟩:=h;exact ⟨g,h⟩
theorem some1_rev (it:List Tk→O (List Row × List Tk)) (op cl:Int) (f:Nat) (l:List Tk):some1 it op cl f l=rev true it op cl f l:=by
 unfold some1 rev;congr;funext r;simp
end Go.Proofs.YthgcghpcikbnkaaGreatDoor.R
