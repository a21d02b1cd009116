/- A part of the proof of the theorem of this claim: Ssp, Ssl. No condition of its own. -/
import Derived.Test.YthgcghpcikbnkaaGreatDoorC36
set_option maxHeartbeats 16000000
set_option maxRecDepth 100000
namespace Go.Proofs.YthgcghpcikbnkaaGreatDoor.R
open Go.RowKit Go.Proofs.YthgcghpcikbnkaaGreatDoorW.PrintWords Go.Proofs.YthgcghpcikbnkaaGreatDoorW.PrintLast Go.Proofs.YthgcghpcikbnkaaGreatDoorW.PrintMore
set_option linter.unusedVariables false
set_option linter.unusedSimpArgs false
def spreadF (L:List Tk) (f:Nat) (setS:St→Option RS) (s1:St):Option RS :=
 if kd L s1=15∧isOn L s1=false then (dirsF L f f (nameF L s1).2).bind fun y=>some (nd 7 (nameF L s1).1 e0 e0 0 y.1,y.2)
 else (dirsF L f f (condF L (textF L s1)).2).bind fun y=>(setS y.2).bind fun z=>some (nd 8 e0 e0 (condF L (textF L s1)).1 0 (y.1++z.1),z.2)
theorem spread_name {C:SC} {f:Nat} (hf:f≤1000000) (hf1:1≤f) {w:World} {s:St} {r:List Row} {s':St} (h:SP C w s) (hk:kd C.L s=15) (ho:isOn C.L s=false) (H:((dirsF C.L f f (nameF C.L s).2).bind fun y=>some (nd 7 (nameF C.L s).1 e0 e0 0 y.1,y.2))=some (r,s')) (hr:r.length≤900000):Calls Tryz.prog 77 #[ptr C.gp] w (RN C w r s'):=by
 obtain ⟨y,hy,hy2⟩:=Option.bind_eq_some_iff.1 H
 obtain ⟨y1,s2⟩:=y
 simp only [Option.some.injEq,Prod.mk.injEq] at hy2
 obtain ⟨hr1,rfl⟩:=hy2
 have HE:=mkA (show nd 7 (nameF C.L s).1 e0 e0 0 [y1].flatten=r by rw [← hr1];simp)
 have HYL:=mkA (show y1.length≤900000 by rw [← hr1,nd_len] at hr;omega)
 have HY:=mkA hy
 have DW:=mkA (fun {w:World} {s:St} {r:List Row} {s':St} (h:SP C w s) (H:dirsF C.L f f s=some (r,s')) hr=>sdirs_walk hf hf1 hf h H hr)
 have KK:=mkA (show Calls Tryz.prog 36 #[ptr C.gp,.int .i64 0] w (Rv C w (.int .i64 15) s) by have c:=kind_walk h;rw [hk] at c;exact c)
 have HO:=mkA ho
 have HPc:=mkA h
 have HFc:=mkA (Fr.refl C.gp C.gp w)
 have GP:=mkA h.gp
 clear h H hr hr1 hy hf hf1 hk ho
 go_enter Tryz.func77,Tryz.ntmps77
 go_wp2_with (first
  | (go_at_call 36;have c_:=KK.out;(with_reducible refine c_.mono ?_);rintro e w_ ⟨rfl,hP,hF⟩;replace HPc:=mkA hP;replace HFc:=mkA (HFc.out.trans hF);clear hP hF)
  | (go_at_call 96;have c_:=word_walk HPc.out;rw [HO.out] at c_;(with_reducible refine c_.mono ?_);rintro e w_ ⟨rfl,hP,hF⟩;replace HPc:=mkA hP;replace HFc:=mkA (HFc.out.trans hF);clear hP hF)
  | (go_at_call 40;have c_:=name_walk HPc.out;(with_reducible refine c_.mono ?_);rintro e w_ ⟨rfl,hP,hF⟩;replace HPc:=mkA hP;replace HFc:=mkA (HFc.out.trans hF);clear hP hF)
  | (go_at_call 21;have c_:=DW.out HPc.out HY.out HYL.out;(with_reducible refine c_.mono ?_);rintro e w_ ⟨v_,rfl,hN,hP,hF⟩;obtain ⟨ANY,cNY,rfl⟩:=hN.shape;have HX_:=mkA HFc.out.size;replace HPc:=mkA hP;replace HFc:=mkA (HFc.out.trans hF);have NY:=mkA (NdA.weak hN (fun g h=>Nat.le_trans HX_.out h));clear hN hP hF)
  | (go_at_call 38;(with_reducible refine (made_walk (kids_new (n:=1) (.cons NY.out .nil) rfl) (by have:=HYL.out;simp;omega) (by simp)).mono ?_);rintro e w_ ⟨v_,rfl,hN,hB⟩;rw [HE.out] at hN;have hA_:=below_step (below_alloc (Below.refl _ _) _) hB;obtain ⟨AN1,cN1,rfl⟩:=hN.shape;have HX_:=mkA HFc.out.size;replace HPc:=mkA (HPc.out.below hA_);replace HFc:=mkA (HFc.out.step hA_);have N1:=mkA (NdA.weak hN (fun g h=>Nat.le_trans (Nat.le_trans HX_.out (by rw [World.size_alloc];exact Nat.le_succ _)) h));clear hN hB hA_))
 go_ret
 exact ⟨_,rfl,N1.out,HPc.out,HFc.out⟩
theorem spread_plain {C:SC} {f:Nat} {setS:St→Option RS} (hs:RecW C 19 #[ptr C.gp] setS) (hf:f≤1000000) (hf1:1≤f) {w:World} {s:St} {r:List Row} {s':St} (h:SP C w s) (hk:kd C.L s≠15) (H:((dirsF C.L f f (textF C.L s)).bind fun y=>(setS y.2).bind fun z=>some (nd 8 e0 e0 e0 0 (y.1++z.1),z.2))=some (r,s')) (hr:r.length≤900000):Calls Tryz.prog 77 #[ptr C.gp] w (RN C w r s'):=by
 obtain ⟨y,hy,hy2⟩:=Option.bind_eq_some_iff.1 H
 obtain ⟨z,hz,hz2⟩:=Option.bind_eq_some_iff.1 hy2
 obtain ⟨y1,s2⟩:=y
 obtain ⟨z1,s3⟩:=z
 simp only [Option.some.injEq,Prod.mk.injEq] at hz2
 obtain ⟨hr1,rfl⟩:=hz2
 have HE:=mkA (show nd 8 ⟨#[]⟩ ⟨#[]⟩ ⟨#[]⟩ 0 [y1,z1].flatten=r by rw [← hr1];simp)
 have HYL:=mkA (show y1.length≤900000∧z1.length≤900000∧y1.length+z1.length≤900000 by rw [← hr1,nd_len,List.length_append] at hr;omega)
 have HY:=mkA hy
 have HZ:=mkA (show setS s2=some (z1,s3) from hz)
 have SW:=mkA @hs
 have DW:=mkA (fun {w:World} {s:St} {r:List Row} {s':St} (h:SP C w s) (H:dirsF C.L f f s=some (r,s')) hr=>sdirs_walk hf hf1 hf h H hr)
 have p1:=(bnne hk).2
 have KK:=mkA (kind_walk h)
 have HO:=mkA (show isOn C.L (textF C.L s)=false from decide_eq_false (fun h=>hk h.1))
 have HPc:=mkA h
 have HFc:=mkA (Fr.refl C.gp C.gp w)
 have GP:=mkA h.gp
 clear h H hr hr1 hy hy2 hz hf hf1 hk hs
 go_enter Tryz.func77,Tryz.ntmps77
 go_upto_region 4 with (first
  | (go_at_call 36;have c_:=KK.out;(with_reducible refine c_.mono ?_);rintro e w_ ⟨rfl,hP,hF⟩;replace HPc:=mkA hP;replace HFc:=mkA (HFc.out.trans hF);clear hP hF))
 have hA_:=below_alloc (Below.refl w_.heap.size w_) (.cells #[.int .i64 8,.string ⟨#[]⟩,.string ⟨#[]⟩,.string ⟨#[]⟩,.int .i64 0,.int .i64 0] 55)
 replace HPc:=mkA (HPc.out.below hA_)
 replace HFc:=mkA (HFc.out.step hA_)
 have n4_:=mkA (heap_alloc_new w_ (.cells #[.int .i64 8,.string ⟨#[]⟩,.string ⟨#[]⟩,.string ⟨#[]⟩,.int .i64 0,.int .i64 0] 55))
 clear hA_
 generalize w_.heap.size=gb at n4_ ⊢
 generalize World.alloc _ _=w_ at HPc HFc n4_ ⊢
 have BX:=n4_
 clear n4_
 have NGB:=mkA (show gb≠C.gp from by obtain ⟨wr,hc⟩:=HPc.out.cell;exact blk_ne BX.out hc (by decide))
 go_upto_region 8 with (first
  | (go_at_call 97;have c_:=text_step HPc.out;(with_reducible refine c_.mono ?_);rintro e w_ ⟨rfl,hP,hF⟩;replace HPc:=mkA hP;replace HFc:=mkA (HFc.out.trans hF);replace BX:=mkA (hF.blk BX.out NGB.out NGB.out);clear hP hF)
  | (go_at_call 96;have c_:=word_walk HPc.out;rw [HO.out] at c_;(with_reducible refine c_.mono ?_);rintro e w_ ⟨rfl,hP,hF⟩;replace HPc:=mkA hP;replace HFc:=mkA (HFc.out.trans hF);replace BX:=mkA (hF.blk BX.out NGB.out NGB.out);clear hP hF))
 have SK:∀ u:World,u.heap[gb]?=some (.cells #[.int .i64 8,.string ⟨#[]⟩,.string ⟨#[]⟩,.string ⟨#[]⟩,.int .i64 0,.int .i64 0] 55 (0,0))→(u.cell? ⟨gb,0,none⟩=some (.int .i64 8)∧u.cell? ⟨gb,1,none⟩=some (.string ⟨#[]⟩)∧u.cell? ⟨gb,2,none⟩=some (.string ⟨#[]⟩)∧u.cell? ⟨gb,3,none⟩=some (.string ⟨#[]⟩)∧u.cell? ⟨gb,4,none⟩=some (.int .i64 0)∧u.cell? ⟨gb,5,none⟩=some (.int .i64 0)):=fun u hu=>⟨(blk_cell hu 0).trans rfl,(blk_cell hu 1).trans rfl,(blk_cell hu 2).trans rfl,(blk_cell hu 3).trans rfl,(blk_cell hu 4).trans rfl,(blk_cell hu 5).trans rfl⟩
 have HBA:=mkA HFc.out.size
 have hS0:=SK w_ BX.out
 go_region_held3 (fun u=>u.cell? ⟨gb,0,none⟩=some (.int .i64 8)∧u.cell? ⟨gb,1,none⟩=some (.string ⟨#[]⟩)∧u.cell? ⟨gb,2,none⟩=some (.string ⟨#[]⟩)∧u.cell? ⟨gb,3,none⟩=some (.string ⟨#[]⟩)∧u.cell? ⟨gb,4,none⟩=some (.int .i64 0)∧u.cell? ⟨gb,5,none⟩=some (.int .i64 0)) (first | exact hS8 | exact hS7 | exact hS6 | exact hS5 | exact hS0 | fail) (first | (go_at_call 21;(first | refine (DW.out (HPc.out.below (below_drew1 (Below.refl _ _))) HY.out HYL.out.1).mono ?_ | refine (DW.out HPc.out HY.out HYL.out.1).mono ?_);rintro e w5 ⟨v_,rfl,hN,hP,hF⟩;obtain ⟨AN1,cN1,rfl⟩:=hN.shape;have bx5:=mkA (hF.blk BX.out NGB.out NGB.out);have hS5:=SK w5 bx5.out;have N1:=mkA (NdA.weak (ok':=from_ w.heap.size) hN (fun g h=>Nat.le_trans HFc.out.size h));have P5:=mkA hP;have F5:=mkA (show Fr C.gp C.gp w_ w5 from by first | exact ((Fr.refl C.gp C.gp w_).drew).trans hF | exact hF);clear hN hP hF) | (go_at_call 19;refine (SW.out P5.out HZ.out HYL.out.2.1).mono ?_;rintro e w6 ⟨v_,rfl,hN,hP,hF⟩;obtain ⟨AN2,cN2,rfl⟩:=hN.shape;have bx6:=mkA (hF.blk bx5.out NGB.out NGB.out);have hS6:=SK w6 bx6.out;have bx7:=mkA (blk_below bx6.out (below_alloc (Below.refl _ _) (.cells #[.slice AN1 y1.length cN1,.slice AN2 z1.length cN2] 25)));have hS7:=SK _ bx7.out;have NA:=mkA (NdA.fr N1.out (hF.keeps GP.out GP.out (Nat.le_refl _)));have N2:=mkA (NdA.weak (ok':=from_ w.heap.size) hN (fun g h=>Nat.le_trans (HFc.out.trans F5.out).size h));have P6:=mkA hP;have F6:=mkA (F5.out.trans hF);clear hN hP hF) | (go_at_call 38;refine (made_walk (kids_new (n:=2) (w:=w6) (.cons NA.out (.cons N2.out .nil)) rfl) (by have:=HYL.out.2.2;simp;omega) (by simp)).mono ?_;rintro e w7 ⟨v_,rfl,hN,hB⟩;rw [HE.out] at hN;obtain ⟨AN3,cN3,rfl⟩:=hN.shape;have B7:=mkA (below_step (below_alloc (Below.refl w6.heap.size w6) _) hB);have bx8:=mkA (blk_below bx6.out B7.out);have hS8:=SK w7 bx8.out;have N3:=mkA hN;have P7:=mkA (P6.out.below B7.out);have F7:=mkA ((HFc.out.trans F6.out).step B7.out);clear hN hB) | fail)
 all_goals (try go_wp2)
 go_ret
 exact ⟨_,rfl,NdA.weak N3.out (fun g h=>Nat.le_trans (Nat.le_trans (HFc.out.trans F6.out).size (by rw [World.size_alloc];exact Nat.le_succ _)) h),P7.out,F7.out⟩
theorem sp_box {C:SC} {w:World} {s:St} (h:SP C w s) {g:Nat} {cs:Array Value} (hb:w.heap[g]?=some (.cells cs 55 (0,0))) (j:Nat) (v:Value):SP C (w.setCell ⟨g,j,none⟩ v) s :=
 ⟨h.cell.imp fun _ x=>blk_far x (blk_ne x hb (by decide)) v,own_typ h.own (fun g' cs' x=>blk_far x (blk_ne x hb (by decide)) v),h.le,h.big⟩
theorem box6 {w:World} {g:Nat} {a b c d e f:Value} (h:w.heap[g]?=some (.cells #[a,b,c,d,e,f] 55 (0,0))):w.cell? ⟨g,0,none⟩=some a∧w.cell? ⟨g,1,none⟩=some b∧w.cell? ⟨g,2,none⟩=some c∧w.cell? ⟨g,3,none⟩=some d∧w.cell? ⟨g,4,none⟩=some e∧w.cell? ⟨g,5,none⟩=some f:=⟨(blk_cell h 0).trans rfl,(blk_cell h 1).trans rfl,(blk_cell h 2).trans rfl,(blk_cell h 3).trans rfl,(blk_cell h 4).trans rfl,(blk_cell h 5).trans rfl⟩
theorem spread_on {C:SC} {f:Nat} {setS:St→Option RS} (hs:RecW C 19 #[ptr C.gp] setS) (hf:f≤1000000) (hf1:1≤f) {w:World} {s:St} {r:List Row} {s':St} (h:SP C w s) (hk:kd C.L s=15) (ho:isOn C.L s=true) (H:((dirsF C.L f f (nameF C.L (textF C.L s).nx).2).bind fun y=>(setS y.2).bind fun z=>some (nd 8 e0 e0 (nameF C.L (textF C.L s).nx).1 0 (y.1++z.1),z.2))=some (r,s')) (hr:r.length≤900000):Calls Tryz.prog 77 #[ptr C.gp] w (RN C w r s'):=by
 generalize ht:(nameF C.L (textF C.L s).nx)=qn at H
 obtain ⟨tx,s1⟩:=qn
 have HQN:=mkA ht
 obtain ⟨y,hy,hy2⟩:=Option.bind_eq_some_iff.1 H
 obtain ⟨z,hz,hz2⟩:=Option.bind_eq_some_iff.1 hy2
 obtain ⟨y1,s2⟩:=y
 obtain ⟨z1,s3⟩:=z
 simp only [Option.some.injEq,Prod.mk.injEq] at hz2
 obtain ⟨hr1,rfl⟩:=hz2
 have HE:=mkA (show nd 8 ⟨#[]⟩ ⟨#[]⟩ tx 0 [y1,z1].flatten=r by rw [← hr1];simp)
 have HYL:=mkA (show y1.length≤900000∧z1.length≤900000∧y1.length+z1.length≤900000 by rw [← hr1,nd_len,List.length_append] at hr;omega)
 have HY:=mkA (show dirsF C.L f f s1=some (y1,s2) from hy)
 have HZ:=mkA (show setS s2=some (z1,s3) from hz)
 have SW:=mkA @hs
 have DW:=mkA (fun {w:World} {s:St} {r:List Row} {s':St} (h:SP C w s) (H:dirsF C.L f f s=some (r,s')) hr=>sdirs_walk hf hf1 hf h H hr)
 have KK:=mkA (show Calls Tryz.prog 36 #[ptr C.gp,.int .i64 0] w (Rv C w (.int .i64 15) s) by have c:=kind_walk h;rw [hk] at c;exact c)
 have HO:=mkA ho
 have HO2:=mkA (show isOn C.L (textF C.L s)=true from ho)
 have HL:=mkA (show (textF C.L s).a < C.L.length from kd_lt (s:=s) (by rw [hk];decide))
 have HPc:=mkA h
 have HFc:=mkA (Fr.refl C.gp C.gp w)
 have GP:=mkA h.gp
 clear h H hr hr1 hy hy2 hz hf hf1 hk hs ho ht
 go_enter Tryz.func77,Tryz.ntmps77
 go_upto_region 4 with (first
  | (go_at_call 36;have c_:=KK.out;(with_reducible refine c_.mono ?_);rintro e w_ ⟨rfl,hP,hF⟩;replace HPc:=mkA hP;replace HFc:=mkA (HFc.out.trans hF);clear hP hF)
  | (go_at_call 96;have c_:=word_walk HPc.out;rw [HO.out] at c_;(with_reducible refine c_.mono ?_);rintro e w_ ⟨rfl,hP,hF⟩;replace HPc:=mkA hP;replace HFc:=mkA (HFc.out.trans hF);clear hP hF))
 have hA_:=below_alloc (Below.refl w_.heap.size w_) (.cells #[.int .i64 8,.string ⟨#[]⟩,.string ⟨#[]⟩,.string ⟨#[]⟩,.int .i64 0,.int .i64 0] 55)
 have n1_:=mkA (HPc.out.below hA_)
 have n2_:=mkA (HFc.out.step hA_)
 have n4_:=mkA (heap_alloc_new w_ (.cells #[.int .i64 8,.string ⟨#[]⟩,.string ⟨#[]⟩,.string ⟨#[]⟩,.int .i64 0,.int .i64 0] 55))
 have n5_:=mkA (HFc.out.size)
 clear hA_
 generalize w_.heap.size=gb at n4_ n5_ ⊢
 generalize World.alloc _ _=w_ at n1_ n2_ n4_ ⊢
 clear HPc HFc
 have HPc:=n1_
 have HFc:=n2_
 have BX:=n4_
 have HGB:=n5_
 clear n1_ n2_ n4_ n5_
 have NGB:=mkA (show gb≠C.gp from by obtain ⟨wr,hc⟩:=HPc.out.cell;exact blk_ne BX.out hc (by decide))
 go_upto_region 6 with (first
  | (go_at_call 97;have c_:=text_step HPc.out;(with_reducible refine c_.mono ?_);rintro e w_ ⟨rfl,hP,hF⟩;replace HPc:=mkA hP;replace HFc:=mkA (HFc.out.trans hF);replace BX:=mkA (hF.blk BX.out NGB.out NGB.out);clear hP hF)
  | (go_at_call 96;have c_:=word_walk HPc.out;rw [HO2.out] at c_;(with_reducible refine c_.mono ?_);rintro e w_ ⟨rfl,hP,hF⟩;replace HPc:=mkA hP;replace HFc:=mkA (HFc.out.trans hF);replace BX:=mkA (hF.blk BX.out NGB.out NGB.out);clear hP hF))
 have c1:=HPc.out.c1.1
 have f1:=HPc.out.c1.2
 go_upto_region 7 with (fail)
 have hu:=sp_at HPc.out HL.out
 replace HPc:=mkA hu.1
 replace HFc:=mkA (HFc.out.trans hu.2)
 replace BX:=mkA (hu.2.blk BX.out NGB.out NGB.out)
 generalize World.setCell _ _ _=w_ at HPc HFc BX ⊢
 clear hu c1 f1
 go_upto_region 8 with (first
  | (go_at_call 40;have c_:=name_walk HPc.out;rw [HQN.out] at c_;(with_reducible refine c_.mono ?_);rintro e w_ ⟨rfl,hP,hF⟩;replace HPc:=mkA hP;replace HFc:=mkA (HFc.out.trans hF);replace BX:=mkA (hF.blk BX.out NGB.out NGB.out);clear hP hF;have f3:=blk_frozen BX.out 3;have b3:=(box6 BX.out).2.2.2.1))
 replace HPc:=mkA (sp_box HPc.out BX.out 3 (.string tx))
 replace HFc:=mkA (HFc.out.put (p:=⟨gb,3,none⟩) (.inr (.inr HGB.out)) (.string tx))
 replace BX:=mkA (show (w_.setCell ⟨gb,3,none⟩ (.string tx)).heap[gb]?=some (.cells #[.int .i64 8,.string ⟨#[]⟩,.string ⟨#[]⟩,.string tx,.int .i64 0,.int .i64 0] 55 (0,0)) from blk_put (cs:=#[.int .i64 8,.string ⟨#[]⟩,.string ⟨#[]⟩,.string ⟨#[]⟩,.int .i64 0,.int .i64 0]) BX.out 3 _ rfl)
 generalize World.setCell _ _ _=w_ at HPc HFc BX ⊢
 clear f3 b3
 have SK:∀ u:World,u.heap[gb]?=some (.cells #[.int .i64 8,.string ⟨#[]⟩,.string ⟨#[]⟩,.string tx,.int .i64 0,.int .i64 0] 55 (0,0))→(u.cell? ⟨gb,0,none⟩=some (.int .i64 8)∧u.cell? ⟨gb,1,none⟩=some (.string ⟨#[]⟩)∧u.cell? ⟨gb,2,none⟩=some (.string ⟨#[]⟩)∧u.cell? ⟨gb,3,none⟩=some (.string tx)∧u.cell? ⟨gb,4,none⟩=some (.int .i64 0)∧u.cell? ⟨gb,5,none⟩=some (.int .i64 0)):=fun u hu=>⟨(blk_cell hu 0).trans rfl,(blk_cell hu 1).trans rfl,(blk_cell hu 2).trans rfl,(blk_cell hu 3).trans rfl,(blk_cell hu 4).trans rfl,(blk_cell hu 5).trans rfl⟩
 have HBA:=mkA HFc.out.size
 have hS0:=SK w_ BX.out
 go_region_held3 (fun u=>u.cell? ⟨gb,0,none⟩=some (.int .i64 8)∧u.cell? ⟨gb,1,none⟩=some (.string ⟨#[]⟩)∧u.cell? ⟨gb,2,none⟩=some (.string ⟨#[]⟩)∧u.cell? ⟨gb,3,none⟩=some (.string tx)∧u.cell? ⟨gb,4,none⟩=some (.int .i64 0)∧u.cell? ⟨gb,5,none⟩=some (.int .i64 0)) (first | exact hS8 | exact hS7 | exact hS6 | exact hS5 | exact hS0 | fail) (first | (go_at_call 21;(first | refine (DW.out (HPc.out.below (below_drew1 (Below.refl _ _))) HY.out HYL.out.1).mono ?_ | refine (DW.out HPc.out HY.out HYL.out.1).mono ?_);rintro e w5 ⟨v_,rfl,hN,hP,hF⟩;obtain ⟨AN1,cN1,rfl⟩:=hN.shape;have bx5:=mkA (hF.blk BX.out NGB.out NGB.out);have hS5:=SK w5 bx5.out;have N1:=mkA (NdA.weak (ok':=from_ w.heap.size) hN (fun g h=>Nat.le_trans HFc.out.size h));have P5:=mkA hP;have F5:=mkA (show Fr C.gp C.gp w_ w5 from by first | exact ((Fr.refl C.gp C.gp w_).drew).trans hF | exact hF);clear hN hP hF) | (go_at_call 19;refine (SW.out P5.out HZ.out HYL.out.2.1).mono ?_;rintro e w6 ⟨v_,rfl,hN,hP,hF⟩;obtain ⟨AN2,cN2,rfl⟩:=hN.shape;have bx6:=mkA (hF.blk bx5.out NGB.out NGB.out);have hS6:=SK w6 bx6.out;have bx7:=mkA (blk_below bx6.out (below_alloc (Below.refl _ _) (.cells #[.slice AN1 y1.length cN1,.slice AN2 z1.length cN2] 25)));have hS7:=SK _ bx7.out;have NA:=mkA (NdA.fr N1.out (hF.keeps GP.out GP.out (Nat.le_refl _)));have N2:=mkA (NdA.weak (ok':=from_ w.heap.size) hN (fun g h=>Nat.le_trans (HFc.out.trans F5.out).size h));have P6:=mkA hP;have F6:=mkA (F5.out.trans hF);clear hN hP hF) | (go_at_call 38;refine (made_walk (kids_new (n:=2) (w:=w6) (.cons NA.out (.cons N2.out .nil)) rfl) (by have:=HYL.out.2.2;simp;omega) (by simp)).mono ?_;rintro e w7 ⟨v_,rfl,hN,hB⟩;rw [HE.out] at hN;obtain ⟨AN3,cN3,rfl⟩:=hN.shape;have B7:=mkA (below_step (below_alloc (Below.refl w6.heap.size w6) _) hB);have bx8:=mkA (blk_below bx6.out B7.out);have hS8:=SK w7 bx8.out;have N3:=mkA hN;have P7:=mkA (P6.out.below B7.out);have F7:=mkA ((HFc.out.trans F6.out).step B7.out);clear hN hB) | fail)
 all_goals (try go_wp2)
 go_ret
 exact ⟨_,rfl,NdA.weak N3.out (fun g h=>Nat.le_trans (Nat.le_trans (HFc.out.trans F6.out).size (by rw [World.size_alloc];exact Nat.le_succ _)) h),P7.out,F7.out⟩
theorem spread_walk {C:SC} {f:Nat} {setS:St→Option RS} (hs:RecW C 19 #[ptr C.gp] setS) (hf:f≤1000000) (hf1:1≤f) {w:World} {s:St} {r:List Row} {s':St} (h:SP C w s) (H:spreadF C.L f setS s=some (r,s')) (hr:r.length≤900000):Calls Tryz.prog 77 #[ptr C.gp] w (RN C w r s'):=by
 unfold spreadF at H
 by_cases hk:kd C.L s=15
 ·cases ho:isOn C.L s with
  | false=>rw [if_pos ⟨hk,ho⟩] at H;exact spread_name hf hf1 h hk ho H hr
  | true =>
    rw [if_neg (by rw [ho];exact fun h=>by cases h.2),show condF C.L (textF C.L s)=nameF C.L (textF C.L s).nx from if_pos ho] at H
    exact spread_on hs hf hf1 h hk ho H hr
 ·have e:isOn C.L (textF C.L s)=false:=decide_eq_false (fun h=>hk h.1)
  rw [if_neg (fun h=>hk h.1),show condF C.L (textF C.L s)=(e0,textF C.L s) from if_neg (by rw [e];exact fun h=>by cases h)] at H
  exact spread_plain hs hf hf1 h hk H hr
theorem sel_field {C:SC} {f:Nat} {sel:St→Option RS} (hs:RecW C 19 #[ptr C.gp] (setF C.L sel f)) (hf:f≤1000000) (hf1:1≤f) {w:World} {s:St} {r:List Row} {s':St} (h:SP C w s) (ht:takenF C.L 6 s=(false,s)) (H:((argsF C.L f (aliasF C.L s).2).bind fun a=>(dirsF C.L f f a.2).bind fun d=>(subF C.L sel f d.2).bind fun z=>some (nd 6 (aliasF C.L s).1.1 (aliasF C.L s).1.2 e0 0 (a.1++d.1++z.1),z.2))=some (r,s')) (hr:r.length≤900000):Calls Tryz.prog 44 #[ptr C.gp] w (RN C w r s'):=by
 rcases hal:aliasF C.L s with ⟨⟨nm,al⟩,sA⟩
 rw [hal] at H
 obtain ⟨a,ha,ha2⟩:=Option.bind_eq_some_iff.1 H
 obtain ⟨d,hd,hd2⟩:=Option.bind_eq_some_iff.1 ha2
 obtain ⟨z,hz,hz2⟩:=Option.bind_eq_some_iff.1 hd2
 obtain ⟨a1,sB⟩:=a
 obtain ⟨d1,sC⟩:=d
 obtain ⟨z1,sD⟩:=z
 simp only [Option.some.injEq,Prod.mk.injEq] at hz2
 obtain ⟨hr1,rfl⟩:=hz2
 have HE:=mkA (show nd 6 nm al ⟨#[]⟩ 0 [a1,d1,z1].flatten=r by rw [← hr1];simp)
 have HYL:=mkA (show a1.length≤900000∧d1.length≤900000∧z1.length≤900000∧a1.length+d1.length+z1.length≤900000 by rw [← hr1,nd_len,List.length_append,List.length_append] at hr;omega)
 have HA:=mkA (show argsF C.L f sA=some (a1,sB) from ha)
 have HD:=mkA (show dirsF C.L f f sB=some (d1,sC) from hd)
 have HZ:=mkA (show subF C.L sel f sC=some (z1,sD) from hz)
 have SW:=mkA @hs
 have AW:=mkA (fun {w:World} {s:St} {r:List Row} {s':St} (h:SP C w s) (H:argsF C.L f s=some (r,s')) hr=>sargs_walk hf hf1 h H hr)
 have DW:=mkA (fun {w:World} {s:St} {r:List Row} {s':St} (h:SP C w s) (H:dirsF C.L f f s=some (r,s')) hr=>sdirs_walk hf hf1 hf h H hr)
 have HT:=mkA ht
 have HPc:=mkA h
 have HFc:=mkA (Fr.refl C.gp C.gp w)
 have GP:=mkA h.gp
 rcases hn:nameF C.L s with ⟨n1,s2⟩
 rcases h7:takenF C.L 7 s2 with ⟨b,s3⟩
 unfold aliasF at hal
 rw [hn] at hal
 simp only [h7] at hal
 have HQ:=mkA hn
 have H7:=mkA h7
 clear h H hr hr1 ha ha2 hd hd2 hz hf hf1 hs ht hn
 go_enter Tryz.func44,Tryz.ntmps44
 go_upto_region 4 with (first
  | (go_at_call 37;have c_:=taken_walk HPc.out 6 (by decide);rw [HT.out] at c_;(with_reducible refine c_.mono ?_);rintro e w_ ⟨rfl,hP,hF⟩;have n1_:=mkA hP;have n2_:=mkA (HFc.out.trans hF);clear HPc HFc;have HPc:=n1_;have HFc:=n2_;clear n1_ n2_;clear hP hF)
  | (go_at_call 40;have c_:=name_walk HPc.out;rw [HQ.out] at c_;(with_reducible refine c_.mono ?_);rintro e w_ ⟨rfl,hP,hF⟩;have n1_:=mkA hP;have n2_:=mkA (HFc.out.trans hF);clear HPc HFc;have HPc:=n1_;have HFc:=n2_;clear n1_ n2_;clear hP hF))
 have hA_:=below_alloc (Below.refl w_.heap.size w_) (.cells #[.int .i64 6,.string n1,.string ⟨#[]⟩,.string ⟨#[]⟩,.int .i64 0,.int .i64 0] 55)
 have n1_:=mkA (HPc.out.below hA_)
 have n2_:=mkA (HFc.out.step hA_)
 have n4_:=mkA (heap_alloc_new w_ (.cells #[.int .i64 6,.string n1,.string ⟨#[]⟩,.string ⟨#[]⟩,.int .i64 0,.int .i64 0] 55))
 have n5_:=mkA (HFc.out.size)
 clear hA_
 generalize w_.heap.size=gb at n4_ n5_ ⊢
 generalize World.alloc _ _=w_ at n1_ n2_ n4_ ⊢
 clear HPc HFc
 have HPc:=n1_
 have HFc:=n2_
 have BX:=n4_
 have HGB:=n5_
 clear n1_ n2_ n4_ n5_
 have NGB:=mkA (show gb≠C.gp from by obtain ⟨wr,hc⟩:=HPc.out.cell;exact blk_ne BX.out hc (by decide))
 cases b
 case' false =>
  obtain rfl:=taken_no h7
  simp only [Prod.mk.injEq] at hal
  obtain ⟨⟨rfl,rfl⟩,rfl⟩:=hal
  clear h7
  go_upto_region 6 with (first
   | (go_at_call 37;have c_:=taken_walk HPc.out 7 (by decide);rw [H7.out] at c_;(with_reducible refine c_.mono ?_);rintro e w_ ⟨rfl,hP,hF⟩;have n1_:=mkA hP;have n2_:=mkA (HFc.out.trans hF);have m_:=mkA (hF.blk BX.out NGB.out NGB.out);clear BX;have BX:=m_;clear m_;clear HPc HFc;have HPc:=n1_;have HFc:=n2_;clear n1_ n2_;clear hP hF))
 case' true =>
  clear h7
  rcases hn3:nameF C.L s3 with ⟨n3,s4⟩
  simp only [hn3,Prod.mk.injEq] at hal
  obtain ⟨⟨rfl,rfl⟩,rfl⟩:=hal
  have HQ3:=mkA hn3
  clear hn3
  go_upto_region 5 with (first
   | (go_at_call 37;have c_:=taken_walk HPc.out 7 (by decide);rw [H7.out] at c_;(with_reducible refine c_.mono ?_);rintro e w_ ⟨rfl,hP,hF⟩;have n1_:=mkA hP;have n2_:=mkA (HFc.out.trans hF);have m_:=mkA (hF.blk BX.out NGB.out NGB.out);clear BX;have BX:=m_;clear m_;clear HPc HFc;have HPc:=n1_;have HFc:=n2_;clear n1_ n2_;clear hP hF))
  have f1:=blk_frozen BX.out 1
  have f2:=blk_frozen BX.out 2
  have b1:=(box6 BX.out).2.1
  have b2:=(box6 BX.out).2.2.1
  go_region_law (first | (go_simp;go_at_call 40;have c_:=name_walk (show SP C w_.drew s3 from HPc.out.drewN 1);rw [HQ3.out] at c_;(with_reducible refine c_.mono ?_);rintro e w5 ⟨rfl,hP,hF⟩;replace HPc:=mkA hP;replace HFc:=mkA (HFc.out.drew.trans hF);replace BX:=mkA (hF.blk BX.out NGB.out NGB.out);clear hP hF;have f1:=blk_frozen BX.out 1;have f2:=blk_frozen BX.out 2;have b1:=(box6 BX.out).2.1;have b2:=(box6 BX.out).2.2.1) | fail)
  all_goals
   have BY:=mkA (show (w5.setCell ⟨gb,2,none⟩ (.string n1)).heap[gb]?=some (.cells #[.int .i64 6,.string n1,.string n1,.string ⟨#[]⟩,.int .i64 0,.int .i64 0] 55 (0,0)) from blk_put (cs:=#[.int .i64 6,.string n1,.string ⟨#[]⟩,.string ⟨#[]⟩,.int .i64 0,.int .i64 0]) BX.out 2 _ rfl)
   have n1_:=mkA (sp_box (sp_box HPc.out BX.out 2 (.string n1)) BY.out 1 (.string n3))
   have n2_:=mkA ((HFc.out.put (p:=⟨gb,2,none⟩) (.inr (.inr HGB.out)) (.string n1)).put (p:=⟨gb,1,none⟩) (.inr (.inr HGB.out)) (.string n3))
   have n3_:=mkA (show ((w5.setCell ⟨gb,2,none⟩ (.string n1)).setCell ⟨gb,1,none⟩ (.string n3)).heap[gb]?=some (.cells #[.int .i64 6,.string n3,.string n1,.string ⟨#[]⟩,.int .i64 0,.int .i64 0] 55 (0,0)) from blk_put (cs:=#[.int .i64 6,.string n1,.string n1,.string ⟨#[]⟩,.int .i64 0,.int .i64 0]) BY.out 1 _ rfl)
   generalize World.setCell (World.setCell _ _ _) _ _=w_ at n1_ n2_ n3_ ⊢
   clear HPc HFc BX BY f1 f2 b1 b2
   have HPc:=n1_
   have HFc:=n2_
   have BX:=n3_
   clear n1_ n2_ n3_
 all_goals
  obtain ⟨b0,b1,b2,b3,b4,b5⟩:=box6 BX.out
  clear b0 b1 b2 b3 b4 b5
  go_upto_region 8 with (first
   | (go_at_call 20;have c_:=AW.out HPc.out HA.out HYL.out.1;(with_reducible refine c_.mono ?_);rintro e w_ ⟨v_,rfl,hN,hP,hF⟩;obtain ⟨ANA,cNA,rfl⟩:=hN.shape;have HX_:=mkA HFc.out.size;have n1_:=mkA hP;have n2_:=mkA (HFc.out.trans hF);have m_:=mkA (hF.blk BX.out NGB.out NGB.out);clear BX;have BX:=m_;clear m_;clear HPc HFc;have HPc:=n1_;have HFc:=n2_;clear n1_ n2_;have NA:=mkA (NdA.weak hN (fun g h=>Nat.le_trans HX_.out h));clear hN hP hF)
   | (go_at_call 21;have c_:=DW.out HPc.out HD.out HYL.out.2.1;(with_reducible refine c_.mono ?_);rintro e w_ ⟨v_,rfl,hN,hP,hF⟩;obtain ⟨AND,cND,rfl⟩:=hN.shape;have HX_:=mkA HFc.out.size;have n1_:=mkA hP;have n2_:=mkA (HFc.out.trans hF);have m_:=mkA (hF.blk BX.out NGB.out NGB.out);clear BX;have BX:=m_;clear m_;have m_:=mkA (NdA.fr NA.out (hF.keeps GP.out GP.out (Nat.le_refl _)));clear NA;have NA:=m_;clear m_;clear HPc HFc;have HPc:=n1_;have HFc:=n2_;clear n1_ n2_;have ND:=mkA (NdA.weak hN (fun g h=>Nat.le_trans HX_.out h));clear hN hP hF))
  have c4:=HPc.out.c4
  have hz:=HZ.out
  unfold subF at hz
  have KW:=mkA (kind_q HPc.out)
  by_cases hb:sC.bad=true
  ·rw [hb] at c4
   rw [if_neg (by rw [hb];exact fun h=>by cases h.1)] at hz
   simp only [Option.some.injEq,Prod.mk.injEq] at hz
   obtain ⟨rfl,rfl⟩:=hz
   have NZ:=mkA (NdA.nil (from_ w.heap.size) w_)
   clear hb HZ KW
   go_upto_region 10 with (fail)
   have b_:=box6 BX.out
   obtain ⟨b0,b1,b2,b3,b4,b5⟩:=b_
   go_wp2_with (first
    | (go_at_call 38;(with_reducible refine (made_walk (kids_new (n:=3) (.cons NA.out (.cons ND.out (.cons NZ.out .nil))) rfl) (by have:=HYL.out.2.2.2;simp;omega) (by simp)).mono ?_);rintro e w_ ⟨v_,rfl,hN,hB⟩;rw [HE.out] at hN;have hA_:=below_step (below_alloc (Below.refl _ _) _) hB;obtain ⟨AN1,cN1,rfl⟩:=hN.shape;have HX_:=mkA HFc.out.size;have n1_:=mkA (HPc.out.below hA_);have n2_:=mkA (HFc.out.step hA_);clear HPc HFc;have HPc:=n1_;have HFc:=n2_;clear n1_ n2_;have N1:=mkA (NdA.weak hN (fun g h=>Nat.le_trans (Nat.le_trans HX_.out (by rw [World.size_alloc];exact Nat.le_succ _)) h));clear hN hB hA_))
   go_ret
   exact ⟨_,rfl,N1.out,HPc.out,HFc.out⟩
  have hb':sC.bad=false:=by cases e:sC.bad with | false=>rfl | true=>exact absurd e hb
  rw [hb'] at c4
  clear hb
  by_cases hk:kd C.L sC=12
  ·rw [if_pos ⟨hb',hk⟩] at hz
   have HZ2:=mkA hz
   have kk:=(bneq hk).2
   clear hz HZ hk hb'
   go_upto_region 9 with (first
    | (go_at_call 36;have c_:=kind_walk HPc.out;(with_reducible refine c_.mono ?_);rintro e w_ ⟨rfl,hP,hF⟩;have n1_:=mkA hP;have n2_:=mkA (HFc.out.trans hF);have m_:=mkA (hF.blk BX.out NGB.out NGB.out);clear BX;have BX:=m_;clear m_;have m_:=mkA (NdA.fr NA.out (hF.keeps GP.out GP.out (Nat.le_refl _)));clear NA;have NA:=m_;clear m_;have m_:=mkA (NdA.fr ND.out (hF.keeps GP.out GP.out (Nat.le_refl _)));clear ND;have ND:=m_;clear m_;clear HPc HFc;have HPc:=n1_;have HFc:=n2_;clear n1_ n2_;clear hP hF))
   go_upto_region 10 with (first
    | (go_at_call 19;have c_:=SW.out HPc.out HZ2.out HYL.out.2.2.1;(with_reducible refine c_.mono ?_);rintro e w_ ⟨v_,rfl,hN,hP,hF⟩;obtain ⟨ANZ,cNZ,rfl⟩:=hN.shape;have HX_:=mkA HFc.out.size;have n1_:=mkA hP;have n2_:=mkA (HFc.out.trans hF);have m_:=mkA (hF.blk BX.out NGB.out NGB.out);clear BX;have BX:=m_;clear m_;have m_:=mkA (NdA.fr NA.out (hF.keeps GP.out GP.out (Nat.le_refl _)));clear NA;have NA:=m_;clear m_;have m_:=mkA (NdA.fr ND.out (hF.keeps GP.out GP.out (Nat.le_refl _)));clear ND;have ND:=m_;clear m_;clear HPc HFc;have HPc:=n1_;have HFc:=n2_;clear n1_ n2_;have NZ:=mkA (NdA.weak hN (fun g h=>Nat.le_trans HX_.out h));clear hN hP hF))
   have b_:=box6 BX.out
   obtain ⟨b0,b1,b2,b3,b4,b5⟩:=b_
   go_wp2_with (first
    | (go_at_call 38;(with_reducible refine (made_walk (kids_new (n:=3) (.cons NA.out (.cons ND.out (.cons NZ.out .nil))) rfl) (by have:=HYL.out.2.2.2;simp;omega) (by simp)).mono ?_);rintro e w_ ⟨v_,rfl,hN,hB⟩;rw [HE.out] at hN;have hA_:=below_step (below_alloc (Below.refl _ _) _) hB;obtain ⟨AN1,cN1,rfl⟩:=hN.shape;have HX_:=mkA HFc.out.size;have n1_:=mkA (HPc.out.below hA_);have n2_:=mkA (HFc.out.step hA_);clear HPc HFc;have HPc:=n1_;have HFc:=n2_;clear n1_ n2_;have N1:=mkA (NdA.weak hN (fun g h=>Nat.le_trans (Nat.le_trans HX_.out (by rw [World.size_alloc];exact Nat.le_succ _)) h));clear hN hB hA_))
   go_ret
   exact ⟨_,rfl,N1.out,HPc.out,HFc.out⟩
  rw [if_neg (fun h=>hk h.2)] at hz
  simp only [Option.some.injEq,Prod.mk.injEq] at hz
  obtain ⟨rfl,rfl⟩:=hz
  have NZ:=mkA (NdA.nil (from_ w.heap.size) w_)
  have kk:=(bnne hk).2
  clear hk hb' HZ
  go_upto_region 10 with (first
   | (go_at_call 36;have c_:=kind_walk HPc.out;(with_reducible refine c_.mono ?_);rintro e w_ ⟨rfl,hP,hF⟩;have n1_:=mkA hP;have n2_:=mkA (HFc.out.trans hF);have m_:=mkA (hF.blk BX.out NGB.out NGB.out);clear BX;have BX:=m_;clear m_;have m_:=mkA (NdA.fr NA.out (hF.keeps GP.out GP.out (Nat.le_refl _)));clear NA;have NA:=m_;clear m_;have m_:=mkA (NdA.fr ND.out (hF.keeps GP.out GP.out (Nat.le_refl _)));clear ND;have ND:=m_;clear m_;have m_:=mkA (NdA.fr NZ.out (hF.keeps GP.out GP.out (Nat.le_refl _)));clear NZ;have NZ:=m_;clear m_;clear HPc HFc;have HPc:=n1_;have HFc:=n2_;clear n1_ n2_;clear hP hF))
  have b_:=box6 BX.out
  obtain ⟨b0,b1,b2,b3,b4,b5⟩:=b_
  go_wp2_with (first
   | (go_at_call 38;(with_reducible refine (made_walk (kids_new (n:=3) (.cons NA.out (.cons ND.out (.cons NZ.out .nil))) rfl) (by have:=HYL.out.2.2.2;simp;omega) (by simp)).mono ?_);rintro e w_ ⟨v_,rfl,hN,hB⟩;rw [HE.out] at hN;have hA_:=below_step (below_alloc (Below.refl _ _) _) hB;obtain ⟨AN1,cN1,rfl⟩:=hN.shape;have HX_:=mkA HFc.out.size;have n1_:=mkA (HPc.out.below hA_);have n2_:=mkA (HFc.out.step hA_);clear HPc HFc;have HPc:=n1_;have HFc:=n2_;clear n1_ n2_;have N1:=mkA (NdA.weak hN (fun g h=>Nat.le_trans (Nat.le_trans HX_.out (by rw [World.size_alloc];exact Nat.le_succ _)) h));clear hN hB hA_))
  go_ret
  exact ⟨_,rfl,N1.out,HPc.out,HFc.out⟩
theorem sel_spread {C:SC} {f:Nat} {setS:St→Option RS} (hs:RecW C 19 #[ptr C.gp] setS) (hf:f≤1000000) (hf1:1≤f) {w:World} {s s1:St} {r:List Row} {s':St} (h:SP C w s) (ht:takenF C.L 6 s=(true,s1)) (H:spreadF C.L f setS s1=some (r,s')) (hr:r.length≤900000):Calls Tryz.prog 44 #[ptr C.gp] w (RN C w r s'):=by
 have SW:=mkA (fun {w:World} (h:SP C w s1)=>spread_walk hs hf hf1 h H hr)
 have HT:=mkA ht
 have HPc:=mkA h
 have HFc:=mkA (Fr.refl C.gp C.gp w)
 clear hs hf hf1 h ht H hr
 go_enter Tryz.func44,Tryz.ntmps44
 go_wp2_with (first
  | (go_at_call 37;have c_:=taken_walk HPc.out 6 (by decide);rw [HT.out] at c_;(with_reducible refine c_.mono ?_);rintro e w_ ⟨rfl,hP,hF⟩;have n1_:=mkA hP;have n2_:=mkA (HFc.out.trans hF);clear HPc HFc;have HPc:=n1_;have HFc:=n2_;clear n1_ n2_;clear hP hF)
  | (go_at_call 77;have c_:=SW.out HPc.out;(with_reducible refine c_.mono ?_);rintro e w_ ⟨v_,rfl,hN,hP,hF⟩;obtain ⟨AN1,cN1,rfl⟩:=hN.shape;have HX_:=mkA HFc.out.size;have n1_:=mkA hP;have n2_:=mkA (HFc.out.trans hF);clear HPc HFc;have HPc:=n1_;have HFc:=n2_;clear n1_ n2_;have N1:=mkA (NdA.weak hN (fun g h=>Nat.le_trans HX_.out h));clear hN hP hF))
 go_ret
 exact ⟨_,rfl,N1.out,HPc.out,HFc.out⟩
theorem sel_rec {C:SC}:∀ f,f≤1000000→RecW C 44 #[ptr C.gp] (selF C.L f):=by
 intro f
 induction f with
 | zero=>intro _ w s r s' h H hr;cases H
 | succ f ih =>
   intro hf w s r s' h H hr
   unfold selF at H
   rcases Nat.eq_zero_or_pos f with rfl | hf1
   ·exfalso
    rcases e:takenF C.L 6 s with ⟨b,s1⟩
    rw [e] at H
    cases b with
    | false =>
      obtain ⟨a,_,h2⟩:=Option.bind_eq_some_iff.1 H
      exact absurd h2 (by simp [dirsF])
    | true =>
      revert H
      show (if _ then _ else _)=_→False
      split <;> simp [dirsF]
   have hS:RecW C 19 #[ptr C.gp] (setF C.L (selF C.L f) f):=fun h H hr=>sset_walk (ih (by omega)) hf1 (by omega) h H hr
   rcases e:takenF C.L 6 s with ⟨b,s1⟩
   rw [e] at H
   cases b with
   | false =>
     obtain rfl:=taken_no e
     exact sel_field hS (by omega) hf1 h e H hr
   | true=>exact sel_spread hS (by omega) hf1 h e H hr
end Go.Proofs.YthgcghpcikbnkaaGreatDoor.R
