/- A part of the proof of the theorem of this claim: Sdr, Sse. No condition of its own. -/
import Derived.Test.YthgcghpcikbnkaaGreatDoorC35
set_option maxHeartbeats 16000000
set_option maxRecDepth 100000
namespace Go.Proofs.YthgcghpcikbnkaaGreatDoor.R
open Go.RowKit Go.Proofs.YthgcghpcikbnkaaGreatDoorW.PrintWords Go.Proofs.YthgcghpcikbnkaaGreatDoorW.PrintLast Go.Proofs.YthgcghpcikbnkaaGreatDoorW.PrintMore
set_option linter.unusedVariables false
set_option linter.unusedSimpArgs false
theorem sdirs_walk {C:SC} {f n:Nat} (hf:f≤1000000) (hf1:1≤f) (hn:n≤1000000) {w:World} {s:St} {r:List Row} {s':St} (h:SP C w s) (H:dirsF C.L f n s=some (r,s')) (hr:r.length≤900000):Calls Tryz.prog 21 #[ptr C.gp,.bool false] w (RN C w r s'):=by
 have HPc:=mkA h
 have HFc:=mkA (Fr.refl C.gp C.gp w)
 have GP:=mkA h.gp
 have HR:=mkA hr
 have IH:=mkA (fun {w:World} {s:St} {r:List Row} {s':St} (h:SP C w s) (H:argsF C.L f s=some (r,s')) hr=>sargs_walk hf hf1 h H hr)
 have HH:=mkA H
 clear hr hf hf1 h H
 go_enter Tryz.func21,Tryz.ntmps21
 go_wp2
 go_loopg [5] n (fun gk_ v5 wr=>∃ (acc:List Row) (st:St) (rest:List Row),Aside0 (dirsF C.L f gk_ st=some (rest,s'))∧Aside0 (acc++rest=r)∧Aside0 (NdA (from_ w.heap.size) wr acc v5)∧Aside0 (SP C wr st)∧Aside0 (Fr C.gp C.gp w wr))
 case atStart=>exact ⟨[],s,r,HH,⟨rfl⟩,⟨NdA.nil _ _⟩,HPc,HFc⟩
 case round =>
  obtain ⟨acc,st,rest,HLo,HCat,NO,HPr,HFw⟩:=hrel
  clear HPc HFc HH
  have HPc:=HPr
  have HFc:=HFw
  clear HPr HFw
  have c4:=HPc.out.c4
  generalize hw_:wr=w_ at *
  clear hw_
  have hgk:∃ k1,gk=k1+1:=by
   cases gk with
   | zero=>cases HLo.out
   | succ k1=>exact ⟨k1,rfl⟩
  obtain ⟨k1,rfl⟩:=hgk
  have h0:=HLo.out
  unfold dirsF at h0
  clear HLo
  by_cases hb:st.bad=true
  ·rw [hb] at c4
   rw [if_pos hb] at h0
   simp only [Option.some.injEq,Prod.mk.injEq] at h0
   obtain ⟨rfl,rfl⟩:=h0
   have HE:=mkA (show acc=r by rw [← HCat.out,List.append_nil])
   clear HCat
   obtain ⟨rfl⟩:=HE.out
   obtain ⟨Ao,co,rfl⟩:=NO.out.shape
   clear hb
   go_wp2
   go_ret
   exact ⟨_,rfl,NO.out,HPc.out,HFc.out⟩
  rw [if_neg hb] at h0
  rw [show st.bad=false from by cases e:st.bad with | false=>rfl | true=>exact absurd e hb] at c4
  clear hb
  rcases es:takenF C.L 9 st with ⟨b2,s3⟩
  rw [es] at h0
  have ES:=mkA es
  clear es
  cases b2
  ·simp only [Option.some.injEq,Prod.mk.injEq] at h0
   obtain ⟨rfl,rfl⟩:=h0
   have HE:=mkA (show acc=r by rw [← HCat.out,List.append_nil])
   clear HCat
   obtain ⟨rfl⟩:=HE.out
   obtain ⟨Ao,co,rfl⟩:=NO.out.shape
   go_wp2_with (first
    | (go_at_call 37;have c_:=taken_walk HPc.out 9 (by decide);rw [ES.out] at c_;(with_reducible refine c_.mono ?_);rintro e w_ ⟨rfl,hP,hF⟩;replace HPc:=mkA hP;replace HFc:=mkA (HFc.out.trans hF);replace NO:=mkA (NdA.fr NO.out (hF.keeps GP.out GP.out (Nat.le_refl _)));clear hP hF))
   go_ret
   exact ⟨_,rfl,NO.out,HPc.out,HFc.out⟩
  ·rcases en:nameF C.L s3 with ⟨nm,s5⟩
   replace h0:((argsF C.L f (nameF C.L s3).2).bind fun y=>(dirsF C.L f k1 y.2).bind fun z=>some (nd 10 (nameF C.L s3).1 e0 e0 0 y.1++z.1,z.2))=some (rest,s'):=h0
   rw [en] at h0
   have EN:=mkA en
   clear en
   obtain ⟨x,hx,hy⟩:=Option.bind_eq_some_iff.1 h0
   obtain ⟨y,hy1,hy2⟩:=Option.bind_eq_some_iff.1 hy
   obtain ⟨v1,s4⟩:=x
   obtain ⟨y1,s6⟩:=y
   simp only [Option.some.injEq,Prod.mk.injEq] at hy2
   obtain ⟨hrest,rfl⟩:=hy2
   generalize hx1:nd 10 nm e0 e0 0 v1=x1 at hrest
   have HV:=mkA (show argsF C.L f s5=some (v1,s4) from hx)
   have HY:=mkA (show dirsF C.L f k1 s4=some (y1,s6) from hy1)
   have HRS:=mkA hrest.symm
   have HXR:=mkA (show acc.length+x1.length≤900000 by have h1:=congrArg List.length HCat.out;rw [← hrest] at h1;simp only [List.length_append] at h1;have:=HR.out;omega)
   have HE2:=mkA (show nd 10 nm e0 e0 0 [v1].flatten=x1 by rw [← hx1];simp)
   have HVR:=mkA (show v1.length≤900000 by have h1:=HXR.out;rw [← hx1,nd_len] at h1;omega)
   have HX1:=mkA (show 1≤x1.length by rw [← hx1,nd_len];omega)
   clear h0 hx hy hy1 hrest hx1
   go_upto_region 4 with (first
    | (go_at_call 37;have c_:=taken_walk HPc.out 9 (by decide);rw [ES.out] at c_;(with_reducible refine c_.mono ?_);rintro e w_ ⟨rfl,hP,hF⟩;replace HPc:=mkA hP;replace HFc:=mkA (HFc.out.trans hF);replace NO:=mkA (NdA.fr NO.out (hF.keeps GP.out GP.out (Nat.le_refl _)));clear hP hF)
    | (go_at_call 40;have c_:=name_walk HPc.out;rw [EN.out] at c_;(with_reducible refine c_.mono ?_);rintro e w_ ⟨rfl,hP,hF⟩;replace HPc:=mkA hP;replace HFc:=mkA (HFc.out.trans hF);replace NO:=mkA (NdA.fr NO.out (hF.keeps GP.out GP.out (Nat.le_refl _)));clear hP hF))
   have hA_:=below_alloc (Below.refl w_.heap.size w_) (.cells #[.int .i64 10,.string nm,.string ⟨#[]⟩,.string ⟨#[]⟩,.int .i64 0,.int .i64 0] 55)
   have n1_:=mkA (HPc.out.below hA_)
   have n2_:=mkA (HFc.out.step hA_)
   have m_:=mkA (NdA.fr NO.out (keeps_below hA_ (fun g h=>h)))
   have nl_:=mkA (show ∀ b,u5.ownBlock=some b→b≠w_.heap.size from fun b hb=>Nat.ne_of_lt (World.ownsRow.lt NO.out.1 b hb).2)
   have n4_:=mkA (heap_alloc_new w_ (.cells #[.int .i64 10,.string nm,.string ⟨#[]⟩,.string ⟨#[]⟩,.int .i64 0,.int .i64 0] 55))
   clear hA_
   generalize w_.heap.size=gb at n4_ nl_ ⊢
   generalize World.alloc _ _=w_ at n1_ n2_ m_ n4_ ⊢
   clear HPc HFc NO
   have HPc:=n1_
   have HFc:=n2_
   have NO:=m_
   have BX:=n4_
   have NLT:=nl_
   clear n1_ n2_ n4_ m_ nl_
   have NGB:=mkA (show gb≠C.gp from by obtain ⟨wr,hc⟩:=HPc.out.cell;exact blk_ne BX.out hc (by decide))
   have c5:=HPc.out.c5.1
   cases hu_:s5.un
   ·rw [hu_] at c5
    have g5:=HPc.out.c5.2
    go_upto_region 5 with (fail)
    have hu:=sp_un HPc.out false
    replace HPc:=mkA hu.1
    replace HFc:=mkA (HFc.out.trans hu.2)
    replace NO:=mkA (NdA.fr NO.out (hu.2.keeps GP.out GP.out (Nat.le_refl _)))
    replace BX:=mkA (hu.2.blk BX.out NGB.out NGB.out)
    generalize World.setCell _ _ _=w_ at HPc HFc NO BX ⊢
    clear hu c5 g5
    have HPx:=mkA (show SP C w_ s5 from by have h:=HPc.out;rw [← hu_] at h;exact h)
    clear HPc hu_
    have HPc:=HPx
    clear HPx
    have SK:∀ u:World,u.heap[gb]?=some (.cells #[.int .i64 10,.string nm,.string ⟨#[]⟩,.string ⟨#[]⟩,.int .i64 0,.int .i64 0] 55 (0,0))→(u.cell? ⟨gb,0,none⟩=some (.int .i64 10)∧u.cell? ⟨gb,1,none⟩=some (.string nm)∧u.cell? ⟨gb,2,none⟩=some (.string ⟨#[]⟩)∧u.cell? ⟨gb,3,none⟩=some (.string ⟨#[]⟩)∧u.cell? ⟨gb,4,none⟩=some (.int .i64 0)∧u.cell? ⟨gb,5,none⟩=some (.int .i64 0)):=fun u hu=>⟨(blk_cell hu 0).trans rfl,(blk_cell hu 1).trans rfl,(blk_cell hu 2).trans rfl,(blk_cell hu 3).trans rfl,(blk_cell hu 4).trans rfl,(blk_cell hu 5).trans rfl⟩
    have HO:=mkA (own_up NO.out.1 NO.out.2)
    have HBA:=mkA HFc.out.size
    have hS0:=SK w_ BX.out
    go_region_held3 (fun u=>u.cell? ⟨gb,0,none⟩=some (.int .i64 10)∧u.cell? ⟨gb,1,none⟩=some (.string nm)∧u.cell? ⟨gb,2,none⟩=some (.string ⟨#[]⟩)∧u.cell? ⟨gb,3,none⟩=some (.string ⟨#[]⟩)∧u.cell? ⟨gb,4,none⟩=some (.int .i64 0)∧u.cell? ⟨gb,5,none⟩=some (.int .i64 0)) (first | exact hS9 | exact hS7 | exact hS6 | exact hS5 | exact hS0 | fail) (first | (go_at_call 20;(first | refine (IH.out (HPc.out.below (below_drew1 (Below.refl _ _))) HV.out HVR.out).mono ?_ | refine (IH.out HPc.out HV.out HVR.out).mono ?_);rintro e w5 ⟨v_,rfl,hN,hP,hF⟩;obtain ⟨AN1,cN1,rfl⟩:=hN.shape;have bx5:=mkA (hF.blk BX.out NGB.out NGB.out);have hS5:=SK w5 bx5.out;have bx6:=mkA (blk_below bx5.out (below_alloc (Below.refl _ _) (.cells #[.slice AN1 v1.length cN1] 25)));have hS6:=SK _ bx6.out;have N1:=mkA hN;have P5:=mkA hP;have F5:=mkA (show Fr C.gp C.gp w_ w5 from by first | exact ((Fr.refl C.gp C.gp w_).drew).trans hF | exact hF);clear hN hP hF) | (go_at_call 38;refine (made_walk (kids_new (n:=1) (w:=w5) (.cons N1.out .nil) rfl) (by have:=HVR.out;simp;omega) (by simp)).mono ?_;rintro e w7 ⟨v_,rfl,hN,hB⟩;rw [HE2.out] at hN;obtain ⟨AN2,cN2,rfl⟩:=hN.shape;have B7:=mkA (below_step (below_alloc (Below.refl w5.heap.size w5) _) hB);have bx7:=mkA (blk_below bx5.out B7.out);have hS7:=SK w7 bx7.out;have N2:=mkA hN;have O7:=mkA (own_typ (own_fr HO.out (by decide) HPc.out F5.out) (fun g cs x=>blk_below x B7.out));have F7:=mkA ((HFc.out.trans F5.out).step B7.out);clear hN hB) | (refine step_nd_append w7 (by rfl) (.tmp 33) (.tmp 38) (by rfl) w.heap.size u5 acc x1 (by rfl) O7.out AN2 x1.length cN2 (by rfl) rfl N2.out.1 HX1.out F7.out.size (by have:=HXR.out;omega) _ rfl ?_;intro gd cap w9 hown hgrow hat hlt;have HO9:=mkA hown;have HG9:=mkA hgrow;have bx9:=mkA (blk_grown hgrow bx7.out (blk_lt bx7.out) (fun e=>NLT.out _ e rfl));have hS9:=SK w9 bx9.out;clear hown hgrow hat hlt) | fail)
    all_goals (try go_wp2)
    replace HPc:=mkA (P5.out.below B7.out)
    replace HFc:=mkA F7.out
    have HN6:=mkA (show NdA (from_ w.heap.size) w9 (acc++x1) (.slice (some ⟨gd,0,none⟩) (acc.length+x1.length) cap) from ⟨own_less HO9.out (Nat.zero_le _),fun b hb=>(World.ownsRow.lt HO9.out b hb).1⟩)
    clear HO
    have HO:=O7
    have HG6:=HG9
    go_roundg k1
    case measure=>omega
    case rel=>exact ⟨acc++x1,s4,y1,HY,⟨by rw [← HCat.out,HRS.out,List.append_assoc]⟩,HN6,⟨HPc.out.grown HO.out (.inr rfl) HG6.out⟩,⟨fr_grown HFc.out HG6.out (fun b hb=>(World.ownsRow.lt HO.out b hb).1)⟩⟩
   ·rw [hu_] at c5
    have g5:=HPc.out.c5.2
    go_upto_region 5 with (fail)
    have hu:=sp_un HPc.out true
    replace HPc:=mkA hu.1
    replace HFc:=mkA (HFc.out.trans hu.2)
    replace NO:=mkA (NdA.fr NO.out (hu.2.keeps GP.out GP.out (Nat.le_refl _)))
    replace BX:=mkA (hu.2.blk BX.out NGB.out NGB.out)
    generalize World.setCell _ _ _=w_ at HPc HFc NO BX ⊢
    clear hu c5 g5
    have HPx:=mkA (show SP C w_ s5 from by have h:=HPc.out;rw [← hu_] at h;exact h)
    clear HPc hu_
    have HPc:=HPx
    clear HPx
    have SK:∀ u:World,u.heap[gb]?=some (.cells #[.int .i64 10,.string nm,.string ⟨#[]⟩,.string ⟨#[]⟩,.int .i64 0,.int .i64 0] 55 (0,0))→(u.cell? ⟨gb,0,none⟩=some (.int .i64 10)∧u.cell? ⟨gb,1,none⟩=some (.string nm)∧u.cell? ⟨gb,2,none⟩=some (.string ⟨#[]⟩)∧u.cell? ⟨gb,3,none⟩=some (.string ⟨#[]⟩)∧u.cell? ⟨gb,4,none⟩=some (.int .i64 0)∧u.cell? ⟨gb,5,none⟩=some (.int .i64 0)):=fun u hu=>⟨(blk_cell hu 0).trans rfl,(blk_cell hu 1).trans rfl,(blk_cell hu 2).trans rfl,(blk_cell hu 3).trans rfl,(blk_cell hu 4).trans rfl,(blk_cell hu 5).trans rfl⟩
    have HO:=mkA (own_up NO.out.1 NO.out.2)
    have HBA:=mkA HFc.out.size
    have hS0:=SK w_ BX.out
    go_region_held3 (fun u=>u.cell? ⟨gb,0,none⟩=some (.int .i64 10)∧u.cell? ⟨gb,1,none⟩=some (.string nm)∧u.cell? ⟨gb,2,none⟩=some (.string ⟨#[]⟩)∧u.cell? ⟨gb,3,none⟩=some (.string ⟨#[]⟩)∧u.cell? ⟨gb,4,none⟩=some (.int .i64 0)∧u.cell? ⟨gb,5,none⟩=some (.int .i64 0)) (first | exact hS9 | exact hS7 | exact hS6 | exact hS5 | exact hS0 | fail) (first | (go_at_call 20;(first | refine (IH.out (HPc.out.below (below_drew1 (Below.refl _ _))) HV.out HVR.out).mono ?_ | refine (IH.out HPc.out HV.out HVR.out).mono ?_);rintro e w5 ⟨v_,rfl,hN,hP,hF⟩;obtain ⟨AN1,cN1,rfl⟩:=hN.shape;have bx5:=mkA (hF.blk BX.out NGB.out NGB.out);have hS5:=SK w5 bx5.out;have bx6:=mkA (blk_below bx5.out (below_alloc (Below.refl _ _) (.cells #[.slice AN1 v1.length cN1] 25)));have hS6:=SK _ bx6.out;have N1:=mkA hN;have P5:=mkA hP;have F5:=mkA (show Fr C.gp C.gp w_ w5 from by first | exact ((Fr.refl C.gp C.gp w_).drew).trans hF | exact hF);clear hN hP hF) | (go_at_call 38;refine (made_walk (kids_new (n:=1) (w:=w5) (.cons N1.out .nil) rfl) (by have:=HVR.out;simp;omega) (by simp)).mono ?_;rintro e w7 ⟨v_,rfl,hN,hB⟩;rw [HE2.out] at hN;obtain ⟨AN2,cN2,rfl⟩:=hN.shape;have B7:=mkA (below_step (below_alloc (Below.refl w5.heap.size w5) _) hB);have bx7:=mkA (blk_below bx5.out B7.out);have hS7:=SK w7 bx7.out;have N2:=mkA hN;have O7:=mkA (own_typ (own_fr HO.out (by decide) HPc.out F5.out) (fun g cs x=>blk_below x B7.out));have F7:=mkA ((HFc.out.trans F5.out).step B7.out);clear hN hB) | (refine step_nd_append w7 (by rfl) (.tmp 33) (.tmp 38) (by rfl) w.heap.size u5 acc x1 (by rfl) O7.out AN2 x1.length cN2 (by rfl) rfl N2.out.1 HX1.out F7.out.size (by have:=HXR.out;omega) _ rfl ?_;intro gd cap w9 hown hgrow hat hlt;have HO9:=mkA hown;have HG9:=mkA hgrow;have bx9:=mkA (blk_grown hgrow bx7.out (blk_lt bx7.out) (fun e=>NLT.out _ e rfl));have hS9:=SK w9 bx9.out;clear hown hgrow hat hlt) | fail)
    all_goals (try go_wp2)
    replace HPc:=mkA (P5.out.below B7.out)
    replace HFc:=mkA F7.out
    have HN6:=mkA (show NdA (from_ w.heap.size) w9 (acc++x1) (.slice (some ⟨gd,0,none⟩) (acc.length+x1.length) cap) from ⟨own_less HO9.out (Nat.zero_le _),fun b hb=>(World.ownsRow.lt HO9.out b hb).1⟩)
    clear HO
    have HO:=O7
    have HG6:=HG9
    go_roundg k1
    case measure=>omega
    case rel=>exact ⟨acc++x1,s4,y1,HY,⟨by rw [← HCat.out,HRS.out,List.append_assoc]⟩,HN6,⟨HPc.out.grown HO.out (.inr rfl) HG6.out⟩,⟨fr_grown HFc.out HG6.out (fun b hb=>(World.ownsRow.lt HO.out b hb).1)⟩⟩
theorem KidsA.sl2 {ok:Ok} {w:World} {kss:List (List Row)} {v:Value} (h:KidsA ok w kss v):∃ (A:Option Addr) (c:Nat),v=.slice A kss.length c:=by
 obtain ⟨xs,h1,_,h4⟩:=h
 obtain ⟨A,c,e⟩:=own_sl h1
 exact ⟨A,c,by rw [e,h4.len]⟩
theorem must_ge {L:List Tk} {k:Int} {s:St} (h:(mustF L k s).bad=false):1≤(mustF L k s).a:=by
 unfold mustF at h ⊢
 split
 ·exact Nat.succ_le_succ (Nat.zero_le _)
 ·rename_i h1;rw [if_neg h1] at h;cases h
theorem sset_walk {C:SC} {sel:St→Option RS} (ih:RecW C 44 #[ptr C.gp] sel) {n:Nat} (hn1:1≤n) (hnb:n≤1000000) {w:World} {s:St} {r:List Row} {s':St} (h:SP C w s) (H:setF C.L sel n s=some (r,s')) (hr:r.length≤900000):Calls Tryz.prog 19 #[ptr C.gp] w (RN C w r s'):=by
 have IH:=mkA @ih
 have CE:=mkA (enter_walk h)
 have HPc:=mkA h
 have HFc:=mkA (Fr.refl C.gp C.gp w)
 have GP:=mkA h.gp
 have HR:=mkA hr
 have HNB:=mkA hnb
 have HN1:=mkA hn1
 clear h ih hr hnb hn1
 unfold setF at H
 generalize enterF s=s1 at H CE
 cases hb:s1.bad with
 | true =>
   rw [if_pos hb] at H
   simp only [Option.some.injEq,Prod.mk.injEq] at H
   obtain ⟨rfl,rfl⟩:=H
   rw [hb] at CE
   clear hb
   go_enter Tryz.func19,Tryz.ntmps19
   go_wp2_with (first
    | (go_at_call 35;have c_:=CE.out;(with_reducible refine c_.mono ?_);rintro e w_ ⟨rfl,hP,hF⟩;replace HPc:=mkA hP;replace HFc:=mkA (HFc.out.trans hF);clear hP hF))
   go_ret
   exact ⟨_,rfl,NdA.nil _ _,HPc.out,HFc.out⟩
 | false =>
   rw [if_neg (by rw [hb];exact fun h=>by cases h)] at H
   rw [hb] at CE
   obtain ⟨z,hz,hz2⟩:=Option.bind_eq_some_iff.1 H
   obtain ⟨z1,z2⟩:=z
   simp only [Option.some.injEq,Prod.mk.injEq] at hz2
   obtain ⟨hr1,rfl⟩:=hz2
   have HR1:=mkA hr1
   have HZL:=mkA (show z1.length≤900000 by have h1:=HR.out;rw [← hr1,nd_len] at h1;omega)
   generalize ms:mustF C.L 12 s1=s2 at hz
   have MS:=mkA ms
   have HS1:=mkA (show s2.bad=false→1≤s2.a from by intro hb2;subst ms;exact must_ge hb2)
   have HZ:=mkA hz
   clear H hz hr1 hb ms
   go_enter Tryz.func19,Tryz.ntmps19
   go_wp2_with (first
    | (go_at_call 35;have c_:=CE.out;(with_reducible refine c_.mono ?_);rintro e w_ ⟨rfl,hP,hF⟩;replace HPc:=mkA hP;replace HFc:=mkA (HFc.out.trans hF);clear hP hF)
    | (go_at_call 39;have c_:=must_walk HPc.out 12 (by decide);rw [MS.out] at c_;(with_reducible refine c_.mono ?_);rintro e w_ ⟨rfl,hP,hF⟩;replace HPc:=mkA hP;replace HFc:=mkA (HFc.out.trans hF);clear hP hF)
    | (go_at_call 43;have c_:=some_walk HPc.out 14 HS1.out;(with_reducible refine c_.mono ?_);rintro e w_ ⟨rfl,hP,hF⟩;replace HPc:=mkA hP;replace HFc:=mkA (HFc.out.trans hF);clear hP hF))
   go_loopg [3] n (fun gk_ v3 wr=>∃ (kss:List (List Row)) (st:St) (rest:List Row),Aside0 ((kss=[]∧gk_=n∧loop1F C.L sel 14 n st=some (rest,z2))∨(kss≠[]∧loopF C.L sel 14 gk_ st=some (rest,z2)))∧Aside0 (kss.flatten++rest=z1)∧Aside0 (KidsA (from_ w.heap.size) wr kss v3)∧Aside0 (SP C wr st)∧Aside0 (Fr C.gp C.gp w wr)∧Aside0 (kss.length+gk_≤n))
   case atStart=>exact ⟨[],_,z1,⟨.inl ⟨rfl,rfl,HZ.out⟩⟩,⟨rfl⟩,⟨KidsA.nil _ _⟩,HPc,HFc,⟨by simp⟩⟩
   case round =>
    obtain ⟨kss,st,rest,HLo,HCat,K1,HPr,HFw,HNn⟩:=hrel
    clear HPc HFc HZ
    have HPc:=HPr
    have HFc:=HFw
    clear HPr HFw
    have HBN:=mkA (show kss.length≤1000000 by have:=HNn.out;have:=HNB.out;omega)
    obtain ⟨Au,cu,hu_⟩:=K1.out.sl2
    subst hu_
    have c4:=HPc.out.c4
    generalize hw_:wr=w_ at *
    clear hw_
    by_cases hb:st.bad=true
    ·rw [hb] at c4
     have hrs:rest=[]∧st=z2:=by
      have h0:=HLo.out
      rcases h0 with ⟨_,_,h0⟩ | ⟨_,h0⟩
      ·unfold loop1F at h0
       rw [if_pos hb] at h0
       simp only [Option.some.injEq,Prod.mk.injEq] at h0
       exact ⟨h0.1.symm,h0.2⟩
      ·cases gk with
       | zero=>cases h0
       | succ k1 =>
         unfold loopF at h0
         rw [if_pos hb] at h0
         simp only [Option.some.injEq,Prod.mk.injEq] at h0
         exact ⟨h0.1.symm,h0.2⟩
     clear HLo
     obtain ⟨rfl,rfl⟩:=hrs
     have hfl:kss.flatten=z1:=by have h:=HCat.out;rw [List.append_nil] at h;exact h
     have HE:=mkA (show nd 5 e0 e0 e0 0 kss.flatten=r by rw [hfl];exact HR1.out)
     have HBD:=mkA (show kss.flatten.length≤900000 by rw [hfl];exact HZL.out)
     clear hfl hb
     go_wp2_with (first
      | (go_at_call 41;have c_:=leave_walk HPc.out;(with_reducible refine c_.mono ?_);rintro e w_ ⟨rfl,hP,hF⟩;replace HPc:=mkA hP;replace HFc:=mkA (HFc.out.trans hF);replace K1:=mkA (KidsA.fr K1.out (hF.keeps GP.out GP.out (Nat.le_refl _)));clear hP hF)
      | (go_at_call 38;(with_reducible refine (made_walk (K1.out) HBD.out HBN.out).mono ?_);rintro e w_ ⟨v_,rfl,hN,hB⟩;rw [HE.out] at hN;have hA_:=hB;obtain ⟨AN1,cN1,rfl⟩:=hN.shape;have HX_:=mkA HFc.out.size;replace HPc:=mkA (HPc.out.below hA_);replace HFc:=mkA (HFc.out.step hA_);have N1:=mkA (NdA.weak hN (fun g h=>Nat.le_trans HX_.out h));clear hN hB hA_))
     go_ret
     exact ⟨_,rfl,N1.out,HPc.out,HFc.out⟩
    rw [show st.bad=false from by cases e:st.bad with | false=>rfl | true=>exact absurd e hb] at c4
    have hgk:∃ k1,gk=k1+1:=by
     cases gk with
     | zero =>
       rcases HLo.out with ⟨_,h0,_⟩ | ⟨_,h0⟩
       ·have:=HN1.out;omega
       ·cases h0
     | succ k1=>exact ⟨k1,rfl⟩
    obtain ⟨k1,rfl⟩:=hgk
    rcases es:takenF C.L 14 st with ⟨b2,s3⟩
    have hit:(kss=[]∨(kss≠[]∧b2=false))→∃ x y:RS,sel st=some x∧loopF C.L sel 14 k1 x.2=some (y.1,z2)∧rest=x.1++y.1:=by
     intro hm
     rcases HLo.out with ⟨h1,h2,h0⟩ | ⟨h1,h0⟩
     ·unfold loop1F at h0
      rw [if_neg hb,show n - 1=k1 by omega] at h0
      obtain ⟨x,hx,hy⟩:=Option.bind_eq_some_iff.1 h0
      obtain ⟨y,hy1,hy2⟩:=Option.bind_eq_some_iff.1 hy
      simp only [Option.some.injEq,Prod.mk.injEq] at hy2
      exact ⟨x,y,hx,by rw [← hy2.2];exact hy1,hy2.1.symm⟩
     ·have hb2:b2=false:=by rcases hm with hm | hm;exact absurd hm h1;exact hm.2
      subst hb2
      unfold loopF at h0
      rw [if_neg hb,es] at h0
      have es3:s3=st:=taken_no es
      subst es3
      obtain ⟨x,hx,hy⟩:=Option.bind_eq_some_iff.1 h0
      obtain ⟨y,hy1,hy2⟩:=Option.bind_eq_some_iff.1 hy
      simp only [Option.some.injEq,Prod.mk.injEq] at hy2
      exact ⟨x,y,hx,by rw [← hy2.2];exact hy1,hy2.1.symm⟩
    have hex:kss≠[]→b2=true→rest=[]∧s3=z2:=by
     intro hm hb2
     subst hb2
     rcases HLo.out with ⟨h1,_⟩ | ⟨_,h0⟩
     ·exact absurd h1 hm
     ·unfold loopF at h0
      rw [if_neg hb,es] at h0
      simp only [Option.some.injEq,Prod.mk.injEq] at h0
      exact ⟨h0.1.symm,h0.2⟩
    have hno:b2=false→s3=st:=fun e=>by subst e;exact taken_no es
    have ES:=mkA es
    have hm3:kss=[]∨(kss≠[]∧b2=true)∨(kss≠[]∧b2=false):=by
     cases kss with
     | nil=>exact .inl rfl
     | cons a b =>
       cases b2
       ·exact .inr (.inr ⟨List.cons_ne_nil _ _,rfl⟩)
       ·exact .inr (.inl ⟨List.cons_ne_nil _ _,rfl⟩)
    clear es hb HLo
    rcases hm3 with hm | ⟨hm,hb2⟩ | ⟨hm,hb2⟩
    case' inl =>
     have hI:=hit (.inl hm)
     have qm:((kss.length:Int) == 0)=true:=by rw [hm];rfl
     clear hit hex hno hm
    case inr.inl =>
     obtain ⟨rfl,rfl⟩:=hex hm hb2
     subst hb2
     have qm:((kss.length:Int) == 0)=false:=beq_eq_false_iff_ne.2 (by have:=List.length_pos_iff.2 hm;omega)
     clear hit hex hno hm
     have hfl:kss.flatten=z1:=by have h:=HCat.out;rw [List.append_nil] at h;exact h
     have HE:=mkA (show nd 5 e0 e0 e0 0 kss.flatten=r by rw [hfl];exact HR1.out)
     have HBD:=mkA (show kss.flatten.length≤900000 by rw [hfl];exact HZL.out)
     clear hfl
     go_wp2_with (first
      | (go_at_call 37;have c_:=taken_walk HPc.out 14 (by decide);rw [ES.out] at c_;(with_reducible refine c_.mono ?_);rintro e w_ ⟨rfl,hP,hF⟩;replace HPc:=mkA hP;replace HFc:=mkA (HFc.out.trans hF);replace K1:=mkA (KidsA.fr K1.out (hF.keeps GP.out GP.out (Nat.le_refl _)));clear hP hF)
      | (go_at_call 41;have c_:=leave_walk HPc.out;(with_reducible refine c_.mono ?_);rintro e w_ ⟨rfl,hP,hF⟩;replace HPc:=mkA hP;replace HFc:=mkA (HFc.out.trans hF);replace K1:=mkA (KidsA.fr K1.out (hF.keeps GP.out GP.out (Nat.le_refl _)));clear hP hF)
      | (go_at_call 38;(with_reducible refine (made_walk (K1.out) HBD.out HBN.out).mono ?_);rintro e w_ ⟨v_,rfl,hN,hB⟩;rw [HE.out] at hN;have hA_:=hB;obtain ⟨AN1,cN1,rfl⟩:=hN.shape;have HX_:=mkA HFc.out.size;replace HPc:=mkA (HPc.out.below hA_);replace HFc:=mkA (HFc.out.step hA_);have N1:=mkA (NdA.weak hN (fun g h=>Nat.le_trans HX_.out h));clear hN hB hA_))
     go_ret
     exact ⟨_,rfl,N1.out,HPc.out,HFc.out⟩
    case' inr.inr =>
     have hI:=hit (.inr ⟨hm,hb2⟩)
     have e_:=hno hb2
     subst s3
     subst hb2
     have qm:((kss.length:Int) == 0)=false:=beq_eq_false_iff_ne.2 (by have:=List.length_pos_iff.2 hm;omega)
     clear hit hex hno hm
    all_goals
     obtain ⟨x,y,hx,hy,hrest⟩:=hI
     obtain ⟨x1,s4⟩:=x
     obtain ⟨y1,s5⟩:=y
     simp only at hy hrest
     have HX:=mkA hx
     have HY:=mkA hy
     have HRS:=mkA hrest
     have HXR:=mkA (show x1.length≤900000 by have h1:=congrArg List.length HCat.out;rw [hrest] at h1;simp only [List.length_append] at h1;have:=HZL.out;omega)
     clear hx hy hrest
     go_wp2_with (first
      | (go_at_call 37;have c_:=taken_walk HPc.out 14 (by decide);rw [ES.out] at c_;(with_reducible refine c_.mono ?_);rintro e w_ ⟨rfl,hP,hF⟩;replace HPc:=mkA hP;replace HFc:=mkA (HFc.out.trans hF);replace K1:=mkA (KidsA.fr K1.out (hF.keeps GP.out GP.out (Nat.le_refl _)));clear hP hF)
      | (go_at_call 44;have c_:=IH.out HPc.out HX.out HXR.out;(with_reducible refine c_.mono ?_);rintro e w_ ⟨v_,rfl,hN,hP,hF⟩;obtain ⟨AN1,cN1,rfl⟩:=hN.shape;have HX_:=mkA HFc.out.size;replace HPc:=mkA hP;replace HFc:=mkA (HFc.out.trans hF);replace K1:=mkA (KidsA.fr K1.out (hF.keeps GP.out GP.out (Nat.le_refl _)));have N1:=mkA (NdA.weak hN (fun g h=>Nat.le_trans HX_.out h));clear hN hP hF;obtain ⟨xs,hO_,hB_,hM_⟩:=K1.out;have HO:=mkA (own_up hO_ hB_);have HKl:=mkA hM_;have HXL:=mkA (show xs.length≤1000000 by rw [← hM_.len];exact HBN.out);clear hO_ hB_ hM_)
      | (at_builtin;refine print_append (w0:=w_) w.heap.size rfl (.tmp 26) (.tmp 29) 106 25 (.slice none 0 0) 24 rfl Tryz.underlying106 info25' rfl (by decide) (.slice Au kss.length cu) xs (.slice AN1 x1.length cN1) rfl rfl rfl HO.out (Below.refl _ _) HFc.out.size (by have:=HXL.out;omega) ?_;intro v6 w6 ho hb hg hat;have HO6:=mkA ho;have HG6:=mkA hg;clear ho hb hg hat))
     go_roundg k1
     case measure=>omega
     case rel=>exact ⟨kss++[x1],s4,y1,⟨.inr ⟨by simp,HY.out⟩⟩,⟨by rw [← HCat.out,HRS.out];simp⟩,⟨xs++[.slice AN1 x1.length cN1],own_less HO6.out (Nat.zero_le _),fun b hb=>(World.ownsRow.lt HO6.out b hb).1,Kl.snoc (HKl.out.mono fun r v h=>h.grown HO.out HG6.out) (N1.out.grown HO.out HG6.out)⟩,⟨HPc.out.grown HO.out (.inl rfl) HG6.out⟩,⟨fr_grown HFc.out HG6.out (fun b hb=>(World.ownsRow.lt HO.out b hb).1)⟩,⟨by have:=HNn.out;simp;omega⟩⟩
end Go.Proofs.YthgcghpcikbnkaaGreatDoor.R
