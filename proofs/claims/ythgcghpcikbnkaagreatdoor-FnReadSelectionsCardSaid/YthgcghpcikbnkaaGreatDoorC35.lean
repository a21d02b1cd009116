/- A part of the proof of the theorem of this claim: Smx, Sar. No condition of its own. -/
import Derived.Test.YthgcghpcikbnkaaGreatDoorC34
set_option maxHeartbeats 16000000
set_option maxRecDepth 100000
namespace Go.Proofs.YthgcghpcikbnkaaGreatDoor.R
open Go.RowKit Go.Proofs.YthgcghpcikbnkaaGreatDoorW.PrintWords Go.Proofs.YthgcghpcikbnkaaGreatDoorW.PrintLast Go.Proofs.YthgcghpcikbnkaaGreatDoorW.PrintMore
set_option linter.unusedVariables false
set_option linter.unusedSimpArgs false
theorem taken_no {L:List Tk} {k:Int} {s s':St} (h:takenF L k s=(false,s')):s'=s:=by
 unfold takenF at h
 split at h
 ·cases h
 ·injection h with h1 h2;exact h2.symm
theorem taken_cs {L:List Tk} (k:Int) (hk:k≠1) {s s':St} {b:Bool} (h:takenF L k s=(b,s')):b=true→1≤s'.a:=by
 intro e
 subst e
 unfold takenF at h
 split at h
 ·injection h with h1 h2;rw [← h2];exact Nat.succ_le_succ (Nat.zero_le _)
 ·cases h
theorem row_some {w:World} {b n c:Nat} {A:Option Addr} {rows:List Row} (HX:w.ownsRow b 55 6 (.slice A n c) rows.length (flat rows)) (hr:1≤rows.length):∃ g,A=some ⟨g,0,none⟩:=by
 rcases HX.2 with ⟨e,h0⟩ | ⟨g,cap,cur,e,_⟩
 ·omega
 ·injection e with e1;exact ⟨g,e1⟩
theorem blk_grown {w w1:World} {g:Nat} {o:Obj} {row:Option Nat} (hg:w.grownBy w1 row) (hb:w.heap[g]?=some o) (hlt:g < w.heap.size) (hn:row≠some g):w1.heap[g]?=some o:=(hg.block g hlt (fun e=>hn e.symm)).trans hb
section
variable {ops:Array Oper} {o:Oper} {a:Act} {K:Act→World→Prop} {Q:Exit→Act→World→Prop} {E:Prop}
theorem step_nd_append (W:World) (hgd:o.guard=none) (s x:Operand) (ho:o.op=.call { callee:=.builtin .append,args:=#[s,x],argTypes:=#[25,25] })
 (base:Nat) (v:Value) (xs rows:List Row) (hs:a.eval s=v) (HO:W.ownsRow base 55 6 v xs.length (flat xs)) {b2:Nat} (A:Option Addr) (n c:Nat) (hx:a.eval x=.slice A n c) (hn:n=rows.length) (HX:W.ownsRow b2 55 6 (.slice A n c) rows.length (flat rows)) (hr:1≤rows.length) (hbase:base≤W.heap.size) (hl:xs.length+rows.length≤1000000) (H:Nat) (hH:W.heap.size=H)
 (h:∀ g cap w',w'.ownsRow base 55 6 (.slice (some ⟨g,0,none⟩) (xs.length+rows.length) cap) (xs++rows).length (flat (xs++rows))→W.grownBy w' v.ownBlock→(v.ownBlock=some g∨g=H)→g < w'.heap.size→K (a.put o.dst (.slice (some ⟨g,0,none⟩) (xs.length+rows.length) cap)) w') :
 if Region.wanted o (yielded ops a.tmps)=true then Oper.wp Tryz.prog o a W K Q else E:=by
 obtain ⟨i0,hi,hz0,hz1,hz2⟩:=inf_parts info55'
 obtain ⟨g,rfl⟩:=row_some HX hr
 subst hn
 refine step_append_lies W hgd s x 25 ho base 55 i0 (.agg #[.int .i64 0,.string ⟨#[]⟩,.string ⟨#[]⟩,.string ⟨#[]⟩,.int .i64 0,.int .i64 0]) 6 72 Tryz.underlying25 hi hz0 hz1 hz2 rfl (by omega) v xs.length (flat xs) hs HO ⟨g,0,none⟩ rows.length c (flat rows) hx (flat_len rows) (World.ownsRow.cells HX rfl)
  (by
   intro u hu
   simp only [flat,List.mem_flatMap] at hu
   obtain ⟨q,_,hq⟩:=hu
   simp only [rv,List.mem_cons,List.not_mem_nil,or_false] at hq
   rcases hq with rfl | rfl | rfl | rfl | rfl | rfl <;> rfl) (by omega) (by simp only [maxLen];omega) (by omega) hbase H hH ?_
 intro g1 cap w' h1 h2 h3 h4
 exact h g1 cap w' (by rw [List.length_append,flat_app];exact h1) h2 h3 h4
end
theorem sargs_walk {C:SC} {f:Nat} (hf:f≤1000000) (hf1:1≤f) {w:World} {s:St} {r:List Row} {s':St} (h:SP C w s) (H:argsF C.L f s=some (r,s')) (hr:r.length≤900000):Calls Tryz.prog 20 #[ptr C.gp,.bool false] w (RN C w r s'):=by
 have HPc:=mkA h
 have HFc:=mkA (Fr.refl C.gp C.gp w)
 have GP:=mkA h.gp
 have HR:=mkA hr
 have HFB:=mkA hf
 have HF1:=mkA hf1
 have IH:=mkA (@value_walk C false f hf)
 clear hr hf hf1
 unfold argsF at H
 rcases et:takenF C.L 4 s with ⟨b,s1⟩
 rw [et] at H
 have hcs:=taken_cs 4 (by decide) et
 have ET:=mkA et
 clear et h
 cases b
 ·simp only [Option.some.injEq,Prod.mk.injEq] at H
  obtain ⟨rfl,rfl⟩:=H
  clear hcs
  go_enter Tryz.func20,Tryz.ntmps20
  go_wp2_with (first
   | (go_at_call 37;have c_:=taken_walk HPc.out 4 (by decide);rw [ET.out] at c_;(with_reducible refine c_.mono ?_);rintro e w_ ⟨rfl,hP,hF⟩;replace HPc:=mkA hP;replace HFc:=mkA (HFc.out.trans hF);clear hP hF))
  go_ret
  exact ⟨_,rfl,NdA.nil _ _,HPc.out,HFc.out⟩
 ·have HH:=mkA (show loop1F C.L (nvF C.L 9 (valueF C.L false f)) 5 f (someF C.L 5 s1)=some (r,s') from H)
  have HS1:=mkA (show s1.bad=false→1≤s1.a from fun _=>hcs rfl)
  clear H hcs
  go_enter Tryz.func20,Tryz.ntmps20
  go_wp2_with (first
   | (go_at_call 37;have c_:=taken_walk HPc.out 4 (by decide);rw [ET.out] at c_;(with_reducible refine c_.mono ?_);rintro e w_ ⟨rfl,hP,hF⟩;replace HPc:=mkA hP;replace HFc:=mkA (HFc.out.trans hF);clear hP hF)
   | (go_at_call 43;have c_:=some_walk HPc.out 5 HS1.out;(with_reducible refine c_.mono ?_);rintro e w_ ⟨rfl,hP,hF⟩;replace HPc:=mkA hP;replace HFc:=mkA (HFc.out.trans hF);clear hP hF))
  go_loopg [5,6] f (fun gk_ v5 v6 wr=>∃ (m:Nat) (acc:List Row) (st:St) (rest:List Row),v6=.int .i64 m∧Aside0 ((m=0∧gk_=f∧loop1F C.L (nvF C.L 9 (valueF C.L false f)) 5 f st=some (rest,s'))∨(1≤m∧loopF C.L (nvF C.L 9 (valueF C.L false f)) 5 gk_ st=some (rest,s')))∧Aside0 (acc++rest=r)∧Aside0 (NdA (from_ w.heap.size) wr acc v5)∧Aside0 (SP C wr st)∧Aside0 (Fr C.gp C.gp w wr)∧Aside0 (m+gk_≤f))
  case atStart=>exact ⟨0,[],_,r,rfl,⟨.inl ⟨rfl,rfl,HH.out⟩⟩,⟨rfl⟩,⟨NdA.nil _ _⟩,HPc,HFc,⟨by simp⟩⟩
  case round =>
   obtain ⟨m,acc,st,rest,rfl,HLo,HCat,NO,HPr,HFw,HNn⟩:=hrel
   clear HPc HFc HH
   have HPc:=HPr
   have HFc:=HFw
   clear HPr HFw
   have c4:=HPc.out.c4
   generalize hw_:wr=w_ at *
   clear hw_
   by_cases hb:st.bad=true
   ·rw [hb] at c4
    have hrs:acc=r∧st=s':=by
     have h0:=HLo.out
     rcases h0 with ⟨_,_,h0⟩ | ⟨_,h0⟩
     ·unfold loop1F at h0
      rw [if_pos hb] at h0
      simp only [Option.some.injEq,Prod.mk.injEq] at h0
      obtain ⟨rfl,rfl⟩:=h0
      exact ⟨by rw [← HCat.out,List.append_nil],rfl⟩
     ·cases gk with
      | zero=>cases h0
      | succ k1 =>
        unfold loopF at h0
        rw [if_pos hb] at h0
        simp only [Option.some.injEq,Prod.mk.injEq] at h0
        obtain ⟨rfl,rfl⟩:=h0
        exact ⟨by rw [← HCat.out,List.append_nil],rfl⟩
    obtain ⟨rfl,rfl⟩:=hrs
    obtain ⟨Ao,co,rfl⟩:=NO.out.shape
    clear hb
    go_wp2
    go_ret
    exact ⟨_,rfl,NO.out,HPc.out,HFc.out⟩
   rw [show st.bad=false from by cases e:st.bad with | false=>rfl | true=>exact absurd e hb] at c4
   have hgk:∃ k1,gk=k1+1:=by
    cases gk with
    | zero =>
      rcases HLo.out with ⟨_,h0,_⟩ | ⟨_,h0⟩
      ·have:=HF1.out;omega
      ·cases h0
    | succ k1=>exact ⟨k1,rfl⟩
   obtain ⟨k1,rfl⟩:=hgk
   rcases es:takenF C.L 5 st with ⟨b2,s3⟩
   have hit:(m=0∨(1≤m∧b2=false))→∃ x y:RS,(nvF C.L 9 (valueF C.L false f)) st=some x∧loopF C.L (nvF C.L 9 (valueF C.L false f)) 5 k1 x.2=some (y.1,s')∧rest=x.1++y.1:=by
    intro hm
    rcases HLo.out with ⟨h1,h2,h0⟩ | ⟨h1,h0⟩
    ·unfold loop1F at h0
     rw [if_neg hb,show f - 1=k1 by omega] at h0
     obtain ⟨x,hx,hy⟩:=Option.bind_eq_some_iff.1 h0
     obtain ⟨y,hy1,hy2⟩:=Option.bind_eq_some_iff.1 hy
     simp only [Option.some.injEq,Prod.mk.injEq] at hy2
     exact ⟨x,y,hx,by rw [← hy2.2];exact hy1,hy2.1.symm⟩
    ·have hb2:b2=false:=by rcases hm with hm | hm;omega;exact hm.2
     subst hb2
     unfold loopF at h0
     rw [if_neg hb,es] at h0
     have es3:s3=st:=taken_no es
     subst es3
     obtain ⟨x,hx,hy⟩:=Option.bind_eq_some_iff.1 h0
     obtain ⟨y,hy1,hy2⟩:=Option.bind_eq_some_iff.1 hy
     simp only [Option.some.injEq,Prod.mk.injEq] at hy2
     exact ⟨x,y,hx,by rw [← hy2.2];exact hy1,hy2.1.symm⟩
   have hex:1≤m→b2=true→acc=r∧s3=s':=by
    intro hm hb2
    subst hb2
    rcases HLo.out with ⟨h1,_⟩ | ⟨_,h0⟩
    ·omega
    ·unfold loopF at h0
     rw [if_neg hb,es] at h0
     simp only [Option.some.injEq,Prod.mk.injEq] at h0
     obtain ⟨rfl,rfl⟩:=h0
     exact ⟨by rw [← HCat.out,List.append_nil],rfl⟩
   have hno:b2=false→s3=st:=fun e=>by subst e;exact taken_no es
   have ES:=mkA es
   have HNX:=mkA (show wrap64 ((m:Int)+1)=((m+1:Nat):Int) from by have h1:=HNn.out;have h2:=HFB.out;exact (w64 (by omega) (by omega)).trans (by omega))
   have hm3:m=0∨(1≤m∧b2=true)∨(1≤m∧b2=false):=by
    rcases Nat.eq_zero_or_pos m with e | e
    ·exact .inl e
    ·cases b2
     ·exact .inr (.inr ⟨e,rfl⟩)
     ·exact .inr (.inl ⟨e,rfl⟩)
   clear es hb HLo
   rcases hm3 with hm | ⟨hm,hb2⟩ | ⟨hm,hb2⟩
   case' inl =>
    have hI:=hit (.inl hm)
    have qm:((m:Int) == 0)=true:=by rw [hm];rfl
    have HM0:=mkA hm
    clear hit hex hno hm
   case inr.inl =>
    obtain ⟨rfl,rfl⟩:=hex hm hb2
    subst hb2
    obtain ⟨Ao,co,rfl⟩:=NO.out.shape
    have qm:((m:Int) == 0)=false:=beq_eq_false_iff_ne.2 (by omega)
    clear hit hex hno hm
    go_wp2_with (first
     | (go_at_call 37;have c_:=taken_walk HPc.out 5 (by decide);rw [ES.out] at c_;(with_reducible refine c_.mono ?_);rintro e w_ ⟨rfl,hP,hF⟩;replace HPc:=mkA hP;replace HFc:=mkA (HFc.out.trans hF);replace NO:=mkA (NdA.fr NO.out (hF.keeps GP.out GP.out (Nat.le_refl _)));clear hP hF))
    go_ret
    exact ⟨_,rfl,NO.out,HPc.out,HFc.out⟩
   case' inr.inr =>
    have hI:=hit (.inr ⟨hm,hb2⟩)
    have e_:=hno hb2
    subst s3
    subst hb2
    have qm:((m:Int) == 0)=false:=beq_eq_false_iff_ne.2 (by omega)
    clear hit hex hno hm
   all_goals
    obtain ⟨x,y,hx,hy,hrest⟩:=hI
    obtain ⟨x1,s4⟩:=x
    obtain ⟨y1,s5⟩:=y
    simp only at hy hrest
    have HX:=mkA hx
    have HY:=mkA hy
    have HRS:=mkA hrest
    have HXR:=mkA (show acc.length+x1.length≤900000 by have h1:=congrArg List.length HCat.out;rw [hrest] at h1;simp only [List.length_append] at h1;have:=HR.out;omega)
    clear hx hy hrest
    have hv0:=HX.out
    unfold nvF at hv0
    obtain ⟨v,hv,hv2⟩:=Option.bind_eq_some_iff.1 hv0
    obtain ⟨v1,s6⟩:=v
    simp only [Option.some.injEq,Prod.mk.injEq] at hv2
    obtain ⟨hx1,hs4⟩:=hv2
    have HV:=mkA hv
    have HS4:=mkA hs4
    have HE2:=mkA (show nd 9 (nameF C.L st).1 e0 e0 0 [v1].flatten=x1 by rw [← hx1];simp)
    have HVR:=mkA (show v1.length≤900000 by have h1:=HXR.out;rw [← hx1,nd_len] at h1;omega)
    have HX1:=mkA (show 1≤x1.length by rw [← hx1,nd_len];omega)
    clear hv0 hv hx1 hs4
    go_upto_region 9 with (first
     | (go_at_call 37;have c_:=taken_walk HPc.out 5 (by decide);rw [ES.out] at c_;(with_reducible refine c_.mono ?_);rintro e w_ ⟨rfl,hP,hF⟩;replace HPc:=mkA hP;replace HFc:=mkA (HFc.out.trans hF);replace NO:=mkA (NdA.fr NO.out (hF.keeps GP.out GP.out (Nat.le_refl _)));clear hP hF)
     | (go_at_call 40;have c_:=name_walk HPc.out;(with_reducible refine c_.mono ?_);rintro e w_ ⟨rfl,hP,hF⟩;replace HPc:=mkA hP;replace HFc:=mkA (HFc.out.trans hF);replace NO:=mkA (NdA.fr NO.out (hF.keeps GP.out GP.out (Nat.le_refl _)));clear hP hF))
    have hA_:=below_alloc (Below.refl w_.heap.size w_) (.cells #[.int .i64 9,.string (nameF C.L st).1,.string ⟨#[]⟩,.string ⟨#[]⟩,.int .i64 0,.int .i64 0] 55)
    have n1_:=mkA (HPc.out.below hA_)
    have n2_:=mkA (HFc.out.step hA_)
    have m_:=mkA (NdA.fr NO.out (keeps_below hA_ (fun g h=>h)))
    have nl_:=mkA (show ∀ b,u5.ownBlock=some b→b≠w_.heap.size from fun b hb=>Nat.ne_of_lt (World.ownsRow.lt NO.out.1 b hb).2)
    have n4_:=mkA (heap_alloc_new w_ (.cells #[.int .i64 9,.string (nameF C.L st).1,.string ⟨#[]⟩,.string ⟨#[]⟩,.int .i64 0,.int .i64 0] 55))
    clear hA_
    generalize w_.heap.size=gb at n4_ nl_ ⊢
    generalize World.alloc _ _=w_ at n1_ n2_ m_ n4_ ⊢
    clear HPc HFc NO
    have HPc:=n1_
    have HFc:=n2_
    have NO:=m_
    have BX:=n4_
    have NLT:=nl_
    clear n1_ n2_ n4_ m_ nl_
    have NGB:=mkA (show gb≠C.gp from by obtain ⟨wr,hc⟩:=HPc.out.cell;exact blk_ne BX.out hc (by decide))
    go_upto_region 10 with (first
     | (go_at_call 39;have c_:=must_walk HPc.out 7 (by decide);(with_reducible refine c_.mono ?_);rintro e w_ ⟨rfl,hP,hF⟩;replace HPc:=mkA hP;replace HFc:=mkA (HFc.out.trans hF);replace NO:=mkA (NdA.fr NO.out (hF.keeps GP.out GP.out (Nat.le_refl _)));replace BX:=mkA (hF.blk BX.out NGB.out NGB.out);clear hP hF))
    have SK:∀ u:World,u.heap[gb]?=some (.cells #[.int .i64 9,.string (nameF C.L st).1,.string ⟨#[]⟩,.string ⟨#[]⟩,.int .i64 0,.int .i64 0] 55 (0,0))→(u.cell? ⟨gb,0,none⟩=some (.int .i64 9)∧u.cell? ⟨gb,1,none⟩=some (.string (nameF C.L st).1)∧u.cell? ⟨gb,2,none⟩=some (.string ⟨#[]⟩)∧u.cell? ⟨gb,3,none⟩=some (.string ⟨#[]⟩)∧u.cell? ⟨gb,4,none⟩=some (.int .i64 0)∧u.cell? ⟨gb,5,none⟩=some (.int .i64 0)):=fun u hu=>⟨(blk_cell hu 0).trans rfl,(blk_cell hu 1).trans rfl,(blk_cell hu 2).trans rfl,(blk_cell hu 3).trans rfl,(blk_cell hu 4).trans rfl,(blk_cell hu 5).trans rfl⟩
    have HO:=mkA (own_up NO.out.1 NO.out.2)
    have HBA:=mkA HFc.out.size
    have hS0:=SK w_ BX.out
    go_region_held3 (fun u=>u.cell? ⟨gb,0,none⟩=some (.int .i64 9)∧u.cell? ⟨gb,1,none⟩=some (.string (nameF C.L st).1)∧u.cell? ⟨gb,2,none⟩=some (.string ⟨#[]⟩)∧u.cell? ⟨gb,3,none⟩=some (.string ⟨#[]⟩)∧u.cell? ⟨gb,4,none⟩=some (.int .i64 0)∧u.cell? ⟨gb,5,none⟩=some (.int .i64 0)) (first | exact hS9 | exact hS7 | exact hS6 | exact hS5 | exact hS0 | fail) (first | (go_at_call 18;(first | refine (IH.out (HPc.out.below (below_drew1 (Below.refl _ _))) HV.out HVR.out).mono ?_ | refine (IH.out HPc.out HV.out HVR.out).mono ?_);rintro e w5 ⟨v_,rfl,hN,hP,hF⟩;obtain ⟨AN1,cN1,rfl⟩:=hN.shape;have bx5:=mkA (hF.blk BX.out NGB.out NGB.out);have hS5:=SK w5 bx5.out;have bx6:=mkA (blk_below bx5.out (below_alloc (Below.refl _ _) (.cells #[.slice AN1 v1.length cN1] 25)));have hS6:=SK _ bx6.out;have N1:=mkA hN;have P5:=mkA hP;have F5:=mkA (show Fr C.gp C.gp w_ w5 from by first | exact ((Fr.refl C.gp C.gp w_).drew).trans hF | exact hF);clear hN hP hF) | (go_at_call 38;refine (made_walk (kids_new (n:=1) (w:=w5) (.cons N1.out .nil) rfl) (by have:=HVR.out;simp;omega) (by simp)).mono ?_;rintro e w7 ⟨v_,rfl,hN,hB⟩;rw [HE2.out] at hN;obtain ⟨AN2,cN2,rfl⟩:=hN.shape;have B7:=mkA (below_step (below_alloc (Below.refl w5.heap.size w5) _) hB);have bx7:=mkA (blk_below bx5.out B7.out);have hS7:=SK w7 bx7.out;have N2:=mkA hN;have O7:=mkA (own_typ (own_fr HO.out (by decide) HPc.out F5.out) (fun g cs x=>blk_below x B7.out));have F7:=mkA ((HFc.out.trans F5.out).step B7.out);clear hN hB) | (refine step_nd_append w7 (by rfl) (.tmp 34) (.tmp 40) (by rfl) w.heap.size u5 acc x1 (by rfl) O7.out AN2 x1.length cN2 (by rfl) rfl N2.out.1 HX1.out F7.out.size (by have:=HXR.out;omega) _ rfl ?_;intro gd cap w9 hown hgrow hat hlt;have HO9:=mkA hown;have HG9:=mkA hgrow;have bx9:=mkA (blk_grown hgrow bx7.out (blk_lt bx7.out) (fun e=>NLT.out _ e rfl));have hS9:=SK w9 bx9.out;clear hown hgrow hat hlt) | fail)
    all_goals (try go_wp2)
    replace HPc:=mkA (P5.out.below B7.out)
    replace HFc:=mkA F7.out
    have HN6:=mkA (show NdA (from_ w.heap.size) w9 (acc++x1) (.slice (some ⟨gd,0,none⟩) (acc.length+x1.length) cap) from ⟨own_less HO9.out (Nat.zero_le _),fun b hb=>(World.ownsRow.lt HO9.out b hb).1⟩)
    clear HO
    have HO:=O7
    have HG6:=HG9
    go_roundg k1
    case measure=>omega
    case rel=>exact ⟨m+1,acc++x1,_,y1,congrArg (Value.int .i64) HNX.out,⟨.inr ⟨Nat.succ_le_succ (Nat.zero_le _),HY.out⟩⟩,⟨by rw [← HCat.out,HRS.out,List.append_assoc]⟩,HN6,⟨by have h:=HPc.out.grown HO.out (.inr rfl) HG6.out;rw [HS4.out] at h;exact h⟩,⟨fr_grown HFc.out HG6.out (fun b hb=>(World.ownsRow.lt HO.out b hb).1)⟩,⟨by have:=HNn.out;omega⟩⟩
end Go.Proofs.YthgcghpcikbnkaaGreatDoor.R
