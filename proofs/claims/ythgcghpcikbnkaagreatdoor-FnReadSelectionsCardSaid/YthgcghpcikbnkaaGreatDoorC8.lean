/- A part of the proof of the theorem of this claim: Vl1, Lst, Obj, Stl. No condition of its own. -/
import Derived.Test.YthgcghpcikbnkaaGreatDoorC7
set_option maxHeartbeats 16000000
set_option maxRecDepth 100000
namespace Go.Proofs.YthgcghpcikbnkaaGreatDoor.R
open Go.RowKit Go.Proofs.YthgcghpcikbnkaaGreatDoorW.PrintWords Go.Proofs.YthgcghpcikbnkaaGreatDoorW.PrintLast Go.Proofs.YthgcghpcikbnkaaGreatDoorW.PrintMore
set_option linter.unusedVariables false
set_option linter.unusedSimpArgs false
def ValE (ok:Ok) (w:World) (r:List Row) (v:Value):Prop:=∃ n,ValA ok w n v r
theorem ValS.shape {ok:Ok} {w:World} {X:Value→List Row→Prop} {v:Value} {r:List Row} (h:ValS ok w X v r):∃ (te:TypeId) (g:Nat),v=.iface te (ptr g)∧(te=73∨te=130∨te=132∨te=134∨te=136∨te=139∨te=141∨te=145):=by
 cases h <;> exact ⟨_,_,rfl,by simp⟩
theorem ValE.shape2 {ok:Ok} {w:World} {r:List Row} {v:Value} (h:ValE ok w r v):∃ (te:TypeId) (g:Nat),v=.iface te (ptr g)∧(te=73∨te=130∨te=132∨te=134∨te=136∨te=139∨te=141∨te=145):=by
 obtain ⟨n,h⟩:=h
 cases n with
 | zero=>exact h.elim
 | succ n=>exact ValS.shape h
theorem ValE.shape {ok:Ok} {w:World} {r:List Row} {v:Value} (h:ValE ok w r v):∃ (te:TypeId) (x:Value),v=.iface te x:=by
 obtain ⟨te,g,h,_⟩:=h.shape2;exact ⟨te,_,h⟩
theorem ValE.fr {ok ok':Ok} {w w':World} {r:List Row} {v:Value} (h:ValE ok w r v) (hf:Keeps ok ok' w w'):ValE ok' w' r v:=by
 obtain ⟨n,h⟩:=h;exact ⟨n,ValA.fr hf n _ _ h⟩
theorem valA_le {ok:Ok} {w:World} {m n:Nat} (h:m≤n) {p:Value} {r:List Row} (hv:ValA ok w m p r):ValA ok w n p r:=by
 induction h with
 | refl=>exact hv
 | step _ ih=>exact ValA.up _ _ _ ih
theorem many_depth {ok:Ok} {w:World} {l:List Value} {r:List Row} (h:Many (fun v r=>ValE ok w r v) l r):∃ n,Many (ValA ok w n) l r:=by
 induction h with
 | nil=>exact ⟨0,.nil⟩
 | cons a _ ih =>
   obtain ⟨m,ha⟩:=a
   obtain ⟨n,hm⟩:=ih
   exact ⟨max m n,.cons (valA_le (Nat.le_max_left _ _) ha) (hm.mono fun v r h=>valA_le (Nat.le_max_right _ _) h)⟩
theorem FldA.depth {ok:Ok} {w:World} {l:List Value} {r:List Row} (h:Many (FldA ok w (fun v r=>ValE ok w r v)) l r):∃ n,Many (FldA ok w (ValA ok w n)) l r:=by
 have up:∀ {m n:Nat} {p:Value} {r:List Row},m≤n→FldA ok w (ValA ok w m) p r→FldA ok w (ValA ok w n) p r:=fun hmn h=>by
  obtain ⟨g,k,v,n,l,x,b,h1,h2,h3,h4,h5,h6⟩:=h
  exact ⟨g,k,v,n,l,x,b,h1,h2,h3,h4,valA_le hmn h5,h6⟩
 induction h with
 | nil=>exact ⟨0,.nil⟩
 | cons a _ ih =>
   obtain ⟨g,k,v,n,l,x,b,h1,h2,h3,h4,⟨m,h5⟩,h6⟩:=a
   obtain ⟨n',hm⟩:=ih
   exact ⟨max m n',.cons ⟨g,k,v,n,l,x,b,h1,h2,h3,h4,valA_le (Nat.le_max_left _ _) h5,h6⟩ (hm.mono fun v r h=>up (Nat.le_max_right _ _) h)⟩
def ValSpec (C:Cx) (f:Nat) (c:Bool):Prop:=∀ (w:World) (t:Tk) (r:List Tk),PS C w t r→pVal f c (t :: r)≠.out→Calls Tryz.prog 84 #[ptr C.gp,.bool c] w (Got C w (pVal f c (t :: r)) ValE)
theorem pvv_walk {C:Cx} {f:Nat} (hV:ValSpec C f false) {w:World} {t:Tk} {r:List Tk} (h:PS C w t r) (hne:pVal f false (t :: r)≠.out):Calls Tryz.prog 137 #[ptr C.gp] w (Got C w (pVal f false (t :: r)) ValE):=by
 have CV:=mkA (hV w t r h hne)
 clear hV h
 cases e_:pVal f false (t :: r) with
 | out=>exact absurd e_ hne
 | bad =>
   rw [e_] at CV
   clear e_ hne
   go_enter Tryz.func137,Tryz.ntmps137
   go_wp2_with (first
    | (go_at_call 84;(with_reducible refine CV.out.mono ?_);rintro e w1 ⟨hF,hP,v_,te,x,rfl⟩;have HF:=mkA hF;have HP:=mkA hP;clear hF hP))
   go_ret2
   exact ⟨HF.out,HP.out,_,te,x,rfl⟩
 | ok a_ =>
   obtain ⟨rw_,l_⟩:=a_
   rw [e_] at CV
   clear e_ hne
   go_enter Tryz.func137,Tryz.ntmps137
   go_wp2_with (first
    | (go_at_call 84;(with_reducible refine CV.out.mono ?_);rintro e w1 ⟨hF,v_,u,r',hl_,hP,hN,rfl⟩;obtain ⟨te,x,rfl⟩:=hN.shape;have HF:=mkA hF;have HP:=mkA hP;have HN:=mkA hN;have HL:=mkA hl_;clear hF hP hN hl_))
   go_ret2
   exact ⟨HF.out,_,u,r',HL.out,HP.out,HN.out,rfl⟩
theorem pvv_item {C:Cx} {f:Nat} (hV:ValSpec C f false):Item C 137 (pVal f false) ValE :=
 ⟨fun w t r h hne=>pvv_walk hV h hne,fun ok w r v h=>h.shape,fun ok ok' w w' r v hk h=>h.fr hk⟩
theorem pcv_walk {C:Cx} {f:Nat} (hV:ValSpec C f true) {w:World} {t:Tk} {r:List Tk} (h:PS C w t r) (hne:pVal f true (t :: r)≠.out):Calls Tryz.prog 138 #[ptr C.gp] w (Got C w (pVal f true (t :: r)) ValE):=by
 have CV:=mkA (hV w t r h hne)
 clear hV h
 cases e_:pVal f true (t :: r) with
 | out=>exact absurd e_ hne
 | bad =>
   rw [e_] at CV
   clear e_ hne
   go_enter Tryz.func138,Tryz.ntmps138
   go_wp2_with (first
    | (go_at_call 84;(with_reducible refine CV.out.mono ?_);rintro e w1 ⟨hF,hP,v_,te,x,rfl⟩;have HF:=mkA hF;have HP:=mkA hP;clear hF hP))
   go_ret2
   exact ⟨HF.out,HP.out,_,te,x,rfl⟩
 | ok a_ =>
   obtain ⟨rw_,l_⟩:=a_
   rw [e_] at CV
   clear e_ hne
   go_enter Tryz.func138,Tryz.ntmps138
   go_wp2_with (first
    | (go_at_call 84;(with_reducible refine CV.out.mono ?_);rintro e w1 ⟨hF,v_,u,r',hl_,hP,hN,rfl⟩;obtain ⟨te,x,rfl⟩:=hN.shape;have HF:=mkA hF;have HP:=mkA hP;have HN:=mkA hN;have HL:=mkA hl_;clear hF hP hN hl_))
   go_ret2
   exact ⟨HF.out,_,u,r',HL.out,HP.out,HN.out,rfl⟩
theorem pcv_item {C:Cx} {f:Nat} (hV:ValSpec C f true):Item C 138 (pVal f true) ValE :=
 ⟨fun w t r h hne=>pcv_walk hV h hne,fun ok w r v h=>h.shape,fun ok ok' w w' r v hk h=>h.fr hk⟩
theorem objField_walk {C:Cx} {w:World} {t:Tk} {r:List Tk} {f:Nat} {c:Bool} (hV:ValSpec C f c) (h:PS C w t r) (hne:(pNV 19 (pVal f c) (t :: r))≠.out):Calls Tryz.prog 140 #[ptr C.gp,.bool c] w (Got C w (pNV 19 (pVal f c) (t :: r)) (fun ok w' rows p=>FldA ok w' (fun v r=>ValE ok w' r v) p rows)):=by
 have HP:=mkA h
 have OK:=mkA h.ok
 have LOW:=mkA h.lo
 have c6:=h.cells.2.2.1
 have HB:=mkA (Fr.refl C.gp C.gc w)
 clear h
 unfold pNV at hne ⊢
 cases e_:pName (t :: r) with
 | out=>rw [e_] at hne;exact absurd rfl hne
 | bad =>
   simp only [O.bind_bad];have E0:=mkA e_;clear e_ hne
   go_enter Tryz.func140,Tryz.ntmps140
   go_wp2_with (first
    | (go_at_call 102;have c_:=parseName_walk HP.out;rw [E0.out] at c_;(with_reducible refine c_.mono ?_);rintro e w0 ⟨hF,hP,v_,te,x,rfl⟩;have HS_:=mkA HB.out.size;replace HB:=mkA (HB.out.trans hF);have HP0:=mkA hP;clear hP hF HS_ E0))
   go_ret2
   exact ⟨HB.out,HP0.out,_,te,x,rfl⟩
 | ok a_ =>
   obtain ⟨v0,l0⟩:=a_
   rw [e_] at hne;simp only [O.bind_ok] at hne ⊢;have E0:=mkA e_;clear e_
   cases e_:must 7 l0 with
   | out=>rw [e_] at hne;exact absurd rfl hne
   | bad =>
     simp only [O.bind_bad];have E1:=mkA e_;clear e_ hne
     go_enter Tryz.func140,Tryz.ntmps140
     go_wp2_with (first
      | (go_at_call 102;have c_:=parseName_walk HP.out;rw [E0.out] at c_;(with_reducible refine c_.mono ?_);rintro e w0 ⟨hF,p0,u0,r0,hl_,hP,hN,rfl⟩;subst hl_;obtain ⟨gq0,rfl⟩:=NameA.ptr hN;have HS_:=mkA HB.out.size;replace HB:=mkA (HB.out.trans hF);have N0:=mkA (hN.fr (keeps_weak (Nat.le_refl _)));clear hN;have HP0:=mkA hP;clear hP hF HS_ E0)
      | (go_at_call 79;have c_:=expect_walk HP0.out 7 (by decide);rw [E1.out] at c_;(with_reducible refine c_.mono ?_);rintro e w1 ⟨hF,hP,te,x,rfl⟩;have HS_:=mkA HB.out.size;replace HB:=mkA (HB.out.trans hF);replace N0:=mkA (N0.out.fr (PS.keeps OK.out hF LOW.out (Nat.le_refl _)));have HP1:=mkA hP;clear hP hF HS_ E1))
     go_ret2
     exact ⟨HB.out,HP1.out,_,te,x,rfl⟩
   | ok l1 =>
     rw [e_] at hne;simp only [O.bind_ok] at hne ⊢;have E1:=mkA e_;clear e_
     cases e_:pVal f c l1 with
     | out=>rw [e_] at hne;exact absurd rfl hne
     | bad =>
       simp only [O.bind_bad];have E2:=mkA e_;clear e_ hne
       go_enter Tryz.func140,Tryz.ntmps140
       go_wp2_with (first
        | (go_at_call 102;have c_:=parseName_walk HP.out;rw [E0.out] at c_;(with_reducible refine c_.mono ?_);rintro e w0 ⟨hF,p0,u0,r0,hl_,hP,hN,rfl⟩;subst hl_;obtain ⟨gq0,rfl⟩:=NameA.ptr hN;have HS_:=mkA HB.out.size;replace HB:=mkA (HB.out.trans hF);have N0:=mkA (hN.fr (keeps_weak (Nat.le_refl _)));clear hN;have HP0:=mkA hP;clear hP hF HS_ E0)
        | (go_at_call 79;have c_:=expect_walk HP0.out 7 (by decide);rw [E1.out] at c_;(with_reducible refine c_.mono ?_);rintro e w1 ⟨hF,u1,r1,hl_,hP,rfl⟩;subst hl_;have HS_:=mkA HB.out.size;replace HB:=mkA (HB.out.trans hF);replace N0:=mkA (N0.out.fr (PS.keeps OK.out hF LOW.out (Nat.le_refl _)));have HP1:=mkA hP;clear hP hF HS_ E1)
        | (go_at_call 84;have c_:=hV _ _ _ HP1.out (by rw [E2.out];exact fun e=>by cases e);rw [E2.out] at c_;(with_reducible refine c_.mono ?_);rintro e w2 ⟨hF,hP,v_,te,x,rfl⟩;have HS_:=mkA HB.out.size;replace HB:=mkA (HB.out.trans hF);replace N0:=mkA (N0.out.fr (PS.keeps OK.out hF LOW.out (Nat.le_refl _)));have HP2:=mkA hP;clear hP hF HS_ E2))
       go_ret2
       exact ⟨HB.out,HP2.out,_,te,x,rfl⟩
     | ok a_ =>
       obtain ⟨v2,l2⟩:=a_
       rw [e_] at hne;simp only [O.bind_ok] at hne ⊢;have E2:=mkA e_;clear e_
       clear hne
       go_enter Tryz.func140,Tryz.ntmps140
       go_wp2_with (first
        | (go_at_call 102;have c_:=parseName_walk HP.out;rw [E0.out] at c_;(with_reducible refine c_.mono ?_);rintro e w0 ⟨hF,p0,u0,r0,hl_,hP,hN,rfl⟩;subst hl_;obtain ⟨gq0,rfl⟩:=NameA.ptr hN;have HS_:=mkA HB.out.size;replace HB:=mkA (HB.out.trans hF);have N0:=mkA (hN.fr (keeps_weak (Nat.le_refl _)));clear hN;have HP0:=mkA hP;clear hP hF HS_ E0)
        | (go_at_call 79;have c_:=expect_walk HP0.out 7 (by decide);rw [E1.out] at c_;(with_reducible refine c_.mono ?_);rintro e w1 ⟨hF,u1,r1,hl_,hP,rfl⟩;subst hl_;have HS_:=mkA HB.out.size;replace HB:=mkA (HB.out.trans hF);replace N0:=mkA (N0.out.fr (PS.keeps OK.out hF LOW.out (Nat.le_refl _)));have HP1:=mkA hP;clear hP hF HS_ E1)
        | (go_at_call 84;have c_:=hV _ _ _ HP1.out (by rw [E2.out];exact fun e=>by cases e);rw [E2.out] at c_;(with_reducible refine c_.mono ?_);rintro e w2 ⟨hF,p2,u2,r2,hl_,hP,hN,rfl⟩;subst hl_;obtain ⟨tv2,xv2,rfl⟩:=ValE.shape hN;have HS_:=mkA HB.out.size;replace HB:=mkA (HB.out.trans hF);replace N0:=mkA (N0.out.fr (PS.keeps OK.out hF LOW.out (Nat.le_refl _)));have N2:=mkA (hN.fr (keeps_weak (HS_.out)));clear hN;have HP2:=mkA hP;clear hP hF HS_ E2)
        | (go_at_call 59;(with_reducible refine (loc_ps HP2.out _).mono ?_);rintro e wl ⟨⟨gl,rfl,hgl⟩,hBl⟩;have HL:=mkA hgl;have HBl:=mkA hBl;clear hgl hBl)
        | (go_at_call 153;(with_reducible refine (newObjF (B:=wl.heap.size) (heap_alloc_new wl _) (Nat.le_refl _) (below_alloc (Below.refl wl.heap.size wl) _).size).mono ?_);rintro e w9 ⟨⟨g9,k9,rfl,q1,h91⟩,q4⟩;have HX:=mkA ((below_alloc (Below.refl wl.heap.size wl) _).trans q4);have HW:=mkA (below_step HBl.out HX.out);have H90:=mkA (Nat.le_trans (Nat.le_trans HB.out.size HBl.out.size) q1);have H91:=mkA h91;clear q1 q4 h91))
       go_ret2
       have KX:=keeps_below (ok:=from_ w2.heap.size) (ok':=from_ w.heap.size) HX.out (fun g hg=>Nat.le_trans HB.out.size hg);have KW:=keeps_below (ok:=from_ w.heap.size) HW.out (fun g hg=>hg);exact ⟨HB.out.step HW.out,_,_,_,rfl,HP2.out.below HW.out,⟨g9,k9,_,_,_,_,_,rfl,⟨H90.out,H91.out⟩,HL.out.fr KX,N0.out.fr KW,N2.out.fr KW,rfl⟩,rfl⟩
theorem info77':(Tryz.prog.info? 77).map (fun i=>(i.zero,i.size,i.bytes))=some (some .nilIface,1,16):=by kernel_rfl
theorem own_read {ok:Ok} {w:World} {e:TypeId} {g cap n:Nat} {xs:List Value} (h:Own ok w e (.slice (some ⟨g,0,none⟩) n cap) n xs) {j:Nat} {x:Value} (hx:xs[j]?=some x):w.cell? ⟨g,j,none⟩=some x:=by
 have:=World.ownsRow.cells (g:=g) h.1 rfl j x hx
 rwa [show (⟨g,0,none⟩:Addr).add j=⟨g,j,none⟩ from by unfold Addr.add;split <;> simp_all] at this
theorem msr_up2 (n j:Nat) (h:j < n) (hn:n≤1000000):n - (intOf (.int .i64 (wrap64 ((j:Int)+1)))).toNat < n - (intOf (.int .i64 (j:Int))).toNat:=by
 have e:wrap64 ((j:Int)+1)=((j+1:Nat):Int):=(w64 (by omega) (by omega)).trans (by omega)
 rw [e]
 show n - ((j+1:Nat):Int).toNat < n - ((j:Nat):Int).toNat
 rw [Int.toNat_natCast,Int.toNat_natCast]
 omega
theorem own_shape {ok:Ok} {w:World} {e:TypeId} {n:Nat} {v:Value} {xs:List Value} (h:Own ok w e v n xs):xs.length=n∧((v=.slice none 0 0∧n=0)∨∃ g cap:Nat,v=.slice (some ⟨g,0,none⟩) n cap∧ok g):=by
 obtain ⟨⟨h1,h2⟩,h3⟩:=h
 refine ⟨by rw [h1,Nat.mul_one],?_⟩
 rcases h2 with h2 | ⟨g,cap,cur,rfl,_⟩
 ·exact .inl h2
 ·exact .inr ⟨g,cap,rfl,h3 g rfl⟩
theorem many_cons {X:Value→List Row→Prop} {x:Value} {l:List Value} {r:List Row} (h:Many X (x :: l) r):∃ a b,r=a++b∧X x a∧Many X l b:=by
 cases h with
 | cons h1 h2=>exact ⟨_,_,rfl,h1,h2⟩
theorem okl_keeps {n:Nat} {w5 w6:World} {sl sl2:Value} (hg:w5.grownBy w6 sl.ownBlock) (hat:sl2.ownBlock=sl.ownBlock∨∃ b,sl2.ownBlock=some b∧w5.heap.size≤b):Keeps (okl n sl) (okl n sl2) w5 w6:=fun g o h1 h2=>by
 have hlt:=blk_lt h2
 refine ⟨⟨h1.1,fun e=>?_⟩,(hg.block g hlt h1.2).trans h2⟩
 rcases hat with hat | ⟨b,hb,hb2⟩
 ·rw [hat] at e;exact h1.2 e
 ·rw [hb] at e;injection e with e;omega
def ListA (ok:Ok) (w:World) (rows:List Row) (p:Value):Prop:=∃ (g:Nat) (k:ByteArray) (l sl:Value) (r:List Row),p=ptr g∧At ok w g #[.string k,l,sl] 144∧LocA ok w l∧SlA ok w 77 (fun v r=>ValE ok w r v) sl r∧rows=nd 17 e0 e0 e0 0 r
theorem rev_false {it:List Tk→O (List Row × List Tk)} {op cl:Int} {f:Nat} {l:List Tk}:rev false it op cl f l=(must op l).bind fun r=>many it cl f r:=by
 unfold rev;congr
theorem ta_val {te:TypeId} (h:te=73∨te=130∨te=132∨te=134∨te=136∨te=139∨te=141∨te=145) (x:Value) (w:World):(Instr.typeAssert (.iface te x) 20 77 false).run Tryz.prog w=.ok (.iface te x) w:=by
 rcases h with rfl | rfl | rfl | rfl | rfl | rfl | rfl | rfl <;> kernel_rfl
theorem list_walk {C:Cx} {f:Nat} {c:Bool} (hV:ValSpec C f c) (hf:f≤1000000) {w:World} {t:Tk} {r:List Tk} (h:PS C w t r) (hne:rev false (pVal f c) 10 11 f (t :: r)≠.out):Calls Tryz.prog 107 #[ptr C.gp,.bool c] w (Got C w ((rev false (pVal f c) 10 11 f (t :: r)).bind fun x=>.ok (nd 17 e0 e0 e0 0 x.1,x.2)) ListA):=by
 have HP0:=mkA h
 have OK:=mkA h.ok
 have LOW:=mkA h.lo
 have c6:=h.cells.2.2.1
 have CR:=mkA (show ∀ o:Obj,Calls Tryz.prog 49 #[ptr C.gp,.int .i64 10,.func (.func (if c=true then 138 else 137)) #[] #[],.int .i64 11,.bool false] (w.alloc o) (Got C (w.alloc o) (rev false (pVal f c) 10 11 f (t :: r)) (fun ok w' rows sl=>SlA ok w' 20 (fun v r=>ValE ok w' r v) sl rows)) from fun o=>by
  cases c
  ·exact rev_walk (by simp) (pvv_item hV) (h.alloc o) false 10 11 (by decide) (by decide) f hf hne
  ·exact rev_walk (by simp) (pcv_item hV) (h.alloc o) false 10 11 (by decide) (by decide) f hf hne)
 clear h hV hf
 cases e_:rev false (pVal f c) 10 11 f (t :: r) with
 | out=>exact absurd e_ hne
 | bad =>
   rw [e_] at CR
   simp only [O.bind_bad]
   clear e_ hne
   cases c
   all_goals
    simp only [reduceIte,Bool.false_eq_true] at CR
    go_enter Tryz.func107,Tryz.ntmps107
    go_wp2_with (first
     | (go_at_call 49;(with_reducible refine (CR.out _).mono ?_);rintro e w2 ⟨hF,hP,v_,te,x,rfl⟩;have HF:=mkA (((Fr.refl C.gp C.gc w).alloc (.cells #[] 77)).trans hF);have HP:=mkA hP;clear hF hP))
    go_ret2
    exact ⟨HF.out,HP.out,_,te,x,rfl⟩
 | ok a_ =>
   obtain ⟨rows,l1⟩:=a_
   rw [e_] at CR
   simp only [O.bind_ok]
   clear e_ hne
   cases c
   all_goals
    simp only [reduceIte,Bool.false_eq_true] at CR
    go_enter Tryz.func107,Tryz.ntmps107
    go_wp2_with (first
     | (go_at_call 49;(with_reducible refine (CR.out _).mono ?_);rintro e w2 ⟨hF,sl,u1,r1,hl_,hP,⟨n,xs,hn,hO,hM⟩,rfl⟩;subst hl_;have HF:=mkA (((Fr.refl C.gp C.gc w).alloc (.cells #[] 77)).trans hF);have HP:=mkA hP;have HO:=mkA hO;have HM:=mkA hM;have HN:=mkA hn;have HV:=mkA (hF.blk (heap_alloc_new w (.cells #[] 77)) (by have:=LOW.out;have:=OK.out.pl;omega) (by have:=LOW.out;have:=OK.out.pl;have:=OK.out.cp;omega));obtain ⟨hxn,hsh⟩:=own_shape hO;have HXN:=mkA hxn;clear hF hP hO hM hn hxn;have hsh2:∃ (A:Option Addr) (cp:Nat),sl=.slice A n cp:=(by rcases hsh with ⟨e1,e2⟩ | ⟨g1,cp,e1,_⟩;exact ⟨none,0,by rw [e1,e2]⟩;exact ⟨_,cp,e1⟩);have HSH:=mkA hsh;clear hsh;obtain ⟨A,cp,rfl⟩:=hsh2))
    go_loopw [8,31] (fun v8 v31 wr=>∃ (j:Nat) (ys:List Value) (ra rb:List Row),v31=.int .i64 j∧Aside0 (j≤n)∧Aside0 (wr.ownsRow w.heap.size 77 1 v8 ys.length ys)∧Aside0 (ys.length=j)∧Aside0 (Many (fun v r=>ValE (okl (w.heap.size+1) v8) wr r v) ys ra)∧Aside0 (Many (fun v r=>ValE (okl (w.heap.size+1) v8) wr r v) (xs.drop j) rb)∧Aside0 (ra++rb=rows)∧Aside0 (Own (okl (w.heap.size+1) v8) wr 20 (.slice A n cp) n xs)∧Aside0 (FrC C w wr)∧Aside0 (PS C wr u1 r1)) (fun _ v31 _=>n - (intOf v31).toNat)
    case atStart =>
     have hst:Keeps (from_ (w.alloc (.cells #[] 77)).heap.size) (okl (w.heap.size+1) (.slice (some ⟨w.heap.size,0,none⟩) 0 0)) w2 w2:=fun g o h1 h2=>⟨⟨by have h3:(w.alloc (.cells #[] 77)).heap.size≤g:=h1;rw [World.size_alloc] at h3;exact h3,fun e=>by have h3:(w.alloc (.cells #[] 77)).heap.size≤g:=h1;rw [World.size_alloc] at h3;simp [Value.ownBlock] at e;omega⟩,h2⟩
     exact ⟨0,[],[],rows,rfl,⟨Nat.zero_le _⟩,⟨rfl,.inr ⟨w.heap.size,0,#[],rfl,Nat.le_refl _,HV.out,Nat.le_refl _,Nat.zero_le _,rfl,rfl⟩⟩,⟨rfl⟩,⟨.nil⟩,⟨by rw [List.drop_zero];exact HM.out.mono (fun v r h=>h.fr hst)⟩,⟨rfl⟩,⟨HO.out.fr hst⟩,HF,HP⟩
    case round =>
     obtain ⟨j,ys,ra,rb,rfl,HJ,HOv,HYL,HMa,HMb,HRR,HOs,HBr,HPr⟩:=hrel
     by_cases hlt:j < n
     ·have HLT:=mkA hlt
      obtain ⟨x,hx⟩:∃ x,xs[j]?=some x:=⟨_,List.getElem?_eq_getElem (by rw [HXN.out];exact hlt)⟩
      have hd:xs.drop j=x :: xs.drop (j+1):=by
       obtain ⟨h1,h2⟩:=List.getElem?_eq_some_iff.1 hx
       rw [List.drop_eq_getElem_cons h1,h2]
      have hmb:=HMb.out
      rw [hd] at hmb
      obtain ⟨a,b,rfl,hq,hmb2⟩:=many_cons hmb
      have HMb2:=mkA hmb2
      clear hd hmb hmb2 HMb
      have hA:∃ g1:Nat,A=some ⟨g1,0,none⟩:=by
       rcases HSH.out with ⟨_,e⟩ | ⟨g1,cp1,e,_⟩
       ·omega
       ·injection e with e1 e2 e3;exact ⟨g1,e1⟩
      obtain ⟨g1,rfl⟩:=hA
      have hrd:=own_read HOs.out hx
      have HX:=mkA hx
      clear hx
      obtain ⟨te,gy,rfl,hte⟩:=hq.shape2
      have hq2:=hq
      have hta:=fun w=>ta_val hte (ptr gy) w
      clear hte hq
      have HQ:=mkA hq2
      have q0:(j < n)=True:=eq_true hlt
      have hnn:n≤1000000:=HN.out
      have HNW:=mkA (show wrap64 ((j:Int)+1)=((j+1:Nat):Int) from (w64 (by omega) (by omega)).trans (by omega))
      clear hlt hnn hq2
      go_wp2_with (first
       | (at_builtin;refine print_append (w0:=wr) w.heap.size rfl (.tmp 35) (.tmp 38) 142 77 .nilIface 16 rfl Tryz.underlying142 info77' rfl (by decide) u8 ys (.iface te (ptr gy)) rfl rfl rfl HOv.out (Below.refl _ _) HBr.out.size (by have:=HYL.out;have:=HLT.out;have:=HN.out;omega) ?_;intro v6 w6 ho hb hg hat;have HO6:=mkA ho;have HG6:=mkA hg;have HA6:=mkA hat;clear ho hb hg hat))
      go_roundw
      case rel =>
       have hK:=okl_keeps (n:=w.heap.size+1) HG6.out HA6.out
       exact ⟨j+1,ys++[(.iface te (ptr gy))],ra++a,b,congrArg (Value.int .i64) HNW.out,⟨HLT.out⟩,HO6,⟨by rw [List.length_append,HYL.out];rfl⟩,⟨Many.snoc (HMa.out.mono (fun v r h=>h.fr hK)) (by have h:=HQ.out;exact h.fr hK)⟩,⟨HMb2.out.mono (fun v r h=>h.fr hK)⟩,⟨by rw [← HRR.out,List.append_assoc]⟩,⟨HOs.out.fr hK⟩,⟨fr_grown HBr.out HG6.out (fun b hb=>(own_lt HOv.out hb).2)⟩,⟨ps_grown HPr.out HG6.out (fun b hb=>Nat.le_trans LOW.out (own_lt HOv.out hb).2)⟩⟩
      case measure=>exact msr_up2 n j HLT.out HN.out
     ·have q0:(j < n)=False:=eq_false hlt
      have hjn:j=n:=by have:=HJ.out;omega
      have hra:ra=rows:=by
       have h1:=HMb.out
       rw [hjn,← HXN.out,List.drop_length] at h1
       cases h1
       rw [← HRR.out,List.append_nil]
      have HRA:=mkA hra
      have HSL:=mkA (show SlA (from_ w.heap.size) wr 77 (fun v r=>ValE (from_ w.heap.size) wr r v) u8 ra from ⟨ys.length,ys,by have:=HYL.out;have:=HN.out;have:=HJ.out;omega,own_of HOv.out,HMa.out.mono (fun v r h=>(have hK:Keeps (okl (w.heap.size+1) u8) (from_ w.heap.size) wr wr:=(fun g o h1 h2=>⟨Nat.le_trans (Nat.le_succ _) h1.1,h2⟩);h.fr hK))⟩)
      obtain ⟨A8,cp8,h8⟩:∃ (A8:Option Addr) (cp8:Nat),u8=.slice A8 ys.length cp8:=by
       rcases (own_shape (own_of HOv.out)).2 with ⟨e1,e2⟩ | ⟨g8,cp8,e1,_⟩
       ·exact ⟨none,0,by rw [e1,e2]⟩
       ·exact ⟨_,cp8,e1⟩
      subst h8
      clear hlt hjn hra
      go_wp2_with (first
       | (go_at_call 59;(with_reducible refine (loc_ps HPr.out _).mono ?_);rintro e wl ⟨⟨gl,rfl,hgl⟩,hBl⟩;have HL:=mkA hgl;have HBl:=mkA hBl;clear hgl hBl)
       | (go_at_call 139;(with_reducible refine (newListV (B:=wl.heap.size) (heap_alloc_new wl _) (Nat.le_refl _) (below_alloc (Below.refl wl.heap.size wl) _).size).mono ?_);rintro e w9 ⟨⟨g9,k9,rfl,q1,h91⟩,q4⟩;have HX:=mkA ((below_alloc (Below.refl wl.heap.size wl) _).trans q4);have HW:=mkA (below_step HBl.out HX.out);have H90:=mkA (Nat.le_trans (Nat.le_trans HBr.out.size HBl.out.size) q1);have H91:=mkA h91;clear q1 q4 h91))
      go_ret2
      have KX:=keeps_below (ok:=from_ wr.heap.size) (ok':=from_ w.heap.size) HX.out (fun g hg=>Nat.le_trans HBr.out.size hg)
      have KW:=keeps_below (ok:=from_ w.heap.size) HW.out (fun g hg=>hg)
      exact ⟨HBr.out.step HW.out,_,u1,r1,rfl,HPr.out.below HW.out,⟨g9,k9,_,_,rows,rfl,⟨H90.out,H91.out⟩,HL.out.fr KX,by rw [← HRA.out];exact HSL.out.fr KW (fun v r h=>h.fr KW),rfl⟩,rfl⟩
theorem info149':(Tryz.prog.info? 149).map (fun i=>(i.zero,i.size,i.bytes))=some (some (.pointer none),1,8):=by kernel_rfl
def ObjA (ok:Ok) (w:World) (rows:List Row) (p:Value):Prop:=∃ (g:Nat) (k:ByteArray) (l sl:Value) (r:List Row),p=ptr g∧At ok w g #[.string k,l,sl] 148∧LocA ok w l∧SlA ok w 149 (FldA ok w (fun v r=>ValE ok w r v)) sl r∧rows=nd 18 e0 e0 e0 0 r
theorem FldE.fr {ok ok':Ok} {w w':World} {r:List Row} {v:Value} (h:FldA ok w (fun v r=>ValE ok w r v) v r) (hf:Keeps ok ok' w w'):FldA ok' w' (fun v r=>ValE ok' w' r v) v r:=FldA.fr h hf (fun v r h=>h.fr hf)
theorem FldA.ptr {ok:Ok} {w:World} {X:Value→List Row→Prop} {v:Value} {r:List Row} (h:FldA ok w X v r):∃ g,v=R.ptr g:=by obtain ⟨g,_,_,_,_,_,_,h,_⟩:=h;exact ⟨g,h⟩
theorem many_step2 {X X':Value→List Row→Prop} {n:Nat} {w5 w6:World} {sl sl2 x:Value} {xs:List Value} {rows rw:List Row} (hm:Keeps (okl n sl) (okl n sl2) w5 w6→∀ v r,X v r→X' v r)
 (hM:Many X xs rows) (hq:X x rw) (hg:w5.grownBy w6 sl.ownBlock) (hat:sl2.ownBlock=sl.ownBlock∨∃ b,sl2.ownBlock=some b∧w5.heap.size≤b):Many X' (xs++[x]) (rows++rw) :=
 Many.snoc (hM.mono (hm (okl_keeps hg hat))) (hm (okl_keeps hg hat) _ _ hq)
theorem obj_walk {C:Cx} {f:Nat} {c:Bool} (hV0:ValSpec C f c) (hf:f≤1000000) {w:World} {t:Tk} {r:List Tk} (h:PS C w t r) (hne:rev false (pNV 19 (pVal f c)) 12 14 f (t :: r)≠.out):Calls Tryz.prog 108 #[ptr C.gp,.bool c] w (Got C w ((rev false (pNV 19 (pVal f c)) 12 14 f (t :: r)).bind fun x=>.ok (nd 18 e0 e0 e0 0 x.1,x.2)) ObjA):=by
 have HP:=mkA h
 have OK:=mkA h.ok
 have LOW:=mkA h.lo
 have hV:=mkA hV0
 have HB:=mkA (Fr.refl C.gp C.gc w)
 have HF:=mkA hf
 have c6:=h.cells.2.2.1
 obtain ⟨it,hit⟩:∃ it,it=pNV 19 (pVal f c):=⟨_,rfl⟩
 rw [← hit] at hne ⊢
 rw [rev_false] at hne ⊢
 have HIT:=mkA hit
 clear h hV0 hf hit
 cases e_:must 12 (t :: r) with
 | out=>rw [e_] at hne;exact absurd rfl hne
 | bad =>
   simp only [O.bind_bad]
   have E0:=mkA e_
   clear e_ hne
   go_enter Tryz.func108,Tryz.ntmps108
   go_wp2_with (first
    | (go_at_call 79;have c_:=expect_walk HP.out 12 (by decide);rw [E0.out] at c_;(with_reducible refine c_.mono ?_);rintro e w1 ⟨hF,hP,te,x,rfl⟩;replace HB:=mkA (HB.out.trans hF);have HP0:=mkA hP;clear hF hP)
    | ((with_reducible refine gate_dst (N:=7) rfl ?_);refine bxz ?hr ?_;(case hr=>first | (go_simp;done) | (go_simp;rfl));intro gt hg w2 hbox hb;have n0_:=mkA (HB.out.step hb);have GT:=mkA ((by rw [hg];exact HB.out.size:w.heap.size≤gt));have GT2:=mkA (show C.lo≤gt by rw [hg];exact Nat.le_trans HP.out.lo HB.out.size);have n1_:=mkA (HP0.out.below hb);have BT:=mkA hbox;have NP:=mkA (show gt≠C.gp from by have:=OK.out.pl;have:=OK.out.cp;have:=GT2.out;omega);clear HB HP0 hb hbox hg;have HB:=n0_;have HP0:=n1_;clear n0_ n1_;obtain ⟨tz0,tz1,tz2,tz3,tf0,tf1,tf2,tf3⟩:=tkz BT.out))
   go_ret2
   exact ⟨HB.out.p4 (.inr (.inr GT.out)),HP0.out.p4 NP.out,_,te,x,rfl⟩
 | ok l0 =>
   rw [e_] at hne
   simp only [O.bind_ok] at hne ⊢
   have E0:=mkA e_
   clear e_
   obtain ⟨RES,hR⟩:∃ RES,RES=many it 14 f l0:=⟨_,rfl⟩
   rw [← hR] at hne ⊢
   have HR:=mkA hR
   have HNE:=mkA hne
   clear hR hne
   go_enter Tryz.func108,Tryz.ntmps108
   go_wp2_with (first
    | (go_at_call 79;have c_:=expect_walk HP.out 12 (by decide);rw [E0.out] at c_;(with_reducible refine c_.mono ?_);rintro e w1 ⟨hF,u0,r0,hl_,hP,rfl⟩;subst hl_;replace HB:=mkA (HB.out.trans hF);have HP0:=mkA hP;clear hF hP E0)
    | ((with_reducible refine gate_dst (N:=7) rfl ?_);refine bxz ?hr ?_;(case hr=>first | (go_simp;done) | (go_simp;rfl));intro gt hg w2 hbox hb;have n0_:=mkA (HB.out.step hb);have GT:=mkA ((by rw [hg];exact HB.out.size:w.heap.size≤gt));have GT2:=mkA (show C.lo≤gt by rw [hg];exact Nat.le_trans HP.out.lo HB.out.size);have n1_:=mkA (HP0.out.below hb);have BT:=mkA hbox;have NP:=mkA (show gt≠C.gp from by have:=OK.out.pl;have:=OK.out.cp;have:=GT2.out;omega);clear HB HP0 hb hbox hg;have HB:=n0_;have HP0:=n1_;clear n0_ n1_;obtain ⟨tz0,tz1,tz2,tz3,tf0,tf1,tf2,tf3⟩:=tkz BT.out))
   obtain ⟨w3,hw3⟩:∃ w3,w3=(((w2.setCell ⟨gt,0,none⟩ (.int .i64 t.k)).setCell ⟨gt,1,none⟩ (.int .i64 t.a)).setCell ⟨gt,2,none⟩ (.int .i64 t.z)).setCell ⟨gt,3,none⟩ (.string t.v):=⟨_,rfl⟩
   have n0_:=mkA (show FrC C w w3 by rw [hw3];exact HB.out.p4 (.inr (.inr GT.out)))
   have n2_:=mkA (show PS C w3 u0 r0 by rw [hw3];exact HP0.out.p4 GT2.out)
   go_simp
   have hsz:((((w2.setCell ⟨gt,0,none⟩ (.int .i64 t.k)).setCell ⟨gt,1,none⟩ (.int .i64 t.a)).setCell ⟨gt,2,none⟩ (.int .i64 t.z)).setCell ⟨gt,3,none⟩ (.string t.v)).heap.size=w2.heap.size:=by simp
   have HSZ:=mkA (show w3.heap.size=w2.heap.size by rw [hw3];exact hsz)
   clear hsz
   rw [← hw3]
   clear HB BT HP0 hw3 tz0 tz1 tz2 tz3 tf0 tf1 tf2 tf3
   have HB:=n0_;have HP0:=n2_
   clear n0_ n2_
   go_loopg [9] f (fun gk v9 wr=>∃ (xs:List Value) (rows:List Row) (t':Tk) (r':List Tk),Aside0 (wr.ownsRow w.heap.size 149 1 v9 xs.length xs)∧Aside0 (Many (FldA (okl w.heap.size v9) wr (fun v r=>ValE (okl w.heap.size v9) wr r v)) xs rows)∧Aside0 (PS C wr t' r')∧Aside0 (RES=(many it 14 gk (t' :: r')).bind fun y=>.ok (rows++y.1,y.2))∧Aside0 (FrC C w wr)∧Aside0 (xs.length+gk≤f))
   case atStart=>exact ⟨[],[],u0,r0,⟨rfl,.inr ⟨w2.heap.size,0,#[],rfl,by have:=HB.out.size;have:=HSZ.out;omega,by rw [← HSZ.out];exact heap_alloc_new w3 _,Nat.le_refl _,Nat.zero_le _,rfl,rfl⟩⟩,⟨.nil⟩,⟨HP0.out.alloc _⟩,⟨by rw [HR.out];cases many it 14 f (u0 :: r0) <;> rfl⟩,⟨HB.out.alloc _⟩,⟨by simp⟩⟩
   case round =>
    obtain ⟨xs,rows,t',r',HO,HM,HPr,HRr,HBr,HN⟩:=hrel
    clear HB HP0
    cases gk with
    | zero=>exact absurd HRr.out (fun e=>HNE.out (by rw [e];rfl))
    | succ k1 =>
      by_cases hkc:t'.k=14
      ·have hb:(t'.k == 14)=true:=beq_iff_eq.2 hkc
       have ht:t'.k≠1:=by rw [hkc];decide
       have CS:=mkA (skip_yes HPr.out 14 hb ht)
       have hr:=HRr.out
       have e2:many it 14 (k1+1) (t' :: r')=(adv (t' :: r')).bind fun r=>.ok ([],r):=by show (if hk (t' :: r')=14 then _ else _)=_;rw [if_pos (by exact hkc)]
       rw [e2] at hr
       clear HRr e2
       cases r' with
       | nil =>
         rw [adv_nil ht] at hr
         have hR1:RES=O.bad:=hr
         clear hr hb ht hkc
         subst hR1
         go_wp2_with (first
          | (go_at_call 80;(with_reducible refine CS.out.mono ?_);rintro e w4 ⟨hF,hP,te,x,rfl⟩;have HB4:=mkA (HBr.out.trans hF);have HP4:=mkA hP;clear hF hP))
         go_ret2
         exact ⟨HB4.out,HP4.out,_,te,x,rfl⟩
       | cons u5 r5 =>
         rw [adv_cons ht] at hr
         have hR1:RES=O.ok (rows,u5 :: r5):=by rw [hr];simp
         clear hr hb ht hkc
         subst hR1
         have hsl:∃ (A:Option Addr) (cp:Nat),u9=.slice A xs.length cp:=by
          obtain ⟨_,⟨rfl,h0⟩ | ⟨g9,cap,cur,rfl,_⟩⟩:=HO.out
          ·exact ⟨none,0,by rw [h0]⟩
          ·exact ⟨_,cap,rfl⟩
         obtain ⟨A,cp,rfl⟩:=hsl
         go_wp2_with (first
          | (go_at_call 80;(with_reducible refine CS.out.mono ?_);rintro e w4 ⟨hF,hP,rfl⟩;have HB4:=mkA (HBr.out.trans hF);have HP4:=mkA hP;have HF4:=mkA hF;clear hF hP)
          | (go_at_call 59;(with_reducible refine (loc_ps HP4.out _).mono ?_);rintro e wl ⟨⟨gl,rfl,hgl⟩,hBl⟩;have HL:=mkA hgl;have HBl:=mkA hBl;clear hgl hBl)
          | (go_at_call 141;(with_reducible refine (newObj (B:=wl.heap.size) (heap_alloc_new wl _) (Nat.le_refl _) (below_alloc (Below.refl wl.heap.size wl) _).size).mono ?_);rintro e w9 ⟨⟨g9,k9,rfl,q1,h91⟩,q4⟩;have HX:=mkA ((below_alloc (Below.refl wl.heap.size wl) _).trans q4);have HW:=mkA (below_step HBl.out HX.out);have H90:=mkA (Nat.le_trans (Nat.le_trans HB4.out.size HBl.out.size) q1);have H91:=mkA h91;clear q1 q4 h91))
         go_ret2
         have KX:=keeps_below (ok:=from_ w4.heap.size) (ok':=from_ w.heap.size) HX.out (fun g hg=>Nat.le_trans HB4.out.size hg)
         have KW:=keeps_below (ok:=from_ w.heap.size) HW.out (fun g hg=>hg)
         have HS4:SlA (from_ w.heap.size) w4 149 (FldA (from_ w.heap.size) w4 (fun v r=>ValE (from_ w.heap.size) w4 r v)) (.slice A xs.length cp) rows:=⟨xs.length,xs,by have:=HN.out;have:=HF.out;omega,own_of (own_keep HO.out (fun g o hg hh=>HF4.out.blk hh (by have:=LOW.out;have:=OK.out.pl;omega) (by have:=LOW.out;have:=OK.out.pl;have:=OK.out.cp;omega))),HM.out.mono (fun v r h=>FldE.fr h (show Keeps (okl w.heap.size _) (from_ w.heap.size) _ w4 from fun g o h1 h2=>⟨h1.1,HF4.out.blk h2 (by have:=LOW.out;have:=OK.out.pl;have:=h1.1;omega) (by have:=LOW.out;have:=OK.out.pl;have:=OK.out.cp;have:=h1.1;omega)⟩))⟩
         exact ⟨HB4.out.step HW.out,_,u5,r5,rfl,HP4.out.below HW.out,⟨g9,k9,_,_,rows,rfl,⟨H90.out,H91.out⟩,HL.out.fr KX,HS4.fr KW (fun v r h=>FldE.fr h KW),rfl⟩,rfl⟩
      ·have hb:(t'.k == 14)=false:=beq_eq_false_iff_ne.2 hkc
       have CS:=mkA (skip_no HPr.out 14 hb)
       have hr:=HRr.out
       have e2:many it 14 (k1+1) (t' :: r')=(it (t' :: r')).bind fun x=>(many it 14 k1 x.2).bind fun y=>.ok (x.1++y.1,y.2):=by show (if hk (t' :: r')=14 then _ else _)=_;rw [if_neg (by exact hkc)]
       rw [e2] at hr
       clear HRr e2 hb hkc
       cases e_:it (t' :: r') with
       | out=>rw [e_] at hr;exact absurd hr HNE.out
       | bad =>
         rw [e_] at hr
         have E1:=mkA (show pNV 19 (pVal f c) (t' :: r')=O.bad by rw [← HIT.out];exact e_)
         have hR1:RES=O.bad:=hr
         clear e_ hr
         subst hR1
         go_wp2_with (first
          | (go_at_call 80;(with_reducible refine CS.out.mono ?_);rintro e w4 ⟨rfl,rfl⟩)
          | (go_at_call 140;have c_:=objField_walk hV.out HPr.out (by rw [E1.out];exact fun e=>by cases e);rw [E1.out] at c_;(with_reducible refine c_.mono ?_);rintro e w5 ⟨hF,hP,v_,te,x,rfl⟩;have HB5:=mkA (HBr.out.trans hF);have HP5:=mkA hP;clear hF hP))
         go_ret2
         exact ⟨HB5.out,HP5.out,_,te,x,rfl⟩
       | ok a_ =>
         obtain ⟨rw_,l2⟩:=a_
         rw [e_] at hr
         simp only [O.bind_ok] at hr
         have E1:=mkA (show pNV 19 (pVal f c) (t' :: r')=O.ok (rw_,l2) by rw [← HIT.out];exact e_)
         have HR1:=mkA hr
         clear e_ hr
         go_wp2_with (first
          | (go_at_call 80;(with_reducible refine CS.out.mono ?_);rintro e w4 ⟨rfl,rfl⟩)
          | (go_at_call 140;have c_:=objField_walk hV.out HPr.out (by rw [E1.out];exact fun e=>by cases e);rw [E1.out] at c_;(with_reducible refine c_.mono ?_);rintro e w5 ⟨hF,v5,u5,r5,hl_,hP,hQ,rfl⟩;subst hl_;obtain ⟨gx,rfl⟩:=hQ.ptr;have HB5:=mkA (HBr.out.trans hF);have HP5:=mkA hP;have HO5:=mkA (own_keep HO.out (fun g o hg hh=>hF.blk hh (by have:=LOW.out;have:=OK.out.pl;omega) (by have:=LOW.out;have:=OK.out.pl;have:=OK.out.cp;omega)));have HM5:=mkA (HM.out.mono (fun v r h=>FldE.fr h (show Keeps (okl w.heap.size u9) (okl w.heap.size u9) _ w5 from fun g o h1 h2=>⟨h1,hF.blk h2 (by have:=LOW.out;have:=OK.out.pl;have:=h1.1;omega) (by have:=LOW.out;have:=OK.out.pl;have:=OK.out.cp;have:=h1.1;omega)⟩)));have HN5:=mkA (FldE.fr hQ (show Keeps (from_ wr.heap.size) (okl w.heap.size u9) w5 w5 from fun g o h1 h2=>⟨⟨Nat.le_trans HBr.out.size h1,fun e=>by have:=(own_lt HO.out e.symm).1;have:wr.heap.size≤g:=h1;omega⟩,h2⟩));clear hF hP hQ)
          | (at_builtin;refine print_append (w0:=w5) w.heap.size rfl (.tmp 46) (.tmp 48) 146 149 (.pointer none) 8 rfl Tryz.underlying146 info149' rfl (by decide) u9 xs (ptr gx) rfl rfl rfl HO5.out (Below.refl _ _) HB5.out.size (by have:=HN.out;have:=HF.out;omega) ?_;intro v6 w6 ho hb hg hat;have HO6:=mkA ho;have HG6:=mkA hg;have HA6:=mkA hat;clear ho hb hg hat))
         go_roundg k1
         case measure=>omega
         case rel=>exact ⟨xs++[ptr gx],rows++rw_,u5,r5,HO6,⟨many_step2 (fun hK v r h=>FldE.fr h hK) HM5.out HN5.out HG6.out HA6.out⟩,⟨ps_grown HP5.out HG6.out (fun b hb=>Nat.le_trans LOW.out (own_lt HO5.out hb).2)⟩,⟨by rw [HR1.out];cases many it 14 k1 (u5 :: r5) with | out=>rfl | bad=>rfl | ok a=>simp⟩,⟨fr_grown HB5.out HG6.out (fun b hb=>(own_lt HO5.out hb).2)⟩,⟨by have:=HN.out;simp;omega⟩⟩
def StrA (ok:Ok) (w:World) (p:Value) (v:ByteArray):Prop:=∃ (g:Nat) (k:ByteArray) (l:Value),p=ptr g∧At ok w g #[.string k,l,.string v] 135∧LocA ok w l
theorem strLit_walk {C:Cx} {w:World} {t:Tk} {r:List Tk} (h:PS C w t r) (ht:t.k≠1):Calls Tryz.prog 111 #[ptr C.gp] w (Got C w ((adv (t :: r)).bind fun l=>.ok (t.v,l)) (fun ok w' v p=>StrA ok w' p v)):=by
 have HP:=mkA h
 have OK:=mkA h.ok
 have LOW:=mkA h.lo
 have HB:=mkA (Fr.refl C.gp C.gc w)
 have HTK:=mkA ht
 obtain ⟨c1,c5,c6,c7,c8⟩:=h.cells
 clear h
 cases r with
 | nil =>
   rw [adv_nil ht]
   simp only [O.bind_bad]
   clear ht
   go_enter Tryz.func111,Tryz.ntmps111
   go_upto_region 2 with (first
    | ((with_reducible refine gate_dst (N:=4) rfl ?_);refine bxz ?hr ?_;(case hr=>first | (go_simp;done) | (go_simp;rfl));intro gt hg w2 hbox hb;obtain ⟨n0_,GT,GT2,n1_,BT,NP,tz0,tz1,tz2,tz3,tf0,tf1,tf2,tf3⟩:=tkb OK.out HB.out HP.out hg hbox hb;clear HB hb hbox hg c1 c5 c6 c7 c8;have HB:=n0_;have HP2:=n1_;clear n0_ n1_))
   obtain ⟨w3,hw3,n0_,n1_,n2_,sx0,sx1,sx2,sx3⟩:=tk3 HB.out GT.out BT.out HP2.out GT2.out
   rw [← hw3]
   clear HB BT HP2 hw3 tz0 tz1 tz2 tz3 tf0 tf1 tf2 tf3
   have HB:=n0_;have BT:=n1_;have HP2:=n2_
   clear n0_ n1_ n2_
   have CA:=mkA (advance_walk HP2.out HTK.out)
   go_wp2_with (first
    | (go_at_call 100;(with_reducible refine CA.out.mono ?_);rintro e w4 ⟨hF,hP,te,x,rfl⟩;replace HB:=mkA (HB.out.trans hF);have HQ:=mkA hP;clear hF hP))
   go_ret2
   exact ⟨HB.out,HQ.out,_,te,x,rfl⟩
 | cons u r =>
   rw [adv_cons ht]
   simp only [O.bind_ok]
   clear ht
   go_enter Tryz.func111,Tryz.ntmps111
   go_upto_region 2 with (first
    | ((with_reducible refine gate_dst (N:=4) rfl ?_);refine bxz ?hr ?_;(case hr=>first | (go_simp;done) | (go_simp;rfl));intro gt hg w2 hbox hb;obtain ⟨n0_,GT,GT2,n1_,BT,NP,tz0,tz1,tz2,tz3,tf0,tf1,tf2,tf3⟩:=tkb OK.out HB.out HP.out hg hbox hb;clear HB hb hbox hg c1 c5 c6 c7 c8;have HB:=n0_;have HP2:=n1_;clear n0_ n1_))
   obtain ⟨w3,hw3,n0_,n1_,n2_,sx0,sx1,sx2,sx3⟩:=tk3 HB.out GT.out BT.out HP2.out GT2.out
   rw [← hw3]
   clear HB BT HP2 hw3 tz0 tz1 tz2 tz3 tf0 tf1 tf2 tf3
   have HB:=n0_;have BT:=n1_;have HP2:=n2_
   clear n0_ n1_ n2_
   have CA:=mkA (advance_walk HP2.out HTK.out)
   go_upto_region 5 with (first
    | (go_at_call 100;(with_reducible refine CA.out.mono ?_);rintro e w4 ⟨hF,hP,rfl⟩;replace HB:=mkA (HB.out.trans hF);have HQ:=mkA hP;have BT4:=mkA (hF.blk BT.out NP.out.1 NP.out.2);clear hF hP))
   have sx0:w4.cell? ⟨gt,3,none⟩=some (.string t.v):=(blk_cell BT4.out 3).trans rfl
   have sx1:w4.cell? ⟨gt,1,none⟩=some (.int .i64 t.a):=(blk_cell BT4.out 1).trans rfl
   have K0:∀ u,Below w4.heap.size w4 u→(u.cell? ⟨gt,3,none⟩=some (.string t.v)∧u.cell? ⟨gt,1,none⟩=some (.int .i64 t.a))∧Below w4.heap.size w4 u:=fun u hu=>⟨⟨(hu.cell (World.block_lt_of_cell? _ _ sx0)).trans sx0,(hu.cell (World.block_lt_of_cell? _ _ sx1)).trans sx1⟩,hu⟩
   have cL:=mkA (fun (u:World) (hu:Below w4.heap.size w4 u) (a:Int)=>(show Calls Tryz.prog 59 #[ptr C.gp,.int .i64 a] u fun e w'=>(∃ g':Nat,e=.returned (ptr g')∧LocA (from_ w4.heap.size) w' (ptr g'))∧Below w4.heap.size w4 w' from (loc_ps (HQ.out.below hu) a).mono fun e w' q=>by obtain ⟨⟨g',q1,q2⟩,q3⟩:=q;exact ⟨⟨g',q1,q2.fr (keeps_weak hu.size)⟩,below_step hu q3⟩))
   have LO:=mkA (show w.heap.size≤w4.heap.size from HB.out.size)
   go_region_held3 (fun u=>(u.cell? ⟨gt,3,none⟩=some (.string t.v)∧u.cell? ⟨gt,1,none⟩=some (.int .i64 t.a))∧Below w4.heap.size w4 u) (first | exact K0 _ (Below.refl _ _) | exact K0 _ (below_drew1 (Below.refl _ _)) | exact K0 _ (below_drew1 (below_alloc (Below.refl _ _) _)) | exact hS9 | exact hS5 | exact hS6 | fail) (first
    | (go_at_call 59;refine (cL.out _ ?_ _).mono ?_;(first | exact below_drew1 (Below.refl _ _) | exact Below.refl _ _);rintro e w5 ⟨⟨gl,rfl,hgl⟩,hW5⟩;have hS5:=K0 _ hW5;have hS6:=K0 _ (below_alloc hW5 (.cells #[.string ⟨#[]⟩,ptr gl,.string t.v] 135));have cN:=(show Calls Tryz.prog 142 #[ptr w5.heap.size] (w5.alloc (.cells #[.string ⟨#[]⟩,ptr gl,.string t.v] 135)) fun e w'=>∃ (g9:Nat) (k9:ByteArray),e=.returned (ptr g9)∧w.heap.size≤g9∧w'.heap[g9]?=some (.cells #[.string k9,ptr gl,.string t.v] 135 (0,0))∧Below w5.heap.size w5 w' from (newStr (B:=w5.heap.size) (heap_alloc_new w5 _) (Nat.le_refl _) (below_alloc (Below.refl w5.heap.size w5) _).size).mono fun e w' q=>by obtain ⟨⟨g9,k9,q1,q2,q3⟩,q4⟩:=q;exact ⟨g9,k9,q1,Nat.le_trans (Nat.le_trans LO.out hW5.size) q2,q3,(below_alloc (Below.refl w5.heap.size w5) _).trans q4⟩))
    | (go_at_call 142;refine cN.mono ?_;rintro e w9 ⟨g9,k9,rfl,h90,h91,hX⟩;have hW9:=below_step hW5 hX;have hS9:=K0 _ hW9)
    | fail)
   go_wp2
   go_ret2
   have KX:=keeps_below (ok:=from_ w4.heap.size) (ok':=from_ w.heap.size) hX (fun g hg=>Nat.le_trans HB.out.size hg)
   exact ⟨HB.out.step hW9,_,_,_,rfl,HQ.out.below hW9,⟨g9,k9,_,rfl,⟨h90,h91⟩,hgl.fr KX⟩,rfl⟩
end Go.Proofs.YthgcghpcikbnkaaGreatDoor.R
