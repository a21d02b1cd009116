/- A part of the proof of the theorem of this claim: Sbd, Spt, Spv, Spw. No condition of its own. -/
import Derived.Test.YthgcghpcikbnkaaGreatDoorB3
set_option maxHeartbeats 16000000
set_option maxRecDepth 100000
namespace Go.Proofs.YthgcghpcikbnkaaGreatDoor.R
open Go.RowKit Go.Proofs.YthgcghpcikbnkaaGreatDoorW.PrintWords Go.Proofs.YthgcghpcikbnkaaGreatDoorW.PrintLast Go.Proofs.YthgcghpcikbnkaaGreatDoorW.PrintMore
set_option linter.unusedVariables false
set_option linter.unusedSimpArgs false
def Pt (s:St):Nat:=s.a+(if s.bad=true then 1 else 0)
theorem pt_n {s:St} (h:s.bad=false):Pt s=s.a:=by unfold Pt;rw [if_neg (by rw [h];decide)];rfl
theorem pt_unk (s:St) (b:Bool):Pt (s.unk b)=Pt s:=rfl
theorem pt_leave (s:St):Pt (leaveF s)=Pt s:=rfl
theorem pt_enter (s:St):Pt s≤Pt (enterF s):=by
 unfold enterF
 split
 ·have h1:Pt (⟨s.a,wrap64 (s.d+1),true,true⟩:St)=s.a+1:=rfl
  unfold Pt at *
  split <;> omega
 ·exact Nat.le_refl _
theorem pt_taken {L:List Tk} {k:Int} {s t:St} {b:Bool} (h:takenF L k s=(b,t)):(b=true∧Pt t=Pt s+1∧s.bad=false∧t.bad=false)∨(b=false∧t=s):=by
 unfold takenF at h
 split at h
 ·rename_i hc
  injection h with h1 h2
  refine .inl ⟨h1.symm,?_,hc.1,?_⟩
  ·rw [← h2,pt_n hc.1,pt_n (show s.nx.bad=false from hc.1)];rfl
  ·rw [← h2];exact hc.1
 ·injection h with h1 h2
  exact .inr ⟨h1.symm,h2.symm⟩
theorem pt_must {L:List Tk} (k:Int) (s:St):Pt s≤Pt (mustF L k s)∧(s.bad=false→Pt s+1≤Pt (mustF L k s)):=by
 unfold mustF
 split
 ·rename_i hc
  rw [pt_n hc.1,pt_n (show s.nx.bad=false from hc.1)]
  exact ⟨Nat.le_succ _,fun _=>Nat.le_refl _⟩
 ·have h1:Pt s.fail=s.a+1:=rfl
  rw [h1]
  unfold Pt
  refine ⟨by split <;> omega,fun h=>?_⟩
  rw [if_neg (by rw [h];decide)];omega
theorem pt_name {L:List Tk} (s:St):Pt s≤Pt (nameF L s).2∧(s.bad=false→Pt s+1≤Pt (nameF L s).2):=by
 unfold nameF
 split
 ·rename_i hc
  show Pt s≤Pt s.nx∧(_→Pt s+1≤Pt s.nx)
  rw [pt_n hc.1,pt_n (show s.nx.bad=false from hc.1)]
  exact ⟨Nat.le_succ _,fun _=>Nat.le_refl _⟩
 ·have h1:Pt s.fail=s.a+1:=rfl
  show Pt s≤Pt s.fail∧(_→Pt s+1≤Pt s.fail)
  rw [h1]
  unfold Pt
  refine ⟨by split <;> omega,fun h=>?_⟩
  rw [if_neg (by rw [h];decide)];omega
theorem pt_some {L:List Tk} (k:Int) (s:St):Pt s≤Pt (someF L k s):=by
 unfold someF
 split
 ·rename_i hc
  have h1:Pt (⟨s.a - 1,s.d,true,s.un⟩:St)=s.a - 1+1:=rfl
  rw [h1,pt_n hc.1];omega
 ·exact Nat.le_refl _
def Px (s:St) (x:RS):Prop:=x.1.length+Pt s≤Pt x.2
def Pa (F:St→Option RS):Prop:=∀ s x,F s=some x→Px s x
def Pi (F:St→Option RS):Prop:=∀ s x,s.bad=false→F s=some x→Px s x
theorem Pa.i {F:St→Option RS} (h:Pa F):Pi F:=fun s x _ e=>h s x e
theorem nd_ln (k:Int) (nm al tx:ByteArray) (fl:Int) (kids:List Row):(nd k nm al tx fl kids).length=kids.length+1:=rfl
theorem bind_some {α β:Type} {o:Option α} {f:α→Option β} {x:β} (h:o.bind f=some x):∃ a,o=some a∧f a=some x:=by
 cases o with
 | none=>cases h
 | some a=>exact ⟨a,rfl,h⟩
section
variable {L:List Tk}
theorem loop_p {item:St→Option RS} {cl:Int} (h:Pi item):∀ n,Pa (loopF L item cl n):=by
 intro n
 induction n with
 | zero=>intro s x e;cases e
 | succ n ih =>
   intro s x e
   unfold loopF at e
   split at e
   ·injection e with e;subst e;unfold Px;simp
   ·rename_i hb
    split at e
    ·rename_i s1 ht
     injection e with e;subst e
     rcases pt_taken ht with ⟨_,p1,_,_⟩ | ⟨p,_⟩
     ·unfold Px;simp only [List.length_nil];omega
     ·cases p
    ·rename_i s1 ht
     rcases pt_taken ht with ⟨p,_⟩ | ⟨_,p1⟩
     ·cases p
     ·subst p1
      obtain ⟨y,e1,e2⟩:=bind_some e
      obtain ⟨z,e3,e4⟩:=bind_some e2
      injection e4 with e4;subst e4
      have q1:=h _ _ (by simpa using hb) e1
      have q2:=ih _ _ e3
      unfold Px at *
      simp only [List.length_append]
      omega
theorem loop1_p {item:St→Option RS} {cl:Int} (h:Pi item) (n:Nat):Pa (loop1F L item cl n):=by
 intro s x e
 unfold loop1F at e
 split at e
 ·injection e with e;subst e;unfold Px;simp
 ·rename_i hb
  obtain ⟨y,e1,e2⟩:=bind_some e
  obtain ⟨z,e3,e4⟩:=bind_some e2
  injection e4 with e4;subst e4
  have q1:=h _ _ (by simpa using hb) e1
  have q2:=loop_p h _ _ _ e3
  unfold Px at *
  simp only [List.length_append]
  omega
theorem nv_p {k:Int} {rec:St→Option RS} (h:Pa rec):Pi (nvF L k rec):=by
 intro s x hb e
 unfold nvF at e
 obtain ⟨y,e1,e2⟩:=bind_some e
 injection e2 with e2;subst e2
 have q1:=h _ _ e1
 have q2:=(pt_name (L:=L) s).2 hb
 have q3:=(pt_must (L:=L) 7 (nameF L s).2).1
 unfold Px at *
 simp only [nd_ln]
 omega
theorem nx_p {s:St} (hb:s.bad=false):Pt s.nx=Pt s+1:=by rw [pt_n hb,pt_n (show s.nx.bad=false from hb)];rfl
theorem fail_p (s:St):Pt s≤Pt s.fail:=by
 have h1:Pt s.fail=s.a+1:=rfl
 rw [h1];unfold Pt;split <;> omega
theorem here_p {c:Bool} {rec:St→Option RS} (h:Pa rec) (n:Nat):Pi (hereF L c rec n):=by
 intro s x hb e
 have hn:=nx_p hb
 have hf:=fail_p s
 unfold hereF at e
 have LEAF:∀ (k:Int) (nm al tx:ByteArray) (fl:Int),Px s (nd k nm al tx fl [],s.nx):=fun k nm al tx fl=>by unfold Px;simp only [nd_ln,List.length_nil];omega
 have FAIL:Px s ([],s.fail):=by unfold Px;simpa using hf
 split at e
 ·injection e with e;subst e;exact FAIL
 split at e
 ·split at e
  ·injection e with e;subst e;exact FAIL
  ·injection e with e;subst e
   have q2:=(pt_name (L:=L) s.nx).1
   unfold Px
   simp only [nd_ln,List.length_nil]
   omega
 split at e
 ·injection e with e;subst e;exact LEAF _ _ _ _ _
 split at e
 ·injection e with e;subst e;exact LEAF _ _ _ _ _
 split at e
 ·injection e with e;subst e;exact LEAF _ _ _ _ _
 split at e
 ·injection e with e;subst e;exact LEAF _ _ _ _ _
 split at e
 ·split at e
  ·injection e with e;subst e;exact LEAF _ _ _ _ _
  split at e
  ·injection e with e;subst e;exact LEAF _ _ _ _ _
  split at e
  ·injection e with e;subst e
   have q:=fail_p (s.nx.unk true)
   rw [pt_unk] at q
   unfold Px
   simp only [List.length_nil]
   omega
  ·injection e with e;subst e;exact LEAF _ _ _ _ _
 split at e
 ·obtain ⟨y,e1,e2⟩:=bind_some e
  injection e2 with e2;subst e2
  have q:=loop_p h.i _ _ _ e1
  unfold Px at *
  simp only [nd_ln]
  omega
 split at e
 ·obtain ⟨y,e1,e2⟩:=bind_some e
  injection e2 with e2;subst e2
  have q:=loop_p (nv_p h) _ _ _ e1
  unfold Px at *
  simp only [nd_ln]
  omega
 ·injection e with e;subst e;exact FAIL
theorem value_p {c:Bool}:∀ f,Pa (valueF L c f):=by
 intro f
 induction f with
 | zero=>intro s x e;cases e
 | succ f ih =>
   intro s x e
   unfold valueF at e
   have p0:=pt_enter s
   split at e
   ·injection e with e;subst e;unfold Px;simpa using p0
   ·rename_i hb
    obtain ⟨y,e1,e2⟩:=bind_some e
    injection e2 with e2;subst e2
    have p1:=here_p ih _ _ _ (by simpa using hb) e1
    unfold Px at *
    simp only [pt_leave]
    omega
theorem args_p (f:Nat):Pa (argsF L f):=by
 intro s x e
 unfold argsF at e
 split at e
 ·rename_i s1 ht
  injection e with e;subst e
  rcases pt_taken ht with ⟨p,_⟩ | ⟨_,p1⟩
  ·cases p
  ·subst p1;unfold Px;simp
 ·rename_i s1 ht
  rcases pt_taken ht with ⟨_,p1,_,_⟩ | ⟨p,_⟩
  ·have q:=loop1_p (nv_p (value_p f)) _ _ _ e
   have q2:=pt_some (L:=L) 5 s1
   unfold Px at *
   omega
  ·cases p
theorem dirs_p (f:Nat):∀ n,Pa (dirsF L f n):=by
 intro n
 induction n with
 | zero=>intro s x e;cases e
 | succ n ih =>
   intro s x e
   unfold dirsF at e
   split at e
   ·injection e with e;subst e;unfold Px;simp
   ·rename_i hb
    split at e
    ·rename_i s1 ht
     injection e with e;subst e
     rcases pt_taken ht with ⟨p,_⟩ | ⟨_,p1⟩
     ·cases p
     ·subst p1;unfold Px;simp
    ·rename_i s1 ht
     rcases pt_taken ht with ⟨_,p1,_,_⟩ | ⟨p,_⟩
     ·obtain ⟨y,e1,e2⟩:=bind_some e
      obtain ⟨z,e3,e4⟩:=bind_some e2
      injection e4 with e4;subst e4
      have q1:=args_p f _ _ e1
      have q2:=ih _ _ e3
      have q3:=(pt_name (L:=L) s1).1
      unfold Px at *
      simp only [List.length_append,nd_ln]
      omega
     ·cases p
theorem set_p {sel:St→Option RS} (h:Pi sel) (n:Nat):Pa (setF L sel n):=by
 intro s x e
 unfold setF at e
 have p0:=pt_enter s
 split at e
 ·injection e with e;subst e;unfold Px;simpa using p0
 ·rename_i hb
  obtain ⟨y,e1,e2⟩:=bind_some e
  injection e2 with e2;subst e2
  have q1:=loop1_p h _ _ _ e1
  have q2:=pt_some (L:=L) 14 (mustF L 12 (enterF s))
  have q3:=(pt_must (L:=L) 12 (enterF s)).2 (by simpa using hb)
  unfold Px at *
  simp only [nd_ln,pt_leave]
  omega
theorem cond_p (s:St):Pt s≤Pt (condF L s).2:=by
 unfold condF
 split
 ·rename_i h
  have h2:=(pt_name (L:=L) s.nx).1
  have h3:Pt s≤Pt s.nx:=by unfold Pt St.nx;simp only;omega
  omega
 ·exact Nat.le_refl _
theorem alias_p {s:St} (hb:s.bad=false):Pt s+1≤Pt (aliasF L s).2:=by
 have h1:=(pt_name (L:=L) s).2 hb
 unfold aliasF
 split
 ·rename_i s2 ht
  rcases pt_taken ht with ⟨_,p1,_,_⟩ | ⟨p,_⟩
  ·have h2:=(pt_name (L:=L) s2).1
   show Pt s+1≤Pt (nameF L s2).2
   omega
  ·cases p
 ·rename_i s2 ht
  rcases pt_taken ht with ⟨p,_⟩ | ⟨_,p1⟩
  ·cases p
  ·subst p1;exact h1
theorem sub_p {sel:St→Option RS} (h:Pi sel) (n:Nat):Pa (subF L sel n):=by
 intro s x e
 unfold subF at e
 split at e
 ·exact set_p h n _ _ e
 ·injection e with e;subst e;unfold Px;simp
theorem sel_p:∀ f,Pi (selF L f):=by
 intro f
 induction f with
 | zero=>intro s x _ e;cases e
 | succ f ih =>
   intro s x hb e
   unfold selF at e
   split at e
   ·rename_i s1 ht
    rcases pt_taken ht with ⟨_,p1,_,_⟩ | ⟨p,_⟩
    ·split at e
     ·obtain ⟨y,e1,e2⟩:=bind_some e
      injection e2 with e2;subst e2
      have q1:=dirs_p f _ _ _ e1
      have q2:=(pt_name (L:=L) s1).1
      unfold Px at *
      simp only [nd_ln]
      omega
     ·obtain ⟨y,e1,e2⟩:=bind_some e
      obtain ⟨z,e3,e4⟩:=bind_some e2
      injection e4 with e4;subst e4
      have q1:=dirs_p f _ _ _ e1
      have q2:=cond_p (L:=L) (textF L s1)
      have q3:Pt (textF L s1)=Pt s1:=rfl
      have q4:=set_p ih _ _ _ e3
      unfold Px at *
      simp only [nd_ln,List.length_append]
      omega
    ·cases p
   ·rename_i s1 ht
    rcases pt_taken ht with ⟨p,_⟩ | ⟨_,p1⟩
    ·cases p
    ·subst p1
     obtain ⟨y,e1,e2⟩:=bind_some e
     obtain ⟨d,e3,e4⟩:=bind_some e2
     obtain ⟨z,e5,e6⟩:=bind_some e4
     injection e6 with e6;subst e6
     have q0:=alias_p (L:=L) hb
     have q1:=args_p f _ _ e1
     have q2:=dirs_p f _ _ _ e3
     have q3:=sub_p ih _ _ _ e5
     unfold Px at *
     simp only [nd_ln,List.length_append]
     omega
end
section
variable {L tl:List Tk}
theorem unk_false (s:St):s.unk false=s:=by unfold St.unk;rw [Bool.or_false]
theorem unk_true (s:St):(s.unk true).un=true:=by show (s.un || true)=true;rw [Bool.or_true]
theorem nv_ok (T:Tl L tl) {F:St→Option RS} {p:List Tk→O (List Row × List Tk)} {m:Nat} (h:Gm L tl F p m) (k:Int):Gd L tl (nvF L k F) (pNV k p) m:=by
 intro s h1 h2
 have m1:=name_mn (L:=L) h1
 have m2:=m1.trans (must_mn 7 (by decide) m1.le)
 obtain ⟨x,x1,x2,x3⟩:=h _ m2.le (by have:=m2.up;omega)
 refine ⟨(nd k (nameF L s).1 e0 e0 0 x.1,x.2),by unfold nvF;rw [x1];rfl,m2.trans x2,(name_pg.mn (must_mn 7 (by decide) m1.le)).mn x2,fun l=>?_⟩
 unfold pNV
 refine rg_bind (name_rn T l) (y:=(nd k (nameF L s).1 e0 e0 0 x.1,x.2)) ((must_mn 7 (by decide) m1.le).trans x2) fun l1 d1=>?_
 rw [← d1]
 refine rs_bind (must_rs T 7 (by decide) l1) (y:=(nd k (nameF L s).1 e0 e0 0 x.1,x.2)) x2 fun l2 d2=>?_
 rw [← d2]
 exact rg_bind (x3 l2) (y:=(nd k (nameF L s).1 e0 e0 0 x.1,x.2)) (.refl x2.le) fun l3 d3=>rg_ok (x:=(nd k (nameF L s).1 e0 e0 0 x.1,x.2)) l3 d3 (ers_nd _ _ _ _ _ _ (.inr rfl)).symm
theorem enter_a (s:St):(enterF s).a=s.a:=by unfold enterF;split <;> rfl
end
section
variable {L tl:List Tk}
theorem one_rg (T:Tl L tl) {s:St} (l:Lv L tl s) (hk:kd L s≠1) {r:List Row} {x:List Row} (he:x=ers r):Rl L tl (one x (rem L tl s)) (r,s.nx) s.d:=by
 unfold one
 exact rs_bind (adv_rs T l hk) (y:=(r,s.nx)) (.refl (mn_nx (kd_lt hk)).le) fun l2 d2=>rg_ok (x:=(r,s.nx)) l2 d2 he
theorem here_ok (T:Tl L tl) (c:Bool) {rec:St→Option RS} {f:Nat} (h:Gd L tl rec (pVal f c) f) (s:St) (h1:s.a≤L.length) (h2:L.length - s.a < f):∃ x,hereF L c rec f s=some x∧Mn L s x.2∧Pg s x.2∧(Lv L tl s→Rl L tl (pVal (f+1) c (rem L tl s)) x s.d):=by
 unfold hereF
 have bad:∀ P:List Tk→O (List Row × List Tk),(Lv L tl s→P (rem L tl s)=.bad)→∃ x:RS,some (([]:List Row),s.fail)=some x∧Mn L s x.2∧Pg s x.2∧(Lv L tl s→Rl L tl (P (rem L tl s)) x s.d):=fun P hP=>⟨_,rfl,mn_fail h1,.inl rfl,fun l=>.inr (.inl ⟨.inl rfl,hP l⟩)⟩
 have one_:∀ (r x:List Row),kd L s≠1→(Lv L tl s→pVal (f+1) c (rem L tl s)=one x (rem L tl s))→x=ers r→∃ y:RS,some (r,s.nx)=some y∧Mn L s y.2∧Pg s y.2∧(Lv L tl s→Rl L tl (pVal (f+1) c (rem L tl s)) y s.d):=fun r x hk hp he=>⟨_,rfl,mn_nx (kd_lt hk),.inr (Nat.lt_succ_self _),fun l=>by rw [hp l];exact one_rg T l hk he⟩
 by_cases c0:L.length≤s.a
 ·rw [if_pos c0]
  refine bad _ fun l=>?_
  have hk:=(kd_end c0).1
  unfold pVal
  rw [(hk_rem T l).1,hk];rfl
 rw [if_neg c0]
 have hlt:s.a < L.length:=by omega
 by_cases c3:kd L s=3
 ·rw [if_pos c3]
  cases c with
  | true =>
    refine bad _ fun l=>?_
    unfold pVal
    rw [(hk_rem T l).1,c3];rfl
  | false =>
    refine ⟨_,rfl,(mn_nx hlt).trans (name_mn (mn_nx hlt).le),(Pg.mn (.inr (Nat.lt_succ_self _)) (name_mn (mn_nx hlt).le)),fun l=>?_⟩
    have e:pVal (f+1) false (rem L tl s)=(pVar (rem L tl s)).bind fun n=>.ok (nd 11 n.1 e0 e0 0 [],n.2):=by
     unfold pVal
     rw [(hk_rem T l).1,c3];rfl
    rw [e]
    unfold pVar must
    rw [(hk_rem T l).1,if_pos c3]
    have hb:∀ (o:O (List Tk)),((o.bind fun r=>pName r).bind fun n=>O.ok (nd 11 n.1 e0 e0 0 [],n.2))=o.bind fun r=>(pName r).bind fun n=>.ok (nd 11 n.1 e0 e0 0 [],n.2):=fun o=>by cases o <;> rfl
    rw [hb]
    refine rs_bind (adv_rs T l (by rw [c3];decide)) (y:=(nd 11 (nameF L s.nx).1 e0 e0 0 [],(nameF L s.nx).2)) (name_mn (mn_nx hlt).le) fun l2 d2=>?_
    rw [← d2]
    exact rg_bind (name_rn T l2) (y:=(nd 11 (nameF L s.nx).1 e0 e0 0 [],(nameF L s.nx).2)) (.refl (name_mn (mn_nx hlt).le).le) fun l3 d3=>rg_ok (x:=(nd 11 (nameF L s.nx).1 e0 e0 0 [],(nameF L s.nx).2)) l3 d3 rfl
 rw [if_neg c3]
 by_cases c16:kd L s=16
 ·rw [if_pos c16]
  exact one_ _ (nd 12 e0 e0 (vl L s) 0 []) (by rw [c16];decide) (fun l=>by unfold pVal;rw [(hk_rem T l).1,(hk_rem T l).2,c16];rfl) rfl
 rw [if_neg c16]
 by_cases c17:kd L s=17
 ·rw [if_pos c17]
  exact one_ _ (nd 13 e0 e0 (vl L s) 0 []) (by rw [c17];decide) (fun l=>by unfold pVal;rw [(hk_rem T l).1,(hk_rem T l).2,c17];rfl) rfl
 rw [if_neg c17]
 by_cases c18:kd L s=18
 ·rw [if_pos c18]
  exact one_ _ (nd 14 e0 e0 (vl L s) 0 []) (by rw [c18];decide) (fun l=>by unfold pVal;rw [(hk_rem T l).1,(hk_rem T l).2,c18];rfl) rfl
 rw [if_neg c18]
 by_cases c19:kd L s=19
 ·rw [if_pos c19]
  exact one_ _ (nd 14 e0 e0 (vl L s) 0 []) (by rw [c19];decide) (fun l=>by unfold pVal;rw [(hk_rem T l).1,(hk_rem T l).2,c19];rfl) rfl
 rw [if_neg c19]
 by_cases c15:kd L s=15
 ·rw [if_pos c15]
  have e:∀ l:Lv L tl s,pVal (f+1) c (rem L tl s)=(if vl L s=bTrue then one (nd 15 e0 e0 e0 1 []) (rem L tl s) else if vl L s=bFalse then one (nd 15 e0 e0 e0 0 []) (rem L tl s) else if vl L s=bNull then .bad else one (nd 16 (vl L s) e0 e0 0 []) (rem L tl s)):=fun l=>by
   unfold pVal;rw [(hk_rem T l).1,(hk_rem T l).2,c15];rfl
  have k1:kd L s≠1:=by rw [c15];decide
  by_cases v1:vl L s=bTrue
  ·rw [if_pos v1];exact one_ _ (nd 15 e0 e0 e0 1 []) k1 (fun l=>by rw [e l,if_pos v1]) rfl
  rw [if_neg v1]
  by_cases v2:vl L s=bFalse
  ·rw [if_pos v2];exact one_ _ (nd 15 e0 e0 e0 0 []) k1 (fun l=>by rw [e l,if_neg v1,if_pos v2]) rfl
  rw [if_neg v2]
  by_cases v3:vl L s=bNull
  ·rw [if_pos v3]
   exact ⟨_,rfl,(mn_nx hlt).trans ((mn_unk true (mn_nx hlt).le).trans (mn_fail (mn_nx hlt).le)),.inl rfl,fun l=>.inl (unk_true _)⟩
  rw [if_neg v3]
  exact one_ _ (nd 16 (vl L s) e0 e0 0 []) k1 (fun l=>by rw [e l,if_neg v1,if_neg v2,if_neg v3]) rfl
 rw [if_neg c15]
 have lp:∀ (item:St→Option RS) (p:List Tk→O (List Row × List Tk)) (k cl:Int),Gd L tl item p f→cl≠1→kd L s≠1→(Lv L tl s→pVal (f+1) c (rem L tl s)=(adv (rem L tl s)).bind fun r=>(many p cl f r).bind fun x=>.ok (nd k e0 e0 e0 0 x.1,x.2))→∃ y,((loopF L item cl f s.nx).bind fun x=>some (nd k e0 e0 e0 0 x.1,x.2))=some y∧Mn L s y.2∧Pg s y.2∧(Lv L tl s→Rl L tl (pVal (f+1) c (rem L tl s)) y s.d):=by
  intro item p k cl hi hc hk hp
  obtain ⟨x,x1,x2,x3⟩:=loop_ok T hi cl hc f s.nx (mn_nx hlt).le (by show L.length - (s.a+1)+1 < f;omega) (by show L.length - (s.a+1)+1 < f;omega)
  refine ⟨(nd k e0 e0 e0 0 x.1,x.2),by rw [x1];rfl,(mn_nx hlt).trans x2,Pg.mn (.inr (Nat.lt_succ_self _)) x2,fun l=>?_⟩
  rw [hp l]
  refine rs_bind (adv_rs T l hk) (y:=(nd k e0 e0 e0 0 x.1,x.2)) x2 fun l2 d2=>?_
  rw [← d2]
  exact rg_bind (x3 l2) (y:=(nd k e0 e0 e0 0 x.1,x.2)) (.refl x2.le) fun l3 d3=>rg_ok (x:=(nd k e0 e0 e0 0 x.1,x.2)) l3 d3 (ers_nd _ _ _ _ _ _ (.inr rfl)).symm
 by_cases c10:kd L s=10
 ·rw [if_pos c10]
  exact lp _ _ 17 11 h (by decide) (by rw [c10];decide) (fun l=>by
   show (if hk (rem L tl s)=10 then _ else _)=_
   rw [(hk_rem T l).1,if_pos c10])
 rw [if_neg c10]
 by_cases c12:kd L s=12
 ·rw [if_pos c12]
  exact lp _ _ 18 14 (nv_ok T h.m 19) (by decide) (by rw [c12];decide) (fun l=>by
   show (if hk (rem L tl s)=10 then _ else if hk (rem L tl s)=12 then _ else _)=_
   rw [(hk_rem T l).1,if_neg c10,if_pos c12])
 rw [if_neg c12]
 refine bad _ fun l=>?_
 show (if hk (rem L tl s)=10 then _ else if hk (rem L tl s)=12 then _ else if hk (rem L tl s)=16 then _ else if hk (rem L tl s)=17 then _ else if hk (rem L tl s)=18∨hk (rem L tl s)=19 then _ else if hk (rem L tl s)=15 then _ else if hk (rem L tl s)=3∧c=false then _ else _)=_
 rw [(hk_rem T l).1,if_neg c10,if_neg c12,if_neg c16,if_neg c17,if_neg (by omega),if_neg c15,if_neg (by omega)]
theorem value_ok (T:Tl L tl) (c:Bool):∀ f,Gd L tl (valueF L c f) (pVal f c) f:=by
 intro f
 induction f with
 | zero=>intro s h1 h2;omega
 | succ f ih =>
   intro s h1 h2
   have me:=enter_mn (L:=L) h1
   unfold valueF
   by_cases hb:(enterF s).bad=true
   ·rw [if_pos hb]
    refine ⟨_,rfl,me,.inl hb,fun l=>?_⟩
    rcases enter_lv l with h | h
    ·exact .inl h.1
    ·rw [h.1.b] at hb;cases hb
   ·rw [if_neg hb]
    obtain ⟨x,x1,x2,x3,x4⟩:=here_ok T c ih (enterF s) me.le (by rw [enter_a];omega)
    refine ⟨(x.1,leaveF x.2),by rw [x1];rfl,me.trans (x2.trans (leave_mn x2.le)),(me.pg x3).mn (leave_mn x2.le),fun l=>?_⟩
    rcases enter_lv l with h | ⟨h,hd,hr,_⟩
    ·exact absurd h.2 hb
    ·rw [← hr]
     exact leave_rl (by rw [← hd];exact x4 h) l.d0
theorem opt_ok (T:Tl L tl) {item:St→Option RS} {p:List Tk→O (List Row × List Tk)} {f:Nat} (hi:Gd L tl item p f) (op cl:Int) (ho:op≠1) (hc:cl≠1) (F:St→Option RS) (hF:F=fun s=>match takenF L op s with
 | (false,s1)=>some ([],s1)
 | (true,s1)=>loop1F L item cl f (someF L cl s1)):Gm L tl F (fun l=>if hk l=op then some1 p op cl f l else .ok ([],l)) f:=by
 intro s h1 h2
 rw [hF]
 rcases taken_cases T op ho s h1 with ⟨e,e1,e2,e3⟩ | ⟨e,e1⟩
 ·obtain ⟨x,x1,x2,_,x3⟩:=loop1_ok T hi op cl ho hc f s e3 e2 (by omega) (by omega)
  refine ⟨x,by simp only [e];exact x1,x2,fun l=>?_⟩
  simp only [(hk_rem T l).1]
  rw [if_pos e2];exact x3 l
 ·refine ⟨([],s),by simp only [e],.refl h1,fun l=>?_⟩
  simp only [(hk_rem T l).1]
  rw [if_neg (e1.resolve_left (by rw [l.b];exact fun h=>by cases h))]
  exact rg_ok (x:=([],s)) l rfl rfl
theorem args_ok (T:Tl L tl) (f:Nat):Gm L tl (argsF L f) (pArgs f) f:=opt_ok T (nv_ok T (value_ok T false f).m 9) 4 5 (by decide) (by decide) _ rfl
end
section
variable {L tl:List Tk}
theorem dirs_ok (T:Tl L tl) (f:Nat):∀ n s,s.a≤L.length→L.length - s.a+1 < n→L.length - s.a+1 < f→∃ x,dirsF L f n s=some x∧Mn L s x.2∧(Lv L tl s→Rl L tl (pDirs f n (rem L tl s)) x s.d):=by
 intro n
 induction n with
 | zero=>intro s h1 h2;omega
 | succ n ih =>
   intro s h1 h2 h3
   unfold dirsF
   by_cases hb:s.bad=true
   ·rw [if_pos hb]
    exact ⟨_,rfl,.refl h1,fun l=>by rw [l.b] at hb;cases hb⟩
   rw [if_neg hb]
   rcases taken_cases T 9 (by decide) s h1 with ⟨e,e1,e2,e3⟩ | ⟨e,e1⟩
   ·rw [e]
    have m1:=mn_nx (L:=L) e3
    have m2:=name_mn (L:=L) m1.le
    have h4:s.a+1≤(nameF L s.nx).2.a:=m2.up
    have h5:=m2.le
    obtain ⟨y,y1,y2,y3⟩:=args_ok T f (nameF L s.nx).2 m2.le (by omega)
    have hz:∃ z,dirsF L f n y.2=some z∧Mn L y.2 z.2∧(Lv L tl y.2→Rl L tl (pDirs f n (rem L tl y.2)) z y.2.d):=by
     have h6:=y2.up
     have h7:=y2.le
     have hp:Pg s.nx (nameF L s.nx).2:=name_pg
     rcases hp with hp | hp
     ·have hb2:=y2.b hp
      cases n with
      | zero=>omega
      | succ n =>
        unfold dirsF
        rw [if_pos hb2]
        exact ⟨_,rfl,.refl y2.le,fun l=>by rw [l.b] at hb2;cases hb2⟩
     ·have hp':s.a+1 < (nameF L s.nx).2.a:=hp
      exact ih y.2 y2.le (by omega) (by omega)
    obtain ⟨z,z1,z2,z3⟩:=hz
    refine ⟨(nd 10 (nameF L s.nx).1 e0 e0 0 y.1++z.1,z.2),by show (argsF L f (nameF L s.nx).2).bind _=_;rw [y1];show (dirsF L f n y.2).bind _=_;rw [z1];rfl,m1.trans (m2.trans (y2.trans z2)),fun l=>?_⟩
    have e9:pDirs f (n+1) (rem L tl s)=(pDir f (rem L tl s)).bind fun x=>(pDirs f n x.2).bind fun y=>.ok (x.1++y.1,y.2):=by
     show (if hk (rem L tl s)=9 then _ else _)=_
     rw [(hk_rem T l).1,if_pos e2]
    have e10:∀ K:List Row × List Tk→O (List Row × List Tk),(pDir f (rem L tl s)).bind K=(adv (rem L tl s)).bind fun r=>(pName r).bind fun n=>(pArgs f n.2).bind fun x=>K (nd 10 n.1 e0 e0 0 x.1,x.2):=fun K=>by
     unfold pDir must
     rw [(hk_rem T l).1,if_pos e2]
     cases adv (rem L tl s) with
     | out=>rfl
     | bad=>rfl
     | ok r =>
       simp only [O.bind_ok]
       cases pName r with
       | out=>rfl
       | bad=>rfl
       | ok n =>
         simp only [O.bind_ok]
         cases pArgs f n.2 <;> rfl
    rw [e9,e10]
    generalize hq:(nd 10 (nameF L s.nx).1 e0 e0 0 y.1++z.1,z.2)=q
    have q2:q.2=z.2:=by rw [← hq]
    have zq:Mn L y.2 q.2:=by rw [q2];exact z2
    refine rs_bind (adv_rs T l (by rw [e2];decide)) (m2.trans (y2.trans zq)) fun l1 d1=>?_
    refine rg_bind (name_rn T l1) (y2.trans zq) fun l2 d2=>?_
    refine rg_bind (y3 l2) zq fun l3 d3=>?_
    refine rg_bind (z3 l3) (by rw [q2];exact .refl z2.le) fun l4 d4=>?_
    subst hq
    exact rg_ok (x:=(nd 10 (nameF L s.nx).1 e0 e0 0 y.1++z.1,z.2)) l4 (d4.trans (d3.trans (d2.trans d1))) (by rw [ers_app,ers_nd _ _ _ _ _ _ (.inr rfl)];rfl)
   ·rw [e]
    refine ⟨([],s),rfl,.refl h1,fun l=>?_⟩
    show Rl L tl (if hk (rem L tl s)=9 then _ else _) _ _
    rw [(hk_rem T l).1,if_neg (e1.resolve_left hb)]
    exact rg_ok (x:=([],s)) l rfl rfl
theorem set_ok (T:Tl L tl) {sel:St→Option RS} {p:List Tk→O (List Row × List Tk)} {f m:Nat} (h:Gd L tl sel p m) (hm:m≤f):Gd L tl (setF L sel f) (pSet p f) m:=by
 intro s h1 h2
 have me:=enter_mn (L:=L) h1
 have ea:=enter_a s
 unfold setF
 by_cases hb:(enterF s).bad=true
 ·rw [if_pos hb]
  refine ⟨_,rfl,me,.inl hb,fun l=>?_⟩
  rcases enter_lv l with h | h
  ·exact .inl h.1
  ·rw [h.1.b] at hb;cases hb
 rw [if_neg hb]
 by_cases hk:kd L (enterF s)=12
 ·have hmu:mustF L 12 (enterF s)=(enterF s).nx:=by
   unfold mustF
   rw [if_pos ⟨by cases e:(enterF s).bad with | false=>rfl | true=>exact absurd e hb,hk⟩]
  have hlt:(enterF s).a < L.length:=kd_lt (by rw [hk];decide)
  rw [hmu]
  obtain ⟨x,x1,x2,xp,x3⟩:=loop1_ok T h 12 14 (by decide) (by decide) f (enterF s) hlt hk (by rw [ea];omega) (by rw [ea];omega)
  refine ⟨(nd 5 e0 e0 e0 0 x.1,leaveF x.2),by rw [x1];rfl,me.trans (x2.trans (leave_mn x2.le)),(me.pg xp).mn (leave_mn x2.le),fun l=>?_⟩
  ·rcases enter_lv l with h | ⟨h,hd,hr,_⟩
   ·exact absurd h.2 hb
   ·rw [← hr]
    unfold pSet
    refine rg_bind (x3 h) (y:=(nd 5 e0 e0 e0 0 x.1,leaveF x.2)) (leave_mn x2.le) fun l2 d2=>?_
    obtain ⟨p1,p2,p3⟩:=leave_lv l2 (d2.trans hd) l.d0
    rw [← p3]
    exact rg_ok (x:=(nd 5 e0 e0 e0 0 x.1,leaveF x.2)) p1 p2 (ers_nd _ _ _ _ _ _ (.inr rfl)).symm
 ·have hmu:mustF L 12 (enterF s)=(enterF s).fail:=by
   unfold mustF
   rw [if_neg (fun h=>hk h.2)]
  have hs:someF L 14 (enterF s).fail=(enterF s).fail:=by
   unfold someF
   rw [if_neg (fun h=>by cases h.1)]
  rw [hmu,hs]
  refine ⟨(nd 5 e0 e0 e0 0 [],leaveF (enterF s).fail),rfl,me.trans ((mn_fail me.le).trans (leave_mn (mn_fail me.le).le)),.inl rfl,fun l=>?_⟩
  rcases enter_lv l with h | ⟨h,hd,hr,_⟩
  ·exact absurd h.2 hb
  ·refine .inr (.inl ⟨.inl rfl,?_⟩)
   rw [← hr]
   unfold pSet some1 must
   rw [(hk_rem T h).1,if_neg hk];rfl
def pAlias (l:List Tk):O ((ByteArray × ByteArray) × List Tk):=(pName l).bind fun n=>if hk n.2=7 then (adv n.2).bind fun r=>(pName r).bind fun m=>.ok ((m.1,n.1),m.2) else .ok ((n.1,e0),n.2)
theorem alias_ok (T:Tl L tl) (s:St) (h1:s.a≤L.length):Mn L s (aliasF L s).2∧Pg s (aliasF L s).2∧(Lv L tl s→Rg L tl id (pAlias (rem L tl s)) (aliasF L s) s.d):=by
 have m1:=name_mn (L:=L) h1
 unfold aliasF
 rcases taken_cases T 7 (by decide) (nameF L s).2 m1.le with ⟨e,e1,e2,e3⟩ | ⟨e,e1⟩
 ·rw [e]
  have m2:=mn_nx (L:=L) e3
  have m3:=name_mn (L:=L) m2.le
  refine ⟨m1.trans (m2.trans m3),name_pg.mn (m2.trans m3),fun l=>?_⟩
  unfold pAlias
  refine rg_bind (name_rn T l) (m2.trans m3) fun l1 d1=>?_
  simp only [id]
  rw [(hk_rem T l1).1,if_pos e2]
  refine rs_bind (adv_rs T l1 (by rw [e2];decide)) m3 fun l2 d2=>?_
  refine rg_bind (name_rn T l2) (.refl m3.le) fun l3 d3=>?_
  exact rg_ok (em:=id) (x:=(((nameF L (nameF L s).2.nx).1,(nameF L s).1),(nameF L (nameF L s).2.nx).2)) l3 (d3.trans (d2.trans d1)) rfl
 ·rw [e]
  refine ⟨m1,name_pg,fun l=>?_⟩
  unfold pAlias
  refine rg_bind (name_rn T l) (.refl m1.le) fun l1 d1=>?_
  simp only [id]
  rw [(hk_rem T l1).1,if_neg (e1.resolve_left (by rw [l1.b];exact fun h=>by cases h))]
  exact rg_ok (em:=id) (x:=(((nameF L s).1,e0),(nameF L s).2)) l1 d1 rfl
theorem sub_ok (T:Tl L tl) {sel:St→Option RS} {p:List Tk→O (List Row × List Tk)} {f m:Nat} (h:Gd L tl sel p m) (hm:m≤f) (s:St) (h1:s.a≤L.length) (h2:s.bad=true∨L.length - s.a+1 < m):∃ x,subF L sel f s=some x∧Mn L s x.2∧(Lv L tl s→Rl L tl (if hk (rem L tl s)=12 then pSet p f (rem L tl s) else .ok ([],rem L tl s)) x s.d):=by
 unfold subF
 by_cases c:s.bad=false∧kd L s=12
 ·rw [if_pos c]
  obtain ⟨x,x1,x2,x3,x4⟩:=set_ok T h hm s h1 (h2.resolve_left (by rw [c.1];exact fun h=>by cases h))
  refine ⟨x,x1,x2,fun l=>?_⟩
  rw [(hk_rem T l).1,if_pos c.2];exact x4 l
 ·rw [if_neg c]
  refine ⟨([],s),rfl,.refl h1,fun l=>?_⟩
  rw [(hk_rem T l).1,if_neg (fun h=>c ⟨l.b,h⟩)]
  exact rg_ok (x:=([],s)) l rfl rfl
theorem text_mn {s:St} (h:s.a≤L.length):Mn L s (textF L s):=mn_unk _ h
theorem cond_mn {s:St} (h:s.a≤L.length):Mn L s (condF L s).2:=by
 unfold condF
 by_cases c:isOn L s=true
 ·rw [if_pos c]
  have hk:kd L s=15:=(of_decide_eq_true c).1
  have m:=mn_nx (L:=L) (kd_lt (s:=s) (by rw [hk];decide))
  exact m.trans (name_mn m.le)
 ·rw [if_neg c];exact .refl h
theorem sel_ok (T:Tl L tl):∀ f,Gd L tl (selF L f) (pSel f) (f - 1):=by
 intro f
 induction f with
 | zero=>intro s h1 h2;omega
 | succ f ih =>
   intro s h1 h2
   unfold selF
   rcases taken_cases T 6 (by decide) s h1 with ⟨e,e1,e2,e3⟩ | ⟨e,e1⟩
   ·rw [e]
    have m1:=mn_nx (L:=L) e3
    have hn:L.length - s.nx.a+1 < f - 1:=by show L.length - (s.a+1)+1 < f - 1;omega
    have hp:∀ l:Lv L tl s,pSel (f+1) (rem L tl s)=(adv (rem L tl s)).bind fun r =>
     if hk r=15∧hv r≠bOn then (pName r).bind fun n=>(pDirs f f n.2).bind fun x=>.ok (nd 7 n.1 e0 e0 0 x.1,x.2)
     else (if hv r=bOn then (adv r).bind fun r=>pName r else .ok (e0,r)).bind fun n=>(pDirs f f n.2).bind fun x=>(pSet (pSel f) f x.2).bind fun y=>.ok (nd 8 e0 e0 n.1 0 (x.1++y.1),y.2):=fun l=>by
     show (if hk (rem L tl s)=6 then _ else _)=_
     rw [(hk_rem T l).1,if_pos e2]
    show ∃ x,(if kd L s.nx=15∧isOn L s.nx=false then _ else _)=some x∧_
    by_cases c:kd L s.nx=15∧isOn L s.nx=false
    ·rw [if_pos c]
     have hv2:vl L s.nx≠bOn:=fun h=>by
      have:=of_decide_eq_false c.2
      exact this ⟨c.1,h⟩
     have m2:=name_mn (L:=L) m1.le
     obtain ⟨y,y1,y2,y3⟩:=dirs_ok T f f (nameF L s.nx).2 m2.le (by have:=m2.up;omega) (by have:=m2.up;omega)
     refine ⟨(nd 7 (nameF L s.nx).1 e0 e0 0 y.1,y.2),by rw [y1];rfl,m1.trans (m2.trans y2),Pg.mn (.inr (Nat.lt_succ_self _)) (m2.trans y2),fun l=>?_⟩
     rw [hp l]
     refine rs_bind (adv_rs T l (by rw [e2];decide)) (y:=(nd 7 (nameF L s.nx).1 e0 e0 0 y.1,y.2)) (m2.trans y2) fun l1 d1=>?_
     rw [(hk_rem T l1).1,(hk_rem T l1).2,if_pos ⟨c.1,hv2⟩]
     refine rg_bind (name_rn T l1) (y:=(nd 7 (nameF L s.nx).1 e0 e0 0 y.1,y.2)) y2 fun l2 d2=>?_
     refine rg_bind (y3 l2) (y:=(nd 7 (nameF L s.nx).1 e0 e0 0 y.1,y.2)) (.refl y2.le) fun l3 d3=>?_
     exact rg_ok (x:=(nd 7 (nameF L s.nx).1 e0 e0 0 y.1,y.2)) l3 (d3.trans (d2.trans d1)) (ers_nd _ _ _ _ _ _ (.inr rfl)).symm
    ·rw [if_neg c]
     have mt:=text_mn (L:=L) m1.le
     have mc:=cond_mn (L:=L) mt.le
     obtain ⟨y,y1,y2,y3⟩:=dirs_ok T f f (condF L (textF L s.nx)).2 mc.le (by have:=mt.up;have:=mc.up;omega) (by have:=mt.up;have:=mc.up;omega)
     obtain ⟨z,z1,z2,z3,z4⟩:=set_ok T ih (Nat.sub_le _ _) y.2 y2.le (by have:=mt.up;have:=mc.up;have:=y2.up;omega)
     refine ⟨(nd 8 e0 e0 (condF L (textF L s.nx)).1 0 (y.1++z.1),z.2),by rw [y1];show (setF L (selF L f) f y.2).bind _=_;rw [z1];rfl,m1.trans (mt.trans (mc.trans (y2.trans z2))),Pg.mn (.inr (Nat.lt_succ_self _)) (mt.trans (mc.trans (y2.trans z2))),fun l=>?_⟩
     generalize hq:(nd 8 e0 e0 (condF L (textF L s.nx)).1 0 (y.1++z.1),z.2)=q
     have q2:q.2=z.2:=by rw [← hq]
     have zq:Mn L y.2 q.2:=by rw [q2];exact z2
     rw [hp l]
     refine rs_bind (adv_rs T l (by rw [e2];decide)) (mt.trans (mc.trans (y2.trans zq))) fun l1 d1=>?_
     by_cases ht:kd L s.nx=18∨kd L s.nx=19
     ·refine .inl ((mc.trans (y2.trans zq)).u ?_)
      unfold textF
      rw [show (kd L s.nx == 18 || kd L s.nx == 19)=true from by simp only [Bool.or_eq_true,beq_iff_eq];exact ht]
      exact unk_true _
     ·have et:textF L s.nx=s.nx:=by
       unfold textF
       rw [show (kd L s.nx == 18 || kd L s.nx == 19)=false from by simp only [Bool.or_eq_false_iff,beq_eq_false_iff_ne];omega]
       exact unk_false _
      rw [et] at hq y3 mc y2
      have hv2:hv (rem L tl s.nx)=bOn ↔ isOn L s.nx=true:=by
       rw [(hk_rem T l1).2]
       constructor
       ·intro h
        refine decide_eq_true ⟨?_,h⟩
        by_cases hl:s.nx.a < L.length
        ·have:=T.on _ (List.getElem_mem hl) (by rw [← (kd_in hl).2];exact h)
         rw [← (kd_in hl).1] at this
         omega
        ·rw [(kd_end (by omega)).2] at h
         exact absurd (congrArg ByteArray.size h) (by decide)
       ·exact fun h=>(of_decide_eq_true h).2
      have hcn:¬ (kd L s.nx=15∧vl L s.nx≠bOn):=fun h=>c ⟨h.1,by
       cases hx:isOn L s.nx with
       | false=>rfl
       | true=>exact absurd (of_decide_eq_true hx).2 h.2⟩
      rw [(hk_rem T l1).1]
      have hvr:=(hk_rem T l1).2
      rw [hvr,if_neg hcn]
      have hc2:Rn L tl (if vl L s.nx=bOn then (adv (rem L tl s.nx)).bind fun r=>pName r else .ok (e0,rem L tl s.nx)) (condF L s.nx) s.nx.d:=by
       unfold condF
       by_cases ho:isOn L s.nx=true
       ·have hk:kd L s.nx=15:=(of_decide_eq_true ho).1
        rw [if_pos ho,if_pos (of_decide_eq_true ho).2]
        exact rs_bind (adv_rs T l1 (by rw [hk];decide)) (name_mn (mn_nx (kd_lt (by rw [hk];decide))).le) fun l2 d2=>by rw [← d2];exact name_rn T l2
       ·rw [if_neg ho,if_neg (fun h=>ho (hv2.1 (hvr.trans h)))]
        exact rg_ok (x:=(e0,s.nx)) l1 rfl rfl
      refine rg_bind hc2 (y2.trans zq) fun l2 d2=>?_
      refine rg_bind (y3 l2) zq fun l3 d3=>?_
      refine rg_bind (z4 l3) (by rw [q2];exact .refl z2.le) fun l4 d4=>?_
      subst hq
      exact rg_ok (x:=(nd 8 e0 e0 (condF L s.nx).1 0 (y.1++z.1),z.2)) l4 (d4.trans (d3.trans (d2.trans d1))) (by rw [ers_nd _ _ _ _ _ _ (.inr rfl),ers_app];rfl)
   ·rw [e]
    have hk6:Lv L tl s→kd L s≠6:=fun l=>e1.resolve_left (by rw [l.b];exact fun h=>by cases h)
    obtain ⟨am,ap,ar⟩:=alias_ok (tl:=tl) T s h1
    obtain ⟨y,y1,y2,y3⟩:=args_ok T f (aliasF L s).2 am.le (by have:=am.up;omega)
    obtain ⟨d,w1,w2,w3⟩:=dirs_ok T f f y.2 y2.le (by have:=am.up;have:=y2.up;omega) (by have:=am.up;have:=y2.up;omega)
    have hp:=(ap.mn y2).mn w2
    obtain ⟨z,z1,z2,z3⟩:=sub_ok T ih (Nat.sub_le _ _) d.2 w2.le (hp.imp id (fun h=>by have:=w2.le;omega))
    refine ⟨(nd 6 (aliasF L s).1.1 (aliasF L s).1.2 e0 0 (y.1++d.1++z.1),z.2),by show (argsF L f (aliasF L s).2).bind _=_;rw [y1];show (dirsF L f f y.2).bind _=_;rw [w1];show (subF L (selF L f) f d.2).bind _=_;rw [z1];rfl,am.trans (y2.trans (w2.trans z2)),hp.mn z2,fun l=>?_⟩
    have hq:pSel (f+1) (rem L tl s)=(pAlias (rem L tl s)).bind fun m=>(pArgs f m.2).bind fun a=>(pDirs f f a.2).bind fun d=>(if hk d.2=12 then pSet (pSel f) f d.2 else .ok ([],d.2)).bind fun y=>.ok (nd 6 m.1.1 m.1.2 e0 0 (a.1++d.1++y.1),y.2):=by
     show (if hk (rem L tl s)=6 then _ else _)=_
     rw [(hk_rem T l).1,if_neg (hk6 l)]
     unfold pAlias
     cases pName (rem L tl s) with
     | out=>rfl
     | bad=>rfl
     | ok n =>
       simp only [O.bind_ok]
       by_cases c:hk n.2=7
       ·rw [if_pos c,if_pos c]
        cases adv n.2 with
        | out=>rfl
        | bad=>rfl
        | ok r=>simp only [O.bind_ok];cases pName r <;> rfl
       ·rw [if_neg c,if_neg c];rfl
    rw [hq]
    generalize hg:(nd 6 (aliasF L s).1.1 (aliasF L s).1.2 e0 0 (y.1++d.1++z.1),z.2)=q
    have q2:q.2=z.2:=by rw [← hg]
    have zq:Mn L d.2 q.2:=by rw [q2];exact z2
    refine rg_bind (ar l) (y2.trans (w2.trans zq)) fun l1 d1=>?_
    refine rg_bind (y3 l1) (w2.trans zq) fun l2 d2=>?_
    refine rg_bind (w3 l2) zq fun l3 d3=>?_
    refine rg_bind (z3 l3) (by rw [q2];exact .refl z2.le) fun l4 d4=>?_
    subst hg
    exact rg_ok (x:=(nd 6 (aliasF L s).1.1 (aliasF L s).1.2 e0 0 (y.1++d.1++z.1),z.2)) l4 (d4.trans (d3.trans (d2.trans d1))) (by rw [ers_nd _ _ _ _ _ _ (.inr rfl),ers_app,ers_app];rfl)
end
end Go.Proofs.YthgcghpcikbnkaaGreatDoor.R
