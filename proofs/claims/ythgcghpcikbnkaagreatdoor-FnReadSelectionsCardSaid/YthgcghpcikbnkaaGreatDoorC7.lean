/- A part of the proof of the theorem of this claim: Pnm, Pn2, Rev. No condition of its own. -/
import Derived.Test.YthgcghpcikbnkaaGreatDoorB6
set_option maxHeartbeats 16000000
set_option maxRecDepth 100000
namespace Go.Proofs.YthgcghpcikbnkaaGreatDoor.R
open Go.RowKit Go.Proofs.YthgcghpcikbnkaaGreatDoorW.PrintWords Go.Proofs.YthgcghpcikbnkaaGreatDoorW.PrintLast Go.Proofs.YthgcghpcikbnkaaGreatDoorW.PrintMore
set_option linter.unusedVariables false
set_option linter.unusedSimpArgs false
def Got {A:Type} (C:Cx) (w:World) (res:O (A × List Tk)) (P:Ok→World→A→Value→Prop) (e:Ending) (w':World):Prop :=
 FrC C w w'∧match res with
 | .out=>True
 | .bad=>PB C w'∧∃ (v:Value) (te:TypeId) (x:Value),e=.returned (.tuple #[v,.iface te x])
 | .ok (a,l)=>∃ (v:Value) (u:Tk) (r':List Tk),l=u :: r'∧PS C w' u r'∧P (from_ w.heap.size) w' a v∧e=.returned (.tuple #[v,.nilIface])
theorem adv_nil {t:Tk} (h:t.k≠1):adv [t]=.bad:=by simp [adv,h]
theorem adv_cons {t u:Tk} {r:List Tk} (h:t.k≠1):adv (t :: u :: r)=.ok (u :: r):=by simp [adv,h]
theorem must_no {k:Int} {t:Tk} {r:List Tk} (h:t.k≠k):must k (t :: r)=.bad:=by unfold must;rw [if_neg (by exact h)]
theorem must_yes {k:Int} {t:Tk} {r:List Tk} (h:t.k=k):must k (t :: r)=adv (t :: r):=by unfold must;rw [if_pos (by exact h)]
theorem loc_ps {C:Cx} {w:World} {t:Tk} {r:List Tk} (h:PS C w t r) (a:Int):Calls Tryz.prog 59 #[ptr C.gp,.int .i64 a] w fun e w'=>(∃ g':Nat,e=.returned (ptr g')∧LocA (from_ w.heap.size) w' (ptr g'))∧Below w.heap.size w w':=by
 obtain ⟨pe,hp⟩:=h.par
 refine (loc_walk' a hp).mono ?_
 rintro e w' ⟨⟨g',rfl,hg,hg'⟩,hb⟩
 exact ⟨⟨g',rfl,g',a,pe,_,rfl,hg,hg'⟩,hb⟩
theorem parseName_walk {C:Cx} {w:World} {t:Tk} {r:List Tk} (h:PS C w t r):Calls Tryz.prog 102 #[ptr C.gp] w (Got C w (pName (t :: r)) (fun ok w' v p=>NameA ok w' p v)):=by
 have HP0:=mkA h
 by_cases hk15:t.k=15
 ·have h1:t.k≠1:=by omega
  have hb:(t.k == 15)=true:=beq_iff_eq.2 hk15
  have CE:=mkA (expect_yes h 15 hb h1)
  cases r with
  | nil =>
    have er:pName [t]=.bad:=by unfold pName;rw [if_pos (by exact hk15),adv_nil h1];rfl
    rw [er]
    clear h h1 hb hk15 er

    go_enter Tryz.func102,Tryz.ntmps102
    go_wp2_with (first
     | (go_at_call 79;(with_reducible refine CE.out.mono ?_);rintro e w1 ⟨hF,hP,te,x,rfl⟩;have HF:=mkA hF;have HP:=mkA hP;clear hF hP)
     | ((with_reducible refine gate_dst (N:=4) rfl ?_);refine bxz ?hr ?_;(case hr=>first | (go_simp;done) | (go_simp;rfl));intro gt hg w2 hbox hb;have HB:=mkA (HF.out.step hb);have GT:=mkA ((by rw [hg];exact HF.out.size:w.heap.size≤gt));have GT2:=mkA (show C.lo≤gt by rw [hg];exact Nat.le_trans HP0.out.lo HF.out.size);have HQ:=mkA (HP.out.below hb);have BT:=mkA hbox;have NP:=mkA (show gt≠C.gp from by have:=HP0.out.ok.pl;have:=GT2.out;omega);clear hb hbox hg;obtain ⟨tz0,tz1,tz2,tz3,tf0,tf1,tf2,tf3⟩:=tkz BT.out))
    go_ret2
    exact ⟨HB.out.p4 (.inr (.inr GT.out)),HQ.out.p4 NP.out,_,te,x,rfl⟩
  | cons u r =>
    have er:pName (t :: u :: r)=.ok (t.v,u :: r):=by unfold pName;rw [if_pos (by exact hk15),adv_cons h1];rfl
    rw [er]
    clear h h1 hb hk15 er
    go_enter Tryz.func102,Tryz.ntmps102
    go_upto_region 4 with (first
     | (go_at_call 79;(with_reducible refine CE.out.mono ?_);rintro e w1 ⟨hF,hP,rfl⟩;have HF:=mkA hF;have HP:=mkA hP;clear hF hP)
     | ((with_reducible refine gate_dst (N:=4) rfl ?_);refine bxz ?hr ?_;(case hr=>first | (go_simp;done) | (go_simp;rfl));intro gt hg w2 hbox hb;have HB:=mkA (HF.out.step hb);have GT:=mkA ((by rw [hg];exact HF.out.size:w.heap.size≤gt));have GT2:=mkA (show C.lo≤gt by rw [hg];exact Nat.le_trans HP0.out.lo HF.out.size);have HQ:=mkA (HP.out.below hb);have BT:=mkA hbox;have NP:=mkA (show gt≠C.gp from by have:=HP0.out.ok.pl;have:=GT2.out;omega);clear hb hbox hg;obtain ⟨tz0,tz1,tz2,tz3,tf0,tf1,tf2,tf3⟩:=tkz BT.out))
    obtain ⟨w3,hw3⟩:∃ w3,w3=(((w2.setCell ⟨gt,0,none⟩ (.int .i64 t.k)).setCell ⟨gt,1,none⟩ (.int .i64 t.a)).setCell ⟨gt,2,none⟩ (.int .i64 t.z)).setCell ⟨gt,3,none⟩ (.string t.v):=⟨_,rfl⟩
    have n0_:=mkA (show FrC C w w3 by rw [hw3];exact HB.out.p4 (.inr (.inr GT.out)))
    have n1_:=mkA (show w3.heap[gt]?=some (.cells #[.int .i64 t.k,.int .i64 t.a,.int .i64 t.z,.string t.v] 63 (0,0)) by rw [hw3];exact tkp BT.out)
    have n2_:=mkA (show PS C w3 u r by rw [hw3];exact HQ.out.p4 GT2.out)
    rw [← hw3]
    clear HB BT HQ HP HF hw3 tz0 tz1 tz2 tz3 tf0 tf1 tf2 tf3
    have HB:=n0_;have BT:=n1_;have HQ:=n2_
    clear n0_ n1_ n2_
    have sx0:w3.cell? ⟨gt,3,none⟩=some (.string t.v):=(blk_cell BT.out 3).trans rfl
    have sx1:w3.cell? ⟨gt,1,none⟩=some (.int .i64 t.a):=(blk_cell BT.out 1).trans rfl
    have K0:∀ u,Below w3.heap.size w3 u→(u.cell? ⟨gt,3,none⟩=some (.string t.v)∧u.cell? ⟨gt,1,none⟩=some (.int .i64 t.a))∧Below w3.heap.size w3 u:=fun u hu=>⟨⟨(hu.cell (World.block_lt_of_cell? _ _ sx0)).trans sx0,(hu.cell (World.block_lt_of_cell? _ _ sx1)).trans sx1⟩,hu⟩
    have cL:=mkA (fun (u:World) (hu:Below w3.heap.size w3 u) (a:Int)=>(show Calls Tryz.prog 59 #[ptr C.gp,.int .i64 a] u fun e w'=>(∃ g':Nat,e=.returned (ptr g')∧LocA (from_ w3.heap.size) w' (ptr g'))∧Below w3.heap.size w3 w' from (loc_ps (HQ.out.below hu) a).mono fun e w' q=>by obtain ⟨⟨g',q1,q2⟩,q3⟩:=q;exact ⟨⟨g',q1,q2.fr (keeps_weak hu.size)⟩,below_step hu q3⟩))
    have LO:=mkA (show w.heap.size≤w3.heap.size from HB.out.size)
    go_region_held3 (fun u=>(u.cell? ⟨gt,3,none⟩=some (.string t.v)∧u.cell? ⟨gt,1,none⟩=some (.int .i64 t.a))∧Below w3.heap.size w3 u) (first | exact K0 _ (Below.refl _ _) | exact K0 _ (below_drew1 (Below.refl _ _)) | exact K0 _ (below_drew1 (below_alloc (Below.refl _ _) _)) | exact hS9 | exact hS5 | exact hS6 | fail) (first
     | (go_at_call 59;refine (cL.out _ ?_ _).mono ?_;(first | exact below_drew1 (Below.refl _ _) | exact Below.refl _ _);rintro e w5 ⟨⟨gl,rfl,hgl⟩,hW5⟩;have hS5:=K0 _ hW5;have hS6:=K0 _ (below_alloc hW5 (.cells #[.string ⟨#[]⟩,ptr gl,.string t.v] 118));have cN:=(show Calls Tryz.prog 135 #[ptr w5.heap.size] (w5.alloc (.cells #[.string ⟨#[]⟩,ptr gl,.string t.v] 118)) fun e w'=>∃ (g9:Nat) (k9:ByteArray),e=.returned (ptr g9)∧w.heap.size≤g9∧w'.heap[g9]?=some (.cells #[.string k9,ptr gl,.string t.v] 118 (0,0))∧Below w5.heap.size w5 w' from (newName (B:=w5.heap.size) (heap_alloc_new w5 _) (Nat.le_refl _) (below_alloc (Below.refl w5.heap.size w5) _).size).mono fun e w' q=>by obtain ⟨⟨g9,k9,q1,q2,q3⟩,q4⟩:=q;exact ⟨g9,k9,q1,Nat.le_trans (Nat.le_trans LO.out hW5.size) q2,q3,(below_alloc (Below.refl w5.heap.size w5) _).trans q4⟩))
     | (go_at_call 135;refine cN.mono ?_;rintro e w9 ⟨g9,k9,rfl,h90,h91,hX⟩;have hW9:=below_step hW5 hX;have hS9:=K0 _ hW9)
     | fail)
    go_wp2
    go_ret2
    exact ⟨HB.out.step hW9,_,_,_,rfl,HQ.out.below hW9,⟨g9,k9,_,rfl,h90,h91⟩,rfl⟩
 ·have hb:(t.k == 15)=false:=beq_eq_false_iff_ne.2 hk15
  have CE:=mkA (expect_no h 15 hb)
  have er:pName (t :: r)=.bad:=by unfold pName;rw [if_neg (by exact hk15)]
  rw [er]
  clear h hb hk15 er
  go_enter Tryz.func102,Tryz.ntmps102
  go_wp2_with (first
   | (go_at_call 79;(with_reducible refine CE.out.mono ?_);rintro e w1 ⟨hF,hP,te,x,rfl⟩;have HF:=mkA hF;have HP:=mkA hP;clear hF hP)
   | ((with_reducible refine gate_dst (N:=4) rfl ?_);refine bxz ?hr ?_;(case hr=>first | (go_simp;done) | (go_simp;rfl));intro gt hg w2 hbox hb;have HB:=mkA (HF.out.step hb);have GT:=mkA ((by rw [hg];exact HF.out.size:w.heap.size≤gt));have GT2:=mkA (show C.lo≤gt by rw [hg];exact Nat.le_trans HP0.out.lo HF.out.size);have HQ:=mkA (HP.out.below hb);have BT:=mkA hbox;have NP:=mkA (show gt≠C.gp from by have:=HP0.out.ok.pl;have:=GT2.out;omega);clear hb hbox hg;obtain ⟨tz0,tz1,tz2,tz3,tf0,tf1,tf2,tf3⟩:=tkz BT.out))
  go_ret2
  exact ⟨HB.out.p4 (.inr (.inr GT.out)),HQ.out.p4 NP.out,_,te,x,rfl⟩
def ExpP (C:Cx) (w:World) (res:O (List Tk)) (t:Tk) (e:Ending) (w':World):Prop :=
 FrC C w w'∧match res with
 | .out=>True
 | .bad=>PB C w'∧∃ (te:TypeId) (x:Value),e=.returned (.tuple #[tokV t,.iface te x])
 | .ok l=>∃ (u:Tk) (r':List Tk),l=u :: r'∧PS C w' u r'∧e=.returned (.tuple #[tokV t,.nilIface])
theorem expect_walk {C:Cx} {w:World} {t:Tk} {r:List Tk} (h:PS C w t r) (k:Int) (h1:k≠1):Calls Tryz.prog 79 #[ptr C.gp,.int .i64 k] w (ExpP C w (must k (t :: r)) t):=by
 by_cases hk:t.k=k
 ·have ht:t.k≠1:=by rw [hk];exact h1
  rw [must_yes hk]
  refine (expect_yes h k (beq_iff_eq.2 hk) ht).mono ?_
  rintro e w' ⟨hF,hq⟩
  cases r with
  | nil=>rw [adv_nil ht];exact ⟨hF,hq⟩
  | cons u r=>rw [adv_cons ht];exact ⟨hF,u,r,rfl,hq.1,hq.2⟩
 ·rw [must_no hk]
  exact (expect_no h k (beq_eq_false_iff_ne.2 hk)).mono fun e w' q=>q
def NamedA (ok:Ok) (w:World) (p:Value) (v:ByteArray):Prop:=∃ (g:Nat) (k:ByteArray) (l n:Value),p=ptr g∧At ok w g #[.string k,l,n] 123∧LocA ok w l∧NameA ok w n v
def VarA (ok:Ok) (w:World) (p:Value) (v:ByteArray):Prop:=∃ (g:Nat) (k:ByteArray) (l n:Value),p=ptr g∧At ok w g #[.string k,l,n] 83∧LocA ok w l∧NameA ok w n v
theorem NamedA.fr {ok ok':Ok} {w w':World} {p:Value} {v:ByteArray} (h:NamedA ok w p v) (hf:Keeps ok ok' w w'):NamedA ok' w' p v:=by
 obtain ⟨g,k,l,n,h1,h2,h3,h4⟩:=h;exact ⟨g,k,l,n,h1,h2.fr hf,h3.fr hf,h4.fr hf⟩
theorem VarA.fr {ok ok':Ok} {w w':World} {p:Value} {v:ByteArray} (h:VarA ok w p v) (hf:Keeps ok ok' w w'):VarA ok' w' p v:=by
 obtain ⟨g,k,l,n,h1,h2,h3,h4⟩:=h;exact ⟨g,k,l,n,h1,h2.fr hf,h3.fr hf,h4.fr hf⟩
theorem NameA.ptr {ok:Ok} {w:World} {p:Value} {v:ByteArray} (h:NameA ok w p v):∃ g,p=R.ptr g:=by obtain ⟨g,_,_,h,_⟩:=h;exact ⟨g,h⟩
theorem parseNamed_walk {C:Cx} {w:World} {t:Tk} {r:List Tk} (h:PS C w t r) (hne:((pName (t :: r)).bind fun n=>.ok (n.1,n.2))≠.out):Calls Tryz.prog 105 #[ptr C.gp] w (Got C w ((pName (t :: r)).bind fun n=>.ok (n.1,n.2)) (fun ok w' v p=>NamedA ok w' p v)):=by
 have HP:=mkA h
 have OK:=mkA h.ok
 have LOW:=mkA h.lo
 have c6:=h.cells.2.2.1
 have HB:=mkA (Fr.refl C.gp C.gc w)
 clear h
 cases e_:pName (t :: r) with
 | out=>rw [e_] at hne;exact absurd rfl hne
 | bad =>
   simp only [O.bind_bad];have E0:=mkA e_;clear e_ hne
   go_enter Tryz.func105,Tryz.ntmps105
   go_wp2_with (first
    | (go_at_call 102;have c_:=parseName_walk HP.out;rw [E0.out] at c_;(with_reducible refine c_.mono ?_);rintro e w0 ⟨hF,hP,v_,te,x,rfl⟩;have HS_:=mkA HB.out.size;replace HB:=mkA (HB.out.trans hF);have HP0:=mkA hP;clear hP hF HS_ E0))
   go_ret2
   exact ⟨HB.out,HP0.out,_,te,x,rfl⟩
 | ok a_ =>
   obtain ⟨v0,l0⟩:=a_
   rw [e_] at hne;simp only [O.bind_ok] at hne ⊢;have E0:=mkA e_;clear e_
   clear hne
   go_enter Tryz.func105,Tryz.ntmps105
   go_wp2_with (first
    | (go_at_call 102;have c_:=parseName_walk HP.out;rw [E0.out] at c_;(with_reducible refine c_.mono ?_);rintro e w0 ⟨hF,p0,u0,r0,hl_,hP,hN,rfl⟩;subst hl_;obtain ⟨gq0,rfl⟩:=NameA.ptr hN;have HS_:=mkA HB.out.size;replace HB:=mkA (HB.out.trans hF);have N0:=mkA (hN.fr (keeps_weak (Nat.le_refl _)));clear hN;have HP0:=mkA hP;clear hP hF HS_ E0)
    | (go_at_call 59;(with_reducible refine (loc_ps HP0.out _).mono ?_);rintro e wl ⟨⟨gl,rfl,hgl⟩,hBl⟩;have HL:=mkA hgl;have HBl:=mkA hBl;clear hgl hBl)
    | (go_at_call 136;(with_reducible refine (newNamed (B:=wl.heap.size) (heap_alloc_new wl _) (Nat.le_refl _) (below_alloc (Below.refl wl.heap.size wl) _).size).mono ?_);rintro e w9 ⟨⟨g9,k9,rfl,q1,h91⟩,q4⟩;have HX:=mkA ((below_alloc (Below.refl wl.heap.size wl) _).trans q4);have HW:=mkA (below_step HBl.out HX.out);have H90:=mkA (Nat.le_trans (Nat.le_trans HB.out.size HBl.out.size) q1);have H91:=mkA h91;clear q1 q4 h91))
   go_ret2
   have KX:=keeps_below (ok:=from_ w0.heap.size) (ok':=from_ w.heap.size) HX.out (fun g hg=>Nat.le_trans HB.out.size hg);have KW:=keeps_below (ok:=from_ w.heap.size) HW.out (fun g hg=>hg);exact ⟨HB.out.step HW.out,_,_,_,rfl,HP0.out.below HW.out,⟨g9,k9,_,_,rfl,⟨H90.out,H91.out⟩,HL.out.fr KX,N0.out.fr KW⟩,rfl⟩
theorem parseVariable_walk {C:Cx} {w:World} {t:Tk} {r:List Tk} (h:PS C w t r) (hne:((must 3 (t :: r)).bind fun r=>(pName r).bind fun n=>.ok (n.1,n.2))≠.out):Calls Tryz.prog 82 #[ptr C.gp] w (Got C w ((must 3 (t :: r)).bind fun r=>(pName r).bind fun n=>.ok (n.1,n.2)) (fun ok w' v p=>VarA ok w' p v)):=by
 have HP:=mkA h
 have OK:=mkA h.ok
 have LOW:=mkA h.lo
 have c6:=h.cells.2.2.1
 have HB:=mkA (Fr.refl C.gp C.gc w)
 clear h
 cases e_:must 3 (t :: r) with
 | out=>rw [e_] at hne;exact absurd rfl hne
 | bad =>
   simp only [O.bind_bad];have E0:=mkA e_;clear e_ hne
   go_enter Tryz.func82,Tryz.ntmps82
   go_wp2_with (first
    | (go_at_call 79;have c_:=expect_walk HP.out 3 (by decide);rw [E0.out] at c_;(with_reducible refine c_.mono ?_);rintro e w0 ⟨hF,hP,te,x,rfl⟩;have HS_:=mkA HB.out.size;replace HB:=mkA (HB.out.trans hF);have HP0:=mkA hP;clear hP hF HS_ E0))
   go_ret2
   exact ⟨HB.out,HP0.out,_,te,x,rfl⟩
 | ok l0 =>
   rw [e_] at hne;simp only [O.bind_ok] at hne ⊢;have E0:=mkA e_;clear e_
   cases e_:pName l0 with
   | out=>rw [e_] at hne;exact absurd rfl hne
   | bad =>
     simp only [O.bind_bad];have E1:=mkA e_;clear e_ hne
     go_enter Tryz.func82,Tryz.ntmps82
     go_wp2_with (first
      | (go_at_call 79;have c_:=expect_walk HP.out 3 (by decide);rw [E0.out] at c_;(with_reducible refine c_.mono ?_);rintro e w0 ⟨hF,u0,r0,hl_,hP,rfl⟩;subst hl_;have HS_:=mkA HB.out.size;replace HB:=mkA (HB.out.trans hF);have HP0:=mkA hP;clear hP hF HS_ E0)
      | (go_at_call 102;have c_:=parseName_walk HP0.out;rw [E1.out] at c_;(with_reducible refine c_.mono ?_);rintro e w1 ⟨hF,hP,v_,te,x,rfl⟩;have HS_:=mkA HB.out.size;replace HB:=mkA (HB.out.trans hF);have HP1:=mkA hP;clear hP hF HS_ E1))
     go_ret2
     exact ⟨HB.out,HP1.out,_,te,x,rfl⟩
   | ok a_ =>
     obtain ⟨v1,l1⟩:=a_
     rw [e_] at hne;simp only [O.bind_ok] at hne ⊢;have E1:=mkA e_;clear e_
     clear hne
     go_enter Tryz.func82,Tryz.ntmps82
     go_wp2_with (first
      | (go_at_call 79;have c_:=expect_walk HP.out 3 (by decide);rw [E0.out] at c_;(with_reducible refine c_.mono ?_);rintro e w0 ⟨hF,u0,r0,hl_,hP,rfl⟩;subst hl_;have HS_:=mkA HB.out.size;replace HB:=mkA (HB.out.trans hF);have HP0:=mkA hP;clear hP hF HS_ E0)
      | (go_at_call 102;have c_:=parseName_walk HP0.out;rw [E1.out] at c_;(with_reducible refine c_.mono ?_);rintro e w1 ⟨hF,p1,u1,r1,hl_,hP,hN,rfl⟩;subst hl_;obtain ⟨gq1,rfl⟩:=NameA.ptr hN;have HS_:=mkA HB.out.size;replace HB:=mkA (HB.out.trans hF);have N1:=mkA (hN.fr (keeps_weak (HS_.out)));clear hN;have HP1:=mkA hP;clear hP hF HS_ E1)
      | (go_at_call 59;(with_reducible refine (loc_ps HP1.out _).mono ?_);rintro e wl ⟨⟨gl,rfl,hgl⟩,hBl⟩;have HL:=mkA hgl;have HBl:=mkA hBl;clear hgl hBl)
      | (go_at_call 103;(with_reducible refine (newVariable (B:=wl.heap.size) (heap_alloc_new wl _) (Nat.le_refl _) (below_alloc (Below.refl wl.heap.size wl) _).size).mono ?_);rintro e w9 ⟨⟨g9,k9,rfl,q1,h91⟩,q4⟩;have HX:=mkA ((below_alloc (Below.refl wl.heap.size wl) _).trans q4);have HW:=mkA (below_step HBl.out HX.out);have H90:=mkA (Nat.le_trans (Nat.le_trans HB.out.size HBl.out.size) q1);have H91:=mkA h91;clear q1 q4 h91))
     go_ret2
     have KX:=keeps_below (ok:=from_ w1.heap.size) (ok':=from_ w.heap.size) HX.out (fun g hg=>Nat.le_trans HB.out.size hg);have KW:=keeps_below (ok:=from_ w.heap.size) HW.out (fun g hg=>hg);exact ⟨HB.out.step HW.out,_,_,_,rfl,HP1.out.below HW.out,⟨g9,k9,_,_,rfl,⟨H90.out,H91.out⟩,HL.out.fr KX,N1.out.fr KW⟩,rfl⟩
def rev (z:Bool) (it:List Tk→O (List Row × List Tk)) (op cl:Int) (f:Nat) (l:List Tk):O (List Row × List Tk) :=
 (must op l).bind fun r=>if z=true∧hk r=cl then .bad else many it cl f r
structure Item (C:Cx) (n:Nat) (it:List Tk→O (List Row × List Tk)) (Q:Ok→World→List Row→Value→Prop):Prop where
 call:∀ (w:World) (t:Tk) (r:List Tk),PS C w t r→it (t :: r)≠.out→Calls Tryz.prog n #[ptr C.gp] w (Got C w (it (t :: r)) Q)
 shape:∀ ok w r v,Q ok w r v→∃ (te:TypeId) (x:Value),v=.iface te x
 mono:∀ ok ok' w w' r v,Keeps ok ok' w w'→Q ok w r v→Q ok' w' r v
def okl (n:Nat) (sl:Value):Ok:=fun g=>n≤g∧some g≠sl.ownBlock
theorem own_lt {w:World} {base:Nat} {e:TypeId} {s n:Nat} {v:Value} {xs:List Value} (h:w.ownsRow base e s v n xs) {b:Nat} (hb:v.ownBlock=some b):b < w.heap.size∧base≤b:=by
 obtain ⟨_,⟨rfl,_⟩ | ⟨g,cap,cur,rfl,hg,hh,_⟩⟩:=h
 ·simp [Value.ownBlock] at hb
 ·simp [Value.ownBlock] at hb
  rw [← hb]
  exact ⟨blk_lt hh,hg⟩
theorem own_keep {w w':World} {base:Nat} {e:TypeId} {s n:Nat} {v:Value} {xs:List Value} (h:w.ownsRow base e s v n xs) (hk:∀ g o,base≤g→w.heap[g]?=some o→w'.heap[g]?=some o):w'.ownsRow base e s v n xs:=by
 refine ⟨h.1,?_⟩
 rcases h.2 with h2 | ⟨g,cap,cur,hv,hg,hh,r⟩
 ·exact .inl h2
 ·exact .inr ⟨g,cap,cur,hv,hg,hk _ _ hg hh,r⟩
theorem own_of {w:World} {base:Nat} {e:TypeId} {n:Nat} {v:Value} {xs:List Value} (h:w.ownsRow base e 1 v n xs):Own (from_ base) w e v n xs:=by
 refine ⟨⟨h.1,?_⟩,fun b hb=>(own_lt h hb).2⟩
 rcases h.2 with h2 | ⟨g,cap,cur,hv,hg,hh,r⟩
 ·exact .inl h2
 ·exact .inr ⟨g,cap,cur,hv,Nat.zero_le _,hh,r⟩
theorem many_step {Q:Ok→World→List Row→Value→Prop} (hm:∀ ok ok' w w' r v,Keeps ok ok' w w'→Q ok w r v→Q ok' w' r v) {n:Nat} {w5 w6:World} {sl sl2 x:Value} {xs:List Value} {rows rw:List Row}
 (hM:Many (fun v r=>Q (okl n sl) w5 r v) xs rows) (hq:Q (okl n sl) w5 rw x) (hg:w5.grownBy w6 sl.ownBlock) (hat:sl2.ownBlock=sl.ownBlock∨∃ b,sl2.ownBlock=some b∧w5.heap.size≤b):Many (fun v r=>Q (okl n sl2) w6 r v) (xs++[x]) (rows++rw):=by
 have hK:Keeps (okl n sl) (okl n sl2) w5 w6:=fun g o h1 h2=>by
  have hlt:=blk_lt h2
  refine ⟨⟨h1.1,fun e=>?_⟩,(hg.block g hlt h1.2).trans h2⟩
  rcases hat with hat | ⟨b,hb,hb2⟩
  ·rw [hat] at e;exact h1.2 e
  ·rw [hb] at e;injection e with e;omega
 exact Many.snoc (hM.mono fun v r h=>hm _ _ _ _ _ _ hK h) (hm _ _ _ _ _ _ hK hq)
theorem fr_grown {x y:Nat} {w w1 w2:World} (h:Fr x y w w1) {row:Option Nat} (hg:w1.grownBy w2 row) (hr:∀ b,row=some b→w.heap.size≤b):Fr x y w w2 :=
 ⟨hg.os.trans h.os,hg.tape.trans h.tape,hg.output.trans h.output,Nat.le_trans h.size hg.size,fun k hk hx hy=>(hg.block k (Nat.lt_of_lt_of_le hk h.size) (fun e=>by have:=hr k e.symm;omega)).trans (h.block k hk hx hy)⟩
theorem ps_grown {C:Cx} {w w':World} {t:Tk} {r:List Tk} (h:PS C w t r) {row:Option Nat} (hg:w.grownBy w' row) (hr:∀ b,row=some b→C.lo≤b):PS C w' t r:=by
 have ok:=h.ok
 obtain ⟨o1,o2,o3,o4,o5,o6,o7⟩:=ok
 have hb:Below C.lo w w':=⟨hg.os,hg.tape,hg.output,hg.size,fun k hk=>hg.block k (by have:=h.lo;omega) (fun e=>by have:=hr k e.symm;omega)⟩
 have bk:∀ {g:Nat} {o:Obj},w.heap[g]?=some o→g < C.lo→w'.heap[g]?=some o:=fun h1 h2=>(hb.block _ h2).trans h1
 exact ⟨h.ok,h.par.imp fun _ x=>bk x (by omega),h.cel.imp fun _ x=>bk x (by omega),bk h.sou (by omega),src_low h.src hb (by omega) (by omega) (by omega),Nat.le_trans h.lo hg.size,h.pla,h.nxt⟩
theorem info20':(Tryz.prog.info? 20).map (fun i=>(i.zero,i.size,i.bytes))=some (some .nilIface,1,16):=by kernel_rfl
theorem own_ne63 {w:World} {base:Nat} {e t:TypeId} {s n g:Nat} {v:Value} {xs:List Value} {cs:Array Value} (h:w.ownsRow base e s v n xs) (hb:w.heap[g]?=some (.cells cs t (0,0))) (he:some g=v.ownBlock) (hne:e≠t:=by decide):False:=by
 obtain ⟨_,⟨rfl,_⟩ | ⟨g',cap,cur,rfl,hg,hh,_⟩⟩:=h
 ·simp [Value.ownBlock] at he
 ·simp [Value.ownBlock] at he
  subst he
  rw [hb] at hh
  injection hh with hh
  injection hh with h1 h2 h3
  exact hne h2.symm
theorem rev_walk {C:Cx} {w:World} {t:Tk} {r:List Tk} {n:Nat} (hn:n=50∨n=57∨n=137∨n=138∨n=144) {it:List Tk→O (List Row × List Tk)} {Q:Ok→World→List Row→Value→Prop} (hI:Item C n it Q) (h:PS C w t r) (z:Bool) (op cl:Int) (h1:op≠1) (h2:cl≠1) (f:Nat) (hf:f≤1000000) (hne:rev z it op cl f (t :: r)≠.out) :
 Calls Tryz.prog 49 #[ptr C.gp,.int .i64 op,.func (.func n) #[] #[],.int .i64 cl,.bool z] w (Got C w (rev z it op cl f (t :: r)) (fun ok w' rows sl=>SlA ok w' 20 (fun v r=>Q ok w' r v) sl rows)):=by
 have HP:=mkA h
 have OK:=mkA h.ok
 have LOW:=mkA h.lo
 have H1:=mkA h1
 have H2:=mkA h2
 have HI:=mkA hI
 have HNN:=mkA hn
 have HB:=mkA (Fr.refl C.gp C.gc w)
 clear h h1 h2 hI hn
 unfold rev at hne ⊢
 cases e_:must op (t :: r) with
 | out=>rw [e_] at hne;exact absurd rfl hne
 | bad =>
   simp only [O.bind_bad]
   have E0:=mkA e_
   clear e_ hne
   go_enter Tryz.func49,Tryz.ntmps49
   go_wp2_with (first
    | (go_at_call 79;have c_:=expect_walk HP.out op H1.out;rw [E0.out] at c_;(with_reducible refine c_.mono ?_);rintro e w1 ⟨hF,hP,te,x,rfl⟩;replace HB:=mkA (HB.out.trans hF);have HP0:=mkA hP;clear hF hP)
    | ((with_reducible refine gate_dst (N:=12) rfl ?_);refine bxz ?hr ?_;(case hr=>first | (go_simp;done) | (go_simp;rfl));intro gt hg w2 hbox hb;have n0_:=mkA (HB.out.step hb);have GT:=mkA ((by rw [hg];exact HB.out.size:w.heap.size≤gt));have GT2:=mkA (show C.lo≤gt by rw [hg];exact Nat.le_trans HP.out.lo HB.out.size);have n1_:=mkA (HP0.out.below hb);have BT:=mkA hbox;have NP:=mkA (show gt≠C.gp∧gt≠C.gc from by have:=OK.out.pl;have:=OK.out.cp;have:=GT2.out;omega);clear HB HP0 hb hbox hg;have HB:=n0_;have HP0:=n1_;clear n0_ n1_;obtain ⟨tz0,tz1,tz2,tz3,tf0,tf1,tf2,tf3⟩:=tkz BT.out))
   go_ret2
   exact ⟨HB.out.p4 (.inr (.inr GT.out)),HP0.out.p4 NP.out.1,_,te,x,rfl⟩
 | ok l0 =>
   rw [e_] at hne
   simp only [O.bind_ok] at hne ⊢
   have E0:=mkA e_
   clear e_
   have HF:=mkA hf
   by_cases hz:z=true∧hk l0=cl
   ·rw [if_pos hz]
    have HZ:=mkA hz.2
    obtain ⟨rfl,-⟩:=hz
    clear hne hf
    go_enter Tryz.func49,Tryz.ntmps49
    go_wp2_with (first
     | (go_at_call 79;have c_:=expect_walk HP.out op H1.out;rw [E0.out] at c_;(with_reducible refine c_.mono ?_);rintro e w1 ⟨hF,u0,r0,hl_,hP,rfl⟩;subst hl_;replace HB:=mkA (HB.out.trans hF);have HP0:=mkA hP;clear hF hP E0)
     | ((with_reducible refine gate_dst (N:=12) rfl ?_);refine bxz ?hr ?_;(case hr=>first | (go_simp;done) | (go_simp;rfl));intro gt hg w2 hbox hb;have n0_:=mkA (HB.out.step hb);have GT:=mkA ((by rw [hg];exact HB.out.size:w.heap.size≤gt));have GT2:=mkA (show C.lo≤gt by rw [hg];exact Nat.le_trans HP.out.lo HB.out.size);have n1_:=mkA (HP0.out.below hb);have BT:=mkA hbox;have NP:=mkA (show gt≠C.gp∧gt≠C.gc from by have:=OK.out.pl;have:=OK.out.cp;have:=GT2.out;omega);clear HB HP0 hb hbox hg;have HB:=n0_;have HP0:=n1_;clear n0_ n1_;obtain ⟨tz0,tz1,tz2,tz3,tf0,tf1,tf2,tf3⟩:=tkz BT.out))
    obtain ⟨w3,hw3⟩:∃ w3,w3=(((w2.setCell ⟨gt,0,none⟩ (.int .i64 t.k)).setCell ⟨gt,1,none⟩ (.int .i64 t.a)).setCell ⟨gt,2,none⟩ (.int .i64 t.z)).setCell ⟨gt,3,none⟩ (.string t.v):=⟨_,rfl⟩
    have n0_:=mkA (show FrC C w w3 by rw [hw3];exact HB.out.p4 (.inr (.inr GT.out)))
    have n1_:=mkA (show w3.heap[gt]?=some (.cells #[.int .i64 t.k,.int .i64 t.a,.int .i64 t.z,.string t.v] 63 (0,0)) by rw [hw3];exact tkp BT.out)
    have n2_:=mkA (show PS C w3 u0 r0 by rw [hw3];exact HP0.out.p4 GT2.out)
    rw [← hw3]
    clear HB BT HP0 hw3 tz0 tz1 tz2 tz3 tf0 tf1 tf2 tf3
    have HB:=n0_;have BT:=n1_;have HP0:=n2_
    clear n0_ n1_ n2_
    go_loopw [14] (fun v14 wr=>v14=.slice none 0 0∧w3=wr) (fun _ _=>0)
    case atStart=>exact ⟨rfl,rfl⟩
    case round =>
     obtain ⟨rfl,rfl⟩:=hrel
     have HPr:=HP0
     have HBr:=HB
     have BTr:=BT
     have hkc:u0.k=cl:=HZ.out
     have hb:(u0.k == cl)=true:=beq_iff_eq.2 hkc
     have ht:u0.k≠1:=by rw [hkc];exact H2.out
     have CS:=mkA (skip_yes HPr.out cl hb ht)
     clear HP0 HB BT hkc hb ht HZ
     cases r0 with
     | nil =>
       go_wp2_with (first
        | (go_at_call 80;(with_reducible refine CS.out.mono ?_);rintro e w4 ⟨hF,hP,te,x,rfl⟩;have HB4:=mkA (HBr.out.trans hF);have HP4:=mkA hP;clear hF hP))
       go_ret2
       exact ⟨HB4.out,HP4.out,_,te,x,rfl⟩
     | cons u5 r5 =>
       obtain ⟨i,hi,hi2⟩:=HP.out.pla
       have HI2:=mkA hi2
       have HIE:=mkA hi
       clear hi hi2
       go_wp2_with (first
        | (go_at_call 80;(with_reducible refine CS.out.mono ?_);rintro e w4 ⟨hF,hP,rfl⟩;have HB4:=mkA (HBr.out.trans hF);have HP4:=mkA hP;have HF4:=mkA hF;have BT4:=mkA (hF.blk BTr.out NP.out.1 NP.out.2);clear hF hP;have x1:w4.cell? ⟨gt,1,none⟩=some (.int .i64 i):=((blk_cell BT4.out 1).trans rfl).trans (by rw [← HIE.out];rfl))
        | (go_at_call 81;(with_reducible refine (uempty_walk HP4.out i HI2.out _ _).mono ?_);rintro e w5 ⟨⟨te,x,rfl⟩,hB⟩;have HB5:=mkA hB;clear hB))
       go_ret2
       exact ⟨HB4.out.step HB5.out,(HP4.out.below HB5.out).pb,_,te,x,rfl⟩
   ·have HZ:=mkA hz
    rw [if_neg hz] at hne ⊢
    clear hz hf
    obtain ⟨RES,hR⟩:∃ RES,RES=many it cl f l0:=⟨_,rfl⟩
    rw [← hR] at hne ⊢
    have HR:=mkA hR
    have HNE:=mkA hne
    clear hR hne
    go_enter Tryz.func49,Tryz.ntmps49
    go_wp2_with (first
     | (go_at_call 79;have c_:=expect_walk HP.out op H1.out;rw [E0.out] at c_;(with_reducible refine c_.mono ?_);rintro e w1 ⟨hF,u0,r0,hl_,hP,rfl⟩;subst hl_;replace HB:=mkA (HB.out.trans hF);have HP0:=mkA hP;clear hF hP E0)
     | ((with_reducible refine gate_dst (N:=12) rfl ?_);refine bxz ?hr ?_;(case hr=>first | (go_simp;done) | (go_simp;rfl));intro gt hg w2 hbox hb;have n0_:=mkA (HB.out.step hb);have GT:=mkA ((by rw [hg];exact HB.out.size:w.heap.size≤gt));have GT2:=mkA (show C.lo≤gt by rw [hg];exact Nat.le_trans HP.out.lo HB.out.size);have n1_:=mkA (HP0.out.below hb);have BT:=mkA hbox;have NP:=mkA (show gt≠C.gp∧gt≠C.gc from by have:=OK.out.pl;have:=OK.out.cp;have:=GT2.out;omega);clear HB HP0 hb hbox hg;have HB:=n0_;have HP0:=n1_;clear n0_ n1_;obtain ⟨tz0,tz1,tz2,tz3,tf0,tf1,tf2,tf3⟩:=tkz BT.out))
    obtain ⟨w3,hw3⟩:∃ w3,w3=(((w2.setCell ⟨gt,0,none⟩ (.int .i64 t.k)).setCell ⟨gt,1,none⟩ (.int .i64 t.a)).setCell ⟨gt,2,none⟩ (.int .i64 t.z)).setCell ⟨gt,3,none⟩ (.string t.v):=⟨_,rfl⟩
    have n0_:=mkA (show FrC C w w3 by rw [hw3];exact HB.out.p4 (.inr (.inr GT.out)))
    have n1_:=mkA (show w3.heap[gt]?=some (.cells #[.int .i64 t.k,.int .i64 t.a,.int .i64 t.z,.string t.v] 63 (0,0)) by rw [hw3];exact tkp BT.out)
    have n2_:=mkA (show PS C w3 u0 r0 by rw [hw3];exact HP0.out.p4 GT2.out)
    rw [← hw3]
    clear HB BT HP0 hw3 tz0 tz1 tz2 tz3 tf0 tf1 tf2 tf3
    have HB:=n0_;have BT:=n1_;have HP0:=n2_
    clear n0_ n1_ n2_
    go_loopg [14] f (fun gk v14 wr=>∃ (xs:List Value) (rows:List Row) (t':Tk) (r':List Tk),Aside0 (wr.ownsRow w.heap.size 20 1 v14 xs.length xs)∧Aside0 (Many (fun v rw=>Q (okl w.heap.size v14) wr rw v) xs rows)∧Aside0 (PS C wr t' r')∧Aside0 (RES=(many it cl gk (t' :: r')).bind fun y=>.ok (rows++y.1,y.2))∧Aside0 (FrC C w wr)∧Aside0 (wr.heap[gt]?=some (.cells #[.int .i64 t.k,.int .i64 t.a,.int .i64 t.z,.string t.v] 63 (0,0)))∧Aside0 (xs.length+gk≤f)∧Aside0 (z=true→xs≠[]∨t'.k≠cl))
    case atStart=>exact ⟨[],[],u0,r0,⟨World.ownsRow_nil _ _ _ _⟩,⟨.nil⟩,HP0,⟨by rw [HR.out];cases many it cl f (u0 :: r0) <;> rfl⟩,HB,BT,⟨by simp⟩,⟨fun e=>.inr (fun h=>HZ.out ⟨e,h⟩)⟩⟩
    case round =>
     obtain ⟨xs,rows,t',r',HO,HM,HPr,HRr,HBr,BTr,HN,HZr⟩:=hrel
     clear HB BT HP0
     cases gk with
     | zero=>exact absurd HRr.out (fun e=>HNE.out (by rw [e];rfl))
     | succ k1 =>
       by_cases hkc:t'.k=cl
       ·have hb:(t'.k == cl)=true:=beq_iff_eq.2 hkc
        have ht:t'.k≠1:=by rw [hkc];exact H2.out
        have CS:=mkA (skip_yes HPr.out cl hb ht)
        have hr:=HRr.out
        have e2:many it cl (k1+1) (t' :: r')=(adv (t' :: r')).bind fun r=>.ok ([],r):=by show (if hk (t' :: r')=cl then _ else _)=_;rw [if_pos (by exact hkc)]
        rw [e2] at hr
        clear HRr e2
        cases r' with
        | nil =>
          rw [adv_nil ht] at hr
          have hR1:RES=O.bad:=hr
          clear hr hb ht hkc
          subst hR1
          go_wp2_with (first
           | (go_at_call 80;(with_reducible refine CS.out.mono ?_);rintro e w4 ⟨hF,hP,te,x,rfl⟩;have HB4:=mkA (HBr.out.trans hF);have HP4:=mkA hP;clear hF hP))
          go_ret2
          exact ⟨HB4.out,HP4.out,_,te,x,rfl⟩
        | cons u5 r5 =>
          rw [adv_cons ht] at hr
          have hR1:RES=O.ok (rows,u5 :: r5):=by rw [hr];simp
          clear hr hb ht
          subst hR1
          have HX:=mkA (fun hz:z=true=>(HZr.out hz).resolve_right (fun h=>h hkc))
          clear hkc
          have hsl:∃ (A:Option Addr) (cp:Nat),u14=.slice A xs.length cp:=by
           obtain ⟨_,⟨rfl,h0⟩ | ⟨g9,cap,cur,rfl,_⟩⟩:=HO.out
           ·exact ⟨none,0,by rw [h0]⟩
           ·exact ⟨_,cap,rfl⟩
          obtain ⟨A,cp,rfl⟩:=hsl
          have HD:z=true→((xs.length:Int) == 0)=false:=fun hz=>by
           have:=HX.out hz
           rw [beq_eq_false_iff_ne]
           intro e
           exact this (List.length_eq_zero_iff.1 (by omega))
          have HDD:=mkA HD
          clear HD
          have hz2:z=false∨(z=true∧((xs.length:Int) == 0)=false):=by
           cases hz:z with
           | false=>exact .inl rfl
           | true=>exact .inr ⟨rfl,HDD.out hz⟩
          rcases hz2 with rfl | ⟨rfl,hx0⟩
          all_goals
           go_wp2_with (first
            | (go_at_call 80;(with_reducible refine CS.out.mono ?_);rintro e w4 ⟨hF,hP,rfl⟩;have HB4:=mkA (HBr.out.trans hF);have HP4:=mkA hP;have HF4:=mkA hF;have BT4:=mkA (hF.blk BTr.out NP.out.1 NP.out.2);clear hF hP))
           go_ret2
           refine ⟨HB4.out,_,u5,r5,rfl,HP4.out,⟨xs.length,xs,by have:=HN.out;have:=HF.out;omega,own_of (own_keep HO.out (fun g o hg hh=>HF4.out.blk hh (by have:=LOW.out;have:=OK.out.pl;omega) (by have:=LOW.out;have:=OK.out.pl;have:=OK.out.cp;omega))),HM.out.mono (fun v r h=>HI.out.mono _ _ _ _ _ _ (show Keeps (okl w.heap.size _) (from_ w.heap.size) _ w4 from fun g o h1 h2=>⟨h1.1,HF4.out.blk h2 (by have:=LOW.out;have:=OK.out.pl;have:=h1.1;omega) (by have:=LOW.out;have:=OK.out.pl;have:=OK.out.cp;have:=h1.1;omega)⟩) h)⟩,rfl⟩
       ·have hb:(t'.k == cl)=false:=beq_eq_false_iff_ne.2 hkc
        have CS:=mkA (skip_no HPr.out cl hb)
        have hr:=HRr.out
        have e2:many it cl (k1+1) (t' :: r')=(it (t' :: r')).bind fun x=>(many it cl k1 x.2).bind fun y=>.ok (x.1++y.1,y.2):=by show (if hk (t' :: r')=cl then _ else _)=_;rw [if_neg (by exact hkc)]
        rw [e2] at hr
        clear HRr e2 hb hkc
        cases e_:it (t' :: r') with
        | out=>rw [e_] at hr;exact absurd hr HNE.out
        | bad =>
          rw [e_] at hr
          have E1:=mkA e_
          have hR1:RES=O.bad:=hr
          clear e_ hr
          subst hR1
          rcases HNN.out with rfl | rfl | rfl | rfl | rfl
          all_goals
           go_wp2_with (first
            | (go_at_call 80;(with_reducible refine CS.out.mono ?_);rintro e w4 ⟨rfl,rfl⟩)
            | (go_at_call 50;have c_:=HI.out.call _ _ _ HPr.out (by rw [E1.out];exact fun e=>by cases e);rw [E1.out] at c_;(with_reducible refine c_.mono ?_);rintro e w5 ⟨hF,hP,v_,te,x,rfl⟩;have HB5:=mkA (HBr.out.trans hF);have HP5:=mkA hP;clear hF hP)
            | (go_at_call 57;have c_:=HI.out.call _ _ _ HPr.out (by rw [E1.out];exact fun e=>by cases e);rw [E1.out] at c_;(with_reducible refine c_.mono ?_);rintro e w5 ⟨hF,hP,v_,te,x,rfl⟩;have HB5:=mkA (HBr.out.trans hF);have HP5:=mkA hP;clear hF hP)
            | (go_at_call 137;have c_:=HI.out.call _ _ _ HPr.out (by rw [E1.out];exact fun e=>by cases e);rw [E1.out] at c_;(with_reducible refine c_.mono ?_);rintro e w5 ⟨hF,hP,v_,te,x,rfl⟩;have HB5:=mkA (HBr.out.trans hF);have HP5:=mkA hP;clear hF hP)
            | (go_at_call 138;have c_:=HI.out.call _ _ _ HPr.out (by rw [E1.out];exact fun e=>by cases e);rw [E1.out] at c_;(with_reducible refine c_.mono ?_);rintro e w5 ⟨hF,hP,v_,te,x,rfl⟩;have HB5:=mkA (HBr.out.trans hF);have HP5:=mkA hP;clear hF hP)
            | (go_at_call 144;have c_:=HI.out.call _ _ _ HPr.out (by rw [E1.out];exact fun e=>by cases e);rw [E1.out] at c_;(with_reducible refine c_.mono ?_);rintro e w5 ⟨hF,hP,v_,te,x,rfl⟩;have HB5:=mkA (HBr.out.trans hF);have HP5:=mkA hP;clear hF hP))
           go_ret2
           exact ⟨HB5.out,HP5.out,_,te,x,rfl⟩
        | ok a_ =>
          obtain ⟨rw_,l2⟩:=a_
          rw [e_] at hr
          simp only [O.bind_ok] at hr
          have E1:=mkA e_
          have HR1:=mkA hr
          clear e_ hr
          rcases HNN.out with rfl | rfl | rfl | rfl | rfl
          all_goals
           go_wp2_with (first
            | (go_at_call 80;(with_reducible refine CS.out.mono ?_);rintro e w4 ⟨rfl,rfl⟩)
            | (go_at_call 50;have c_:=HI.out.call _ _ _ HPr.out (by rw [E1.out];exact fun e=>by cases e);rw [E1.out] at c_;(with_reducible refine c_.mono ?_);rintro e w5 ⟨hF,v5,u5,r5,hl_,hP,hQ,rfl⟩;subst hl_;obtain ⟨te,x,rfl⟩:=HI.out.shape _ _ _ _ hQ;have HB5:=mkA (HBr.out.trans hF);have HP5:=mkA hP;have HQ5:=mkA hQ;have BT5:=mkA (hF.blk BTr.out NP.out.1 NP.out.2);have HO5:=mkA (own_keep HO.out (fun g o hg hh=>hF.blk hh (by have:=LOW.out;have:=OK.out.pl;omega) (by have:=LOW.out;have:=OK.out.pl;have:=OK.out.cp;omega)));have HM5:=mkA (HM.out.mono (fun v r h=>HI.out.mono _ _ _ _ _ _ (show Keeps (okl w.heap.size u14) (okl w.heap.size u14) _ w5 from fun g o h1 h2=>⟨h1,hF.blk h2 (by have:=LOW.out;have:=OK.out.pl;have:=h1.1;omega) (by have:=LOW.out;have:=OK.out.pl;have:=OK.out.cp;have:=h1.1;omega)⟩) h));have HN5:=mkA (HI.out.mono _ _ _ _ _ _ (show Keeps (from_ wr.heap.size) (okl w.heap.size u14) w5 w5 from fun g o h1 h2=>⟨⟨Nat.le_trans HBr.out.size h1,fun e=>by have:=(own_lt HO.out e.symm).1;have:wr.heap.size≤g:=h1;omega⟩,h2⟩) hQ);clear hF hP hQ)
            | (go_at_call 57;have c_:=HI.out.call _ _ _ HPr.out (by rw [E1.out];exact fun e=>by cases e);rw [E1.out] at c_;(with_reducible refine c_.mono ?_);rintro e w5 ⟨hF,v5,u5,r5,hl_,hP,hQ,rfl⟩;subst hl_;obtain ⟨te,x,rfl⟩:=HI.out.shape _ _ _ _ hQ;have HB5:=mkA (HBr.out.trans hF);have HP5:=mkA hP;have HQ5:=mkA hQ;have BT5:=mkA (hF.blk BTr.out NP.out.1 NP.out.2);have HO5:=mkA (own_keep HO.out (fun g o hg hh=>hF.blk hh (by have:=LOW.out;have:=OK.out.pl;omega) (by have:=LOW.out;have:=OK.out.pl;have:=OK.out.cp;omega)));have HM5:=mkA (HM.out.mono (fun v r h=>HI.out.mono _ _ _ _ _ _ (show Keeps (okl w.heap.size u14) (okl w.heap.size u14) _ w5 from fun g o h1 h2=>⟨h1,hF.blk h2 (by have:=LOW.out;have:=OK.out.pl;have:=h1.1;omega) (by have:=LOW.out;have:=OK.out.pl;have:=OK.out.cp;have:=h1.1;omega)⟩) h));have HN5:=mkA (HI.out.mono _ _ _ _ _ _ (show Keeps (from_ wr.heap.size) (okl w.heap.size u14) w5 w5 from fun g o h1 h2=>⟨⟨Nat.le_trans HBr.out.size h1,fun e=>by have:=(own_lt HO.out e.symm).1;have:wr.heap.size≤g:=h1;omega⟩,h2⟩) hQ);clear hF hP hQ)
            | (go_at_call 137;have c_:=HI.out.call _ _ _ HPr.out (by rw [E1.out];exact fun e=>by cases e);rw [E1.out] at c_;(with_reducible refine c_.mono ?_);rintro e w5 ⟨hF,v5,u5,r5,hl_,hP,hQ,rfl⟩;subst hl_;obtain ⟨te,x,rfl⟩:=HI.out.shape _ _ _ _ hQ;have HB5:=mkA (HBr.out.trans hF);have HP5:=mkA hP;have HQ5:=mkA hQ;have BT5:=mkA (hF.blk BTr.out NP.out.1 NP.out.2);have HO5:=mkA (own_keep HO.out (fun g o hg hh=>hF.blk hh (by have:=LOW.out;have:=OK.out.pl;omega) (by have:=LOW.out;have:=OK.out.pl;have:=OK.out.cp;omega)));have HM5:=mkA (HM.out.mono (fun v r h=>HI.out.mono _ _ _ _ _ _ (show Keeps (okl w.heap.size u14) (okl w.heap.size u14) _ w5 from fun g o h1 h2=>⟨h1,hF.blk h2 (by have:=LOW.out;have:=OK.out.pl;have:=h1.1;omega) (by have:=LOW.out;have:=OK.out.pl;have:=OK.out.cp;have:=h1.1;omega)⟩) h));have HN5:=mkA (HI.out.mono _ _ _ _ _ _ (show Keeps (from_ wr.heap.size) (okl w.heap.size u14) w5 w5 from fun g o h1 h2=>⟨⟨Nat.le_trans HBr.out.size h1,fun e=>by have:=(own_lt HO.out e.symm).1;have:wr.heap.size≤g:=h1;omega⟩,h2⟩) hQ);clear hF hP hQ)
            | (go_at_call 138;have c_:=HI.out.call _ _ _ HPr.out (by rw [E1.out];exact fun e=>by cases e);rw [E1.out] at c_;(with_reducible refine c_.mono ?_);rintro e w5 ⟨hF,v5,u5,r5,hl_,hP,hQ,rfl⟩;subst hl_;obtain ⟨te,x,rfl⟩:=HI.out.shape _ _ _ _ hQ;have HB5:=mkA (HBr.out.trans hF);have HP5:=mkA hP;have HQ5:=mkA hQ;have BT5:=mkA (hF.blk BTr.out NP.out.1 NP.out.2);have HO5:=mkA (own_keep HO.out (fun g o hg hh=>hF.blk hh (by have:=LOW.out;have:=OK.out.pl;omega) (by have:=LOW.out;have:=OK.out.pl;have:=OK.out.cp;omega)));have HM5:=mkA (HM.out.mono (fun v r h=>HI.out.mono _ _ _ _ _ _ (show Keeps (okl w.heap.size u14) (okl w.heap.size u14) _ w5 from fun g o h1 h2=>⟨h1,hF.blk h2 (by have:=LOW.out;have:=OK.out.pl;have:=h1.1;omega) (by have:=LOW.out;have:=OK.out.pl;have:=OK.out.cp;have:=h1.1;omega)⟩) h));have HN5:=mkA (HI.out.mono _ _ _ _ _ _ (show Keeps (from_ wr.heap.size) (okl w.heap.size u14) w5 w5 from fun g o h1 h2=>⟨⟨Nat.le_trans HBr.out.size h1,fun e=>by have:=(own_lt HO.out e.symm).1;have:wr.heap.size≤g:=h1;omega⟩,h2⟩) hQ);clear hF hP hQ)
            | (go_at_call 144;have c_:=HI.out.call _ _ _ HPr.out (by rw [E1.out];exact fun e=>by cases e);rw [E1.out] at c_;(with_reducible refine c_.mono ?_);rintro e w5 ⟨hF,v5,u5,r5,hl_,hP,hQ,rfl⟩;subst hl_;obtain ⟨te,x,rfl⟩:=HI.out.shape _ _ _ _ hQ;have HB5:=mkA (HBr.out.trans hF);have HP5:=mkA hP;have HQ5:=mkA hQ;have BT5:=mkA (hF.blk BTr.out NP.out.1 NP.out.2);have HO5:=mkA (own_keep HO.out (fun g o hg hh=>hF.blk hh (by have:=LOW.out;have:=OK.out.pl;omega) (by have:=LOW.out;have:=OK.out.pl;have:=OK.out.cp;omega)));have HM5:=mkA (HM.out.mono (fun v r h=>HI.out.mono _ _ _ _ _ _ (show Keeps (okl w.heap.size u14) (okl w.heap.size u14) _ w5 from fun g o h1 h2=>⟨h1,hF.blk h2 (by have:=LOW.out;have:=OK.out.pl;have:=h1.1;omega) (by have:=LOW.out;have:=OK.out.pl;have:=OK.out.cp;have:=h1.1;omega)⟩) h));have HN5:=mkA (HI.out.mono _ _ _ _ _ _ (show Keeps (from_ wr.heap.size) (okl w.heap.size u14) w5 w5 from fun g o h1 h2=>⟨⟨Nat.le_trans HBr.out.size h1,fun e=>by have:=(own_lt HO.out e.symm).1;have:wr.heap.size≤g:=h1;omega⟩,h2⟩) hQ);clear hF hP hQ)
            | (at_builtin;refine print_append (w0:=w5) w.heap.size rfl (.tmp 48) (.tmp 50) 113 20 .nilIface 16 rfl Tryz.underlying113 info20' rfl (by decide) u14 xs (.iface te x) rfl rfl rfl HO5.out (Below.refl _ _) HB5.out.size (by have:=HN.out;have:=HF.out;omega) ?_;intro v6 w6 ho hb hg hat;have HO6:=mkA ho;have HG6:=mkA hg;have HA6:=mkA hat;have HB6:=mkA hb;clear ho hb hg hat))
           go_roundg k1
           case measure=>omega
           case rel=>exact ⟨xs++[.iface te x],rows++rw_,u5,r5,HO6,⟨many_step HI.out.mono HM5.out HN5.out HG6.out HA6.out⟩,⟨ps_grown HP5.out HG6.out (fun b hb=>Nat.le_trans LOW.out (own_lt HO5.out hb).2)⟩,⟨by rw [HR1.out];cases many it cl k1 (u5 :: r5) with | out=>rfl | bad=>rfl | ok a=>simp⟩,⟨fr_grown HB5.out HG6.out (fun b hb=>(own_lt HO5.out hb).2)⟩,⟨(HG6.out.block gt (blk_lt BT5.out) (fun e=>by have hh:=BT5.out;have:=HO5.out.2;exact own_ne63 HO5.out hh e)).trans BT5.out⟩,⟨by have:=HN.out;simp;omega⟩,⟨fun _=>.inl (by simp)⟩⟩
end Go.Proofs.YthgcghpcikbnkaaGreatDoor.R
