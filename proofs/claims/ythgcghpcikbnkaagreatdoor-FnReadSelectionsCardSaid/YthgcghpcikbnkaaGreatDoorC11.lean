/- A part of the proof of the theorem of this claim: Fld, Mkp, Rdv. No condition of its own. -/
import Derived.Test.YthgcghpcikbnkaaGreatDoorC10
set_option maxHeartbeats 16000000
set_option maxRecDepth 100000
namespace Go.Proofs.YthgcghpcikbnkaaGreatDoor.R
open Go.RowKit Go.Proofs.YthgcghpcikbnkaaGreatDoorW.PrintWords Go.Proofs.YthgcghpcikbnkaaGreatDoorW.PrintLast Go.Proofs.YthgcghpcikbnkaaGreatDoorW.PrintMore
set_option linter.unusedVariables false
set_option linter.unusedSimpArgs false
theorem named_eq (l:List Tk):((pName l).bind fun n=>O.ok (n.1,n.2))=pName l:=by cases pName l <;> rfl
theorem parseNamed_walk' {C:Cx} {w:World} {t:Tk} {r:List Tk} (h:PS C w t r):Calls Tryz.prog 105 #[ptr C.gp] w (Got C w (pName (t :: r)) (fun ok w' v p=>NamedA ok w' p v)):=by
 have:=parseNamed_walk h (by rw [named_eq];exact pName_ne _)
 rw [named_eq] at this
 exact this
theorem von {t:Tk} {r:List Tk} (h:R.hv (t :: r)=bOn):t.v≠e0:=fun e=>by
 rw [show R.hv (t :: r)=t.v from rfl,e] at h
 exact absurd h (by decide)
theorem ne1_of_v {C:Cx} {w:World} {t:Tk} {r:List Tk} (h:PS C w t r) (hv:t.v≠e0):t.k≠1:=by
 rcases h.nxt with ⟨_,_,e⟩ | ⟨h,_⟩
 ·exact absurd e hv
 ·exact h
def AdvQ (C:Cx) (w:World) (res:O (List Tk)) (e:Ending) (w':World):Prop :=
 FrC C w w'∧match res with
 | .out=>True
 | .bad=>PB C w'∧∃ (te:TypeId) (x:Value),e=.returned (.iface te x)
 | .ok l=>∃ (u:Tk) (r':List Tk),l=u :: r'∧PS C w' u r'∧e=.returned .nilIface
theorem AdvQ.e3 {C:Cx} {w w':World} {res:O (List Tk)} {e:Ending} (h:AdvQ C w res e w'):E3 C w res (fun te x=>.iface te x) (.nilIface) e w':=by
 obtain ⟨hF,hG⟩:=h
 refine ⟨hF,?_⟩
 cases res with
 | out=>exact .inl rfl
 | bad=>exact .inr (.inl ⟨rfl,hG⟩)
 | ok l=>obtain ⟨u,r',rfl,hG⟩:=hG;exact .inr (.inr ⟨u,r',rfl,hG⟩)
theorem adv_walk2 {C:Cx} {w:World} {t:Tk} {r:List Tk} (h:PS C w t r) (ht:t.k≠1):Calls Tryz.prog 100 #[ptr C.gp] w (AdvQ C w (adv (t :: r))):=by
 refine (advance_walk h ht).mono ?_
 rintro e w' ⟨hF,hq⟩
 cases r with
 | nil=>rw [adv_nil ht];exact ⟨hF,hq⟩
 | cons u r=>rw [adv_cons ht];exact ⟨hF,u,r,rfl,hq.1,hq.2⟩
theorem frgName_walk {C:Cx} {w:World} {t:Tk} {r:List Tk} (h:PS C w t r) (hv:t.v≠bOn):Calls Tryz.prog 115 #[ptr C.gp] w (Got C w (pName (t :: r)) (fun ok w' v p=>NameA ok w' p v)):=by
 have c8:=h.cells.2.2.2.2
 obtain ⟨x1,y1⟩:=word_no (l:=[111,110]) hv
 have CN:=mkA (parseName_walk h)
 clear h hv
 cases e_:pName (t :: r) with
 | out=>exact absurd e_ (pName_ne _)
 | bad =>
   rw [e_] at CN
   clear e_
   go_enter Tryz.func115,Tryz.ntmps115
   go_wp2_with (first
    | (go_at_call 102;(with_reducible refine CN.out.mono ?_);rintro e w1 ⟨hF,hP,v_,te,x,rfl⟩;have HF:=mkA hF;have HP:=mkA hP;clear hF hP))
   go_ret2
   exact ⟨HF.out,HP.out,_,te,x,rfl⟩
 | ok a_ =>
   rw [e_] at CN
   clear e_
   go_enter Tryz.func115,Tryz.ntmps115
   go_wp2_with (first
    | (go_at_call 102;(with_reducible refine CN.out.mono ?_);rintro e w1 ⟨hF,v_,u,r',hl_,hP,hN,rfl⟩;have HF:=mkA hF;have HP:=mkA hP;have HN:=mkA hN;have HL:=mkA hl_;clear hF hP hN hl_))
   go_ret2
   exact ⟨HF.out,_,u,r',HL.out,HP.out,HN.out,rfl⟩
theorem field_walk {C:Cx} {w:World} {t:Tk} {r:List Tk} {f:Nat} (hS:SelSpec C f) (hf:f≤1000000) (h:PS C w t r) (hne:((pName (t :: r)).bind fun n=>(if R.hk n.2=7 then (adv n.2).bind fun r=>(pName r).bind fun m=>.ok (m.1,n.1,m.2) else .ok (n.1,e0,n.2)).bind fun m=>(pArgs f m.2.2).bind fun a=>(pDirs f f a.2).bind fun d=>(if R.hk d.2=12 then pSet (pSel f) f d.2 else .ok ([],d.2)).bind fun y=>.ok (nd 6 m.1 m.2.1 e0 0 (a.1++d.1++y.1),y.2))≠.out):Calls Tryz.prog 87 #[ptr C.gp] w (Got C w ((pName (t :: r)).bind fun n=>(if R.hk n.2=7 then (adv n.2).bind fun r=>(pName r).bind fun m=>.ok (m.1,n.1,m.2) else .ok (n.1,e0,n.2)).bind fun m=>(pArgs f m.2.2).bind fun a=>(pDirs f f a.2).bind fun d=>(if R.hk d.2=12 then pSet (pSel f) f d.2 else .ok ([],d.2)).bind fun y=>.ok (nd 6 m.1 m.2.1 e0 0 (a.1++d.1++y.1),y.2)) (fun ok w' rows p=>SelE ok w' rows (.iface 154 p)∧∃ g,p=ptr g)):=by
 have HP:=mkA h
 have OK:=mkA h.ok
 have LOW:=mkA h.lo
 have c6:=h.cells.2.2.1
 have HB:=mkA (Fr.refl C.gp C.gc w)
 clear h
 have HFB:=mkA hf
 have HS0:=mkA hS
 clear hf hS
 obtain ⟨RES,hR⟩:∃ RES,RES=((pName (t :: r)).bind fun n=>(if R.hk n.2=7 then (adv n.2).bind fun r=>(pName r).bind fun m=>.ok (m.1,n.1,m.2) else .ok (n.1,e0,n.2)).bind fun m=>(pArgs f m.2.2).bind fun a=>(pDirs f f a.2).bind fun d=>(if R.hk d.2=12 then pSet (pSel f) f d.2 else .ok ([],d.2)).bind fun y=>.ok (nd 6 m.1 m.2.1 e0 0 (a.1++d.1++y.1),y.2)):=⟨_,rfl⟩
 rw [← hR] at hne ⊢
 have HR:=mkA hR
 have HN:=mkA hne
 clear hR hne
 go_enter Tryz.func87,Tryz.ntmps87
 go_wp2_with fail
 refine (parseName_walk HP.out).mono ?_
 intro e w0 hG;have G:=got_cases hG (fun h k=>h.fr k) OK LOW HB HR HN;clear hG HB HR
 rcases G with ⟨v_,te,x,rfl,rfl,HP0,HB⟩ | ⟨v0,u0,r0,p0,rfl,HR,HP0,HB,K,N0⟩
 ·go_wp2;go_ret2;exact ⟨HB.out,HP0.out,_,te,x,rfl⟩
 obtain ⟨gq0,rfl⟩:=NameA.ptr N0.out
 clear K
 by_cases hc:R.hk (u0 :: r0)=7
 ·have h_:=HR.out;rw [if_pos hc] at h_;simp only [O.bind_assoc,O.bind_ok] at h_;replace HR:=mkA h_;have HC1:=mkA hc;clear hc h_
  go_wp2_with fail
  refine (skip_adv HP0.out 7 HC1.out (by decide)).mono ?_
  intro e w1 hG;have G:=exp_cases hG.e3 OK LOW HB HR HN;clear hG HB HR
  rcases G with ⟨te,x,rfl,rfl,HP1,HB⟩ | ⟨u1,r1,rfl,HR,HP1,HB,K⟩
  ·go_wp2;go_ret2;exact ⟨HB.out,HP1.out,_,te,x,rfl⟩
  replace N0:=mkA (N0.out.fr K.out)
  clear K
  go_wp2_with fail
  refine (parseName_walk HP1.out).mono ?_
  intro e w2 hG;have G:=got_cases hG (fun h k=>h.fr k) OK LOW HB HR HN;clear hG HB HR
  rcases G with ⟨v_,te,x,rfl,rfl,HP2,HB⟩ | ⟨v2,u2,r2,p2,rfl,HR,HP2,HB,K,N2⟩
  ·go_wp2;go_ret2;exact ⟨HB.out,HP2.out,_,te,x,rfl⟩
  obtain ⟨gq2,rfl⟩:=NameA.ptr N2.out
  replace N0:=mkA (N0.out.fr K.out)
  clear K
  go_wp2_with fail
  refine (args_walk HFB.out HP2.out (no_out HR HN)).mono ?_
  intro e w3 hG;have G:=got_cases hG (fun h k=>ArgsA.fr h k) OK LOW HB HR HN;clear hG HB HR
  rcases G with ⟨v_,te,x,rfl,rfl,HP3,HB⟩ | ⟨v3,u3,r3,p3,rfl,HR,HP3,HB,K,N3⟩
  ·go_wp2;go_ret2;exact ⟨HB.out,HP3.out,_,te,x,rfl⟩
  obtain ⟨aa3,an3,ac3,rfl⟩:=SlA.shape N3.out
  replace N0:=mkA (N0.out.fr K.out)
  replace N2:=mkA (N2.out.fr K.out)
  clear K
  go_wp2_with fail
  refine (dirs_walk HFB.out HFB.out HP3.out (no_out HR HN)).mono ?_
  intro e w4 hG;have G:=got_cases hG (fun h k=>DirsA.fr h k) OK LOW HB HR HN;clear hG HB HR
  rcases G with ⟨v_,te,x,rfl,rfl,HP4,HB⟩ | ⟨v4,u4,r4,p4,rfl,HR,HP4,HB,K,N4⟩
  ·go_wp2;go_ret2;exact ⟨HB.out,HP4.out,_,te,x,rfl⟩
  obtain ⟨ds4,dn4,dc4,rfl⟩:=DirsA.shape N4.out
  replace N0:=mkA (N0.out.fr K.out)
  replace N2:=mkA (N2.out.fr K.out)
  replace N3:=mkA (ArgsA.fr N3.out K.out)
  clear K
  by_cases hc:R.hk (u4 :: r4)=12
  ·have h_:=HR.out;rw [if_pos hc] at h_;simp only [O.bind_assoc,O.bind_ok] at h_;replace HR:=mkA h_;have HC2:=mkA hc;clear hc h_
   go_wp2_with fail
   have b_:=hkb HC2.out;refine (peek_walk HP4.out 12).mono ?_;rintro e w_ ⟨rfl,rfl⟩
   go_wp2_with fail
   refine (set_walk HS0.out HFB.out HP4.out (no_out HR HN)).mono ?_
   intro e w5 hG;have G:=got_cases hG (fun h k=>SetE.fr h k) OK LOW HB HR HN;clear hG HB HR
   rcases G with ⟨v_,te,x,rfl,rfl,HP5,HB⟩ | ⟨v5,u5,r5,p5,rfl,HR,HP5,HB,K,N5⟩
   ·go_wp2;go_ret2;exact ⟨HB.out,HP5.out,_,te,x,rfl⟩
   obtain ⟨gs5,rfl⟩:=SetE.ptr N5.out
   replace N0:=mkA (N0.out.fr K.out)
   replace N2:=mkA (N2.out.fr K.out)
   replace N3:=mkA (ArgsA.fr N3.out K.out)
   replace N4:=mkA (DirsA.fr N4.out K.out)
   clear K
   go_wp2_with (first | (go_at_call 59;refine (loc_ps HP5.out _).mono ?_;rintro e wl ⟨⟨gl,rfl,hgl⟩,hBl⟩;have HL:=mkA hgl;have HBl:=mkA hBl;clear hgl hBl) | (go_at_call 120;refine (newField (heap_alloc_new wl _) (Nat.le_refl _) (below_alloc (Below.refl wl.heap.size wl) _).size).mono ?_;rintro e w9 ⟨⟨g9,k9,rfl,q1,h91⟩,q4⟩;obtain ⟨H90,HW,KX,KW⟩:=new_facts HB HBl.out q4 q1;have H91:=mkA h91;clear q1 q4 h91))
   go_ret2
   have h_:=HR.out;subst h_;exact ⟨HB.out.step HW.out,_,_,_,rfl,HP5.out.below HW.out,⟨.field ⟨H90.out,H91.out⟩ (HL.out.fr KX.out) (.inr (N0.out.fr KW.out)) (N2.out.fr KW.out) (ArgsA.fr N3.out KW.out) (DirsA.fr N4.out KW.out) (.inr (SetE.fr N5.out KW.out)),_,rfl⟩,rfl⟩
  ·have h_:=HR.out;rw [if_neg hc] at h_;simp only [O.bind_assoc,O.bind_ok] at h_;replace HR:=mkA h_;have HC2:=mkA hc;clear hc h_
   go_wp2_with fail
   have b_:=hkn HC2.out;refine (peek_walk HP4.out 12).mono ?_;rintro e w_ ⟨rfl,rfl⟩
   go_wp2_with (first | (go_at_call 59;refine (loc_ps HP4.out _).mono ?_;rintro e wl ⟨⟨gl,rfl,hgl⟩,hBl⟩;have HL:=mkA hgl;have HBl:=mkA hBl;clear hgl hBl) | (go_at_call 120;refine (newField (heap_alloc_new wl _) (Nat.le_refl _) (below_alloc (Below.refl wl.heap.size wl) _).size).mono ?_;rintro e w9 ⟨⟨g9,k9,rfl,q1,h91⟩,q4⟩;obtain ⟨H90,HW,KX,KW⟩:=new_facts HB HBl.out q4 q1;have H91:=mkA h91;clear q1 q4 h91))
   go_ret2
   have h_:=HR.out;subst h_;exact ⟨HB.out.step HW.out,_,_,_,rfl,HP4.out.below HW.out,⟨.field ⟨H90.out,H91.out⟩ (HL.out.fr KX.out) (.inr (N0.out.fr KW.out)) (N2.out.fr KW.out) (ArgsA.fr N3.out KW.out) (DirsA.fr N4.out KW.out) (.inl ⟨rfl,rfl⟩),_,rfl⟩,rfl⟩
 ·have h_:=HR.out;rw [if_neg hc] at h_;simp only [O.bind_assoc,O.bind_ok] at h_;replace HR:=mkA h_;have HC1:=mkA hc;clear hc h_
  go_wp2_with fail
  refine (skip_no' HP0.out 7 HC1.out).mono ?_;rintro e w_ ⟨rfl,rfl⟩
  go_wp2_with fail
  refine (args_walk HFB.out HP0.out (no_out HR HN)).mono ?_
  intro e w6 hG;have G:=got_cases hG (fun h k=>ArgsA.fr h k) OK LOW HB HR HN;clear hG HB HR
  rcases G with ⟨v_,te,x,rfl,rfl,HP6,HB⟩ | ⟨v6,u6,r6,p6,rfl,HR,HP6,HB,K,N6⟩
  ·go_wp2;go_ret2;exact ⟨HB.out,HP6.out,_,te,x,rfl⟩
  obtain ⟨aa6,an6,ac6,rfl⟩:=SlA.shape N6.out
  replace N0:=mkA (N0.out.fr K.out)
  clear K
  go_wp2_with fail
  refine (dirs_walk HFB.out HFB.out HP6.out (no_out HR HN)).mono ?_
  intro e w7 hG;have G:=got_cases hG (fun h k=>DirsA.fr h k) OK LOW HB HR HN;clear hG HB HR
  rcases G with ⟨v_,te,x,rfl,rfl,HP7,HB⟩ | ⟨v7,u7,r7,p7,rfl,HR,HP7,HB,K,N7⟩
  ·go_wp2;go_ret2;exact ⟨HB.out,HP7.out,_,te,x,rfl⟩
  obtain ⟨ds7,dn7,dc7,rfl⟩:=DirsA.shape N7.out
  replace N0:=mkA (N0.out.fr K.out)
  replace N6:=mkA (ArgsA.fr N6.out K.out)
  clear K
  by_cases hc:R.hk (u7 :: r7)=12
  ·have h_:=HR.out;rw [if_pos hc] at h_;simp only [O.bind_assoc,O.bind_ok] at h_;replace HR:=mkA h_;have HC2:=mkA hc;clear hc h_
   go_wp2_with fail
   have b_:=hkb HC2.out;refine (peek_walk HP7.out 12).mono ?_;rintro e w_ ⟨rfl,rfl⟩
   go_wp2_with fail
   refine (set_walk HS0.out HFB.out HP7.out (no_out HR HN)).mono ?_
   intro e w8 hG;have G:=got_cases hG (fun h k=>SetE.fr h k) OK LOW HB HR HN;clear hG HB HR
   rcases G with ⟨v_,te,x,rfl,rfl,HP8,HB⟩ | ⟨v8,u8,r8,p8,rfl,HR,HP8,HB,K,N8⟩
   ·go_wp2;go_ret2;exact ⟨HB.out,HP8.out,_,te,x,rfl⟩
   obtain ⟨gs8,rfl⟩:=SetE.ptr N8.out
   replace N0:=mkA (N0.out.fr K.out)
   replace N6:=mkA (ArgsA.fr N6.out K.out)
   replace N7:=mkA (DirsA.fr N7.out K.out)
   clear K
   go_wp2_with (first | (go_at_call 59;refine (loc_ps HP8.out _).mono ?_;rintro e wl ⟨⟨gl,rfl,hgl⟩,hBl⟩;have HL:=mkA hgl;have HBl:=mkA hBl;clear hgl hBl) | (go_at_call 120;refine (newField (heap_alloc_new wl _) (Nat.le_refl _) (below_alloc (Below.refl wl.heap.size wl) _).size).mono ?_;rintro e w9 ⟨⟨g9,k9,rfl,q1,h91⟩,q4⟩;obtain ⟨H90,HW,KX,KW⟩:=new_facts HB HBl.out q4 q1;have H91:=mkA h91;clear q1 q4 h91))
   go_ret2
   have h_:=HR.out;subst h_;exact ⟨HB.out.step HW.out,_,_,_,rfl,HP8.out.below HW.out,⟨.field ⟨H90.out,H91.out⟩ (HL.out.fr KX.out) (.inl ⟨rfl,rfl⟩) (N0.out.fr KW.out) (ArgsA.fr N6.out KW.out) (DirsA.fr N7.out KW.out) (.inr (SetE.fr N8.out KW.out)),_,rfl⟩,rfl⟩
  ·have h_:=HR.out;rw [if_neg hc] at h_;simp only [O.bind_assoc,O.bind_ok] at h_;replace HR:=mkA h_;have HC2:=mkA hc;clear hc h_
   go_wp2_with fail
   have b_:=hkn HC2.out;refine (peek_walk HP7.out 12).mono ?_;rintro e w_ ⟨rfl,rfl⟩
   go_wp2_with (first | (go_at_call 59;refine (loc_ps HP7.out _).mono ?_;rintro e wl ⟨⟨gl,rfl,hgl⟩,hBl⟩;have HL:=mkA hgl;have HBl:=mkA hBl;clear hgl hBl) | (go_at_call 120;refine (newField (heap_alloc_new wl _) (Nat.le_refl _) (below_alloc (Below.refl wl.heap.size wl) _).size).mono ?_;rintro e w9 ⟨⟨g9,k9,rfl,q1,h91⟩,q4⟩;obtain ⟨H90,HW,KX,KW⟩:=new_facts HB HBl.out q4 q1;have H91:=mkA h91;clear q1 q4 h91))
   go_ret2
   have h_:=HR.out;subst h_;exact ⟨HB.out.step HW.out,_,_,_,rfl,HP7.out.below HW.out,⟨.field ⟨H90.out,H91.out⟩ (HL.out.fr KX.out) (.inl ⟨rfl,rfl⟩) (N0.out.fr KW.out) (ArgsA.fr N6.out KW.out) (DirsA.fr N7.out KW.out) (.inl ⟨rfl,rfl⟩),_,rfl⟩,rfl⟩
theorem frag_walk {C:Cx} {w:World} {t:Tk} {r:List Tk} {f:Nat} (hS:SelSpec C f) (hf:f≤1000000) (h:PS C w t r) (hne:((must 6 (t :: r)).bind fun r=>if R.hk r=15∧R.hv r≠bOn then (pName r).bind fun n=>(pDirs f f n.2).bind fun x=>.ok (nd 7 n.1 e0 e0 0 x.1,x.2) else (if R.hv r=bOn then (adv r).bind fun r=>pName r else .ok (e0,r)).bind fun n=>(pDirs f f n.2).bind fun x=>(pSet (pSel f) f x.2).bind fun y=>.ok (nd 8 e0 e0 n.1 0 (x.1++y.1),y.2))≠.out):Calls Tryz.prog 86 #[ptr C.gp] w (Got C w ((must 6 (t :: r)).bind fun r=>if R.hk r=15∧R.hv r≠bOn then (pName r).bind fun n=>(pDirs f f n.2).bind fun x=>.ok (nd 7 n.1 e0 e0 0 x.1,x.2) else (if R.hv r=bOn then (adv r).bind fun r=>pName r else .ok (e0,r)).bind fun n=>(pDirs f f n.2).bind fun x=>(pSet (pSel f) f x.2).bind fun y=>.ok (nd 8 e0 e0 n.1 0 (x.1++y.1),y.2)) (SelE)):=by
 have HP:=mkA h
 have OK:=mkA h.ok
 have LOW:=mkA h.lo
 have c6:=h.cells.2.2.1
 have HB:=mkA (Fr.refl C.gp C.gc w)
 clear h
 have HFB:=mkA hf
 have HS0:=mkA hS
 clear hf hS
 obtain ⟨RES,hR⟩:∃ RES,RES=((must 6 (t :: r)).bind fun r=>if R.hk r=15∧R.hv r≠bOn then (pName r).bind fun n=>(pDirs f f n.2).bind fun x=>.ok (nd 7 n.1 e0 e0 0 x.1,x.2) else (if R.hv r=bOn then (adv r).bind fun r=>pName r else .ok (e0,r)).bind fun n=>(pDirs f f n.2).bind fun x=>(pSet (pSel f) f x.2).bind fun y=>.ok (nd 8 e0 e0 n.1 0 (x.1++y.1),y.2)):=⟨_,rfl⟩
 rw [← hR] at hne ⊢
 have HR:=mkA hR
 have HN:=mkA hne
 clear hR hne
 go_enter Tryz.func86,Tryz.ntmps86
 go_wp2_with fail
 refine (expect_walk HP.out 6 (by decide)).mono ?_
 intro e w0 hG;have G:=exp_cases hG.e3 OK LOW HB HR HN;clear hG HB HR
 rcases G with ⟨te,x,rfl,rfl,HP0,HB⟩ | ⟨u0,r0,rfl,HR,HP0,HB,K⟩
 ·go_wp2;go_ret2;exact ⟨HB.out,HP0.out,_,te,x,rfl⟩
 clear K
 by_cases hc:R.hk (u0 :: r0)=15∧R.hv (u0 :: r0)≠bOn
 ·have h_:=HR.out;rw [if_pos hc] at h_;(try simp only [O.bind_assoc,O.bind_ok] at h_);replace HR:=mkA h_;have HC1:=mkA hc;clear hc h_
  have HC2:=mkA HC1.out.1
  have HVN:=mkA HC1.out.2
  have d8:=HP0.out.cells.2.2.2.2;obtain ⟨x1,y1⟩:=word_no (l:=[111,110]) (show u0.v≠_ from HVN.out)
  go_wp2_with fail
  have b_:=hkb HC2.out;refine (peek_walk HP0.out 15).mono ?_;rintro e w_ ⟨rfl,rfl⟩
  go_wp2_with fail
  refine (frgName_walk HP0.out (show _≠_ from HVN.out)).mono ?_
  intro e w1 hG;have G:=got_cases hG (fun h k=>h.fr k) OK LOW HB HR HN;clear hG HB HR
  rcases G with ⟨v_,te,x,rfl,rfl,HP1,HB⟩ | ⟨v1,u1,r1,p1,rfl,HR,HP1,HB,K,N1⟩
  ·go_wp2;go_ret2;exact ⟨HB.out,HP1.out,_,te,x,rfl⟩
  obtain ⟨gq1,rfl⟩:=NameA.ptr N1.out
  clear K
  go_wp2_with fail
  refine (dirs_walk HFB.out HFB.out HP1.out (no_out HR HN)).mono ?_
  intro e w2 hG;have G:=got_cases hG (fun h k=>DirsA.fr h k) OK LOW HB HR HN;clear hG HB HR
  rcases G with ⟨v_,te,x,rfl,rfl,HP2,HB⟩ | ⟨v2,u2,r2,p2,rfl,HR,HP2,HB,K,N2⟩
  ·go_wp2;go_ret2;exact ⟨HB.out,HP2.out,_,te,x,rfl⟩
  obtain ⟨ds2,dn2,dc2,rfl⟩:=DirsA.shape N2.out
  replace N1:=mkA (N1.out.fr K.out)
  clear K
  go_wp2_with (first | (go_at_call 59;refine (loc_ps HP2.out _).mono ?_;rintro e wl ⟨⟨gl,rfl,hgl⟩,hBl⟩;have HL:=mkA hgl;have HBl:=mkA hBl;clear hgl hBl) | (go_at_call 117;refine (newSpread (heap_alloc_new wl _) (Nat.le_refl _) (below_alloc (Below.refl wl.heap.size wl) _).size).mono ?_;rintro e w9 ⟨⟨g9,k9,rfl,q1,h91⟩,q4⟩;obtain ⟨H90,HW,KX,KW⟩:=new_facts HB HBl.out q4 q1;have H91:=mkA h91;clear q1 q4 h91))
  go_ret2
  have h_:=HR.out;subst h_;exact ⟨HB.out.step HW.out,_,_,_,rfl,HP2.out.below HW.out,.spread ⟨H90.out,H91.out⟩ (HL.out.fr KX.out) (N1.out.fr KW.out) (DirsA.fr N2.out KW.out),rfl⟩
 ·have h_:=HR.out;rw [if_neg hc] at h_;(try simp only [O.bind_assoc,O.bind_ok] at h_);replace HR:=mkA h_;have HC1:=mkA hc;clear hc h_
  by_cases hc:R.hv (u0 :: r0)=bOn
  ·have h_:=HR.out;rw [if_pos hc] at h_;(try simp only [O.bind_assoc,O.bind_ok] at h_);replace HR:=mkA h_;have HC3:=mkA hc;clear hc h_
   have HVY:=HC3
   have d8:=HP0.out.cells.2.2.2.2;obtain ⟨x1,y1⟩:=word_yes (l:=[111,110]) (show u0.v=_ from HVY.out)
   by_cases hc:R.hk (u0 :: r0)=15
   ·have HC4:=mkA hc;clear hc
    go_wp2_with fail
    have b_:=hkb HC4.out;refine (peek_walk HP0.out 15).mono ?_;rintro e w_ ⟨rfl,rfl⟩
    go_wp2_with fail
    refine (adv_walk2 HP0.out (ne1_of_v HP0.out (von HVY.out))).mono ?_
    intro e w3 hG;have G:=exp_cases hG.e3 OK LOW HB HR HN;clear hG HB HR
    rcases G with ⟨te,x,rfl,rfl,HP3,HB⟩ | ⟨u3,r3,rfl,HR,HP3,HB,K⟩
    ·go_wp2;go_ret2;exact ⟨HB.out,HP3.out,_,te,x,rfl⟩
    clear K
    go_wp2_with fail
    refine (parseNamed_walk' HP3.out).mono ?_
    intro e w4 hG;have G:=got_cases hG (fun h k=>h.fr k) OK LOW HB HR HN;clear hG HB HR
    rcases G with ⟨v_,te,x,rfl,rfl,HP4,HB⟩ | ⟨v4,u4,r4,p4,rfl,HR,HP4,HB,K,N4⟩
    ·go_wp2;go_ret2;exact ⟨HB.out,HP4.out,_,te,x,rfl⟩
    obtain ⟨gq4,rfl⟩:=NamedA.ptr N4.out
    clear K
    go_wp2_with fail
    refine (dirs_walk HFB.out HFB.out HP4.out (no_out HR HN)).mono ?_
    intro e w5 hG;have G:=got_cases hG (fun h k=>DirsA.fr h k) OK LOW HB HR HN;clear hG HB HR
    rcases G with ⟨v_,te,x,rfl,rfl,HP5,HB⟩ | ⟨v5,u5,r5,p5,rfl,HR,HP5,HB,K,N5⟩
    ·go_wp2;go_ret2;exact ⟨HB.out,HP5.out,_,te,x,rfl⟩
    obtain ⟨ds5,dn5,dc5,rfl⟩:=DirsA.shape N5.out
    replace N4:=mkA (N4.out.fr K.out)
    clear K
    go_wp2_with fail
    refine (set_walk HS0.out HFB.out HP5.out (no_out HR HN)).mono ?_
    intro e w6 hG;have G:=got_cases hG (fun h k=>SetE.fr h k) OK LOW HB HR HN;clear hG HB HR
    rcases G with ⟨v_,te,x,rfl,rfl,HP6,HB⟩ | ⟨v6,u6,r6,p6,rfl,HR,HP6,HB,K,N6⟩
    ·go_wp2;go_ret2;exact ⟨HB.out,HP6.out,_,te,x,rfl⟩
    obtain ⟨gs6,rfl⟩:=SetE.ptr N6.out
    replace N4:=mkA (N4.out.fr K.out)
    replace N5:=mkA (DirsA.fr N5.out K.out)
    clear K
    go_wp2_with (first | (go_at_call 59;refine (loc_ps HP6.out _).mono ?_;rintro e wl ⟨⟨gl,rfl,hgl⟩,hBl⟩;have HL:=mkA hgl;have HBl:=mkA hBl;clear hgl hBl) | (go_at_call 118;refine (newInline (heap_alloc_new wl _) (Nat.le_refl _) (below_alloc (Below.refl wl.heap.size wl) _).size).mono ?_;rintro e w9 ⟨⟨g9,k9,rfl,q1,h91⟩,q4⟩;obtain ⟨H90,HW,KX,KW⟩:=new_facts HB HBl.out q4 q1;have H91:=mkA h91;clear q1 q4 h91))
    go_ret2
    have h_:=HR.out;subst h_;exact ⟨HB.out.step HW.out,_,_,_,rfl,HP6.out.below HW.out,.inline ⟨H90.out,H91.out⟩ (HL.out.fr KX.out) (.inr (N4.out.fr KW.out)) (DirsA.fr N5.out KW.out) (SetE.fr N6.out KW.out),rfl⟩
   ·have HC4:=mkA hc;clear hc
    go_wp2_with fail
    have b_:=hkn HC4.out;refine (peek_walk HP0.out 15).mono ?_;rintro e w_ ⟨rfl,rfl⟩
    go_wp2_with fail
    refine (adv_walk2 HP0.out (ne1_of_v HP0.out (von HVY.out))).mono ?_
    intro e w7 hG;have G:=exp_cases hG.e3 OK LOW HB HR HN;clear hG HB HR
    rcases G with ⟨te,x,rfl,rfl,HP7,HB⟩ | ⟨u7,r7,rfl,HR,HP7,HB,K⟩
    ·go_wp2;go_ret2;exact ⟨HB.out,HP7.out,_,te,x,rfl⟩
    clear K
    go_wp2_with fail
    refine (parseNamed_walk' HP7.out).mono ?_
    intro e w8 hG;have G:=got_cases hG (fun h k=>h.fr k) OK LOW HB HR HN;clear hG HB HR
    rcases G with ⟨v_,te,x,rfl,rfl,HP8,HB⟩ | ⟨v8,u8,r8,p8,rfl,HR,HP8,HB,K,N8⟩
    ·go_wp2;go_ret2;exact ⟨HB.out,HP8.out,_,te,x,rfl⟩
    obtain ⟨gq8,rfl⟩:=NamedA.ptr N8.out
    clear K
    go_wp2_with fail
    refine (dirs_walk HFB.out HFB.out HP8.out (no_out HR HN)).mono ?_
    intro e w9 hG;have G:=got_cases hG (fun h k=>DirsA.fr h k) OK LOW HB HR HN;clear hG HB HR
    rcases G with ⟨v_,te,x,rfl,rfl,HP9,HB⟩ | ⟨v9,u9,r9,p9,rfl,HR,HP9,HB,K,N9⟩
    ·go_wp2;go_ret2;exact ⟨HB.out,HP9.out,_,te,x,rfl⟩
    obtain ⟨ds9,dn9,dc9,rfl⟩:=DirsA.shape N9.out
    replace N8:=mkA (N8.out.fr K.out)
    clear K
    go_wp2_with fail
    refine (set_walk HS0.out HFB.out HP9.out (no_out HR HN)).mono ?_
    intro e w10 hG;have G:=got_cases hG (fun h k=>SetE.fr h k) OK LOW HB HR HN;clear hG HB HR
    rcases G with ⟨v_,te,x,rfl,rfl,HP10,HB⟩ | ⟨v10,u10,r10,p10,rfl,HR,HP10,HB,K,N10⟩
    ·go_wp2;go_ret2;exact ⟨HB.out,HP10.out,_,te,x,rfl⟩
    obtain ⟨gs10,rfl⟩:=SetE.ptr N10.out
    replace N8:=mkA (N8.out.fr K.out)
    replace N9:=mkA (DirsA.fr N9.out K.out)
    clear K
    go_wp2_with (first | (go_at_call 59;refine (loc_ps HP10.out _).mono ?_;rintro e wl ⟨⟨gl,rfl,hgl⟩,hBl⟩;have HL:=mkA hgl;have HBl:=mkA hBl;clear hgl hBl) | (go_at_call 118;refine (newInline (heap_alloc_new wl _) (Nat.le_refl _) (below_alloc (Below.refl wl.heap.size wl) _).size).mono ?_;rintro e w9 ⟨⟨g9,k9,rfl,q1,h91⟩,q4⟩;obtain ⟨H90,HW,KX,KW⟩:=new_facts HB HBl.out q4 q1;have H91:=mkA h91;clear q1 q4 h91))
    go_ret2
    have h_:=HR.out;subst h_;exact ⟨HB.out.step HW.out,_,_,_,rfl,HP10.out.below HW.out,.inline ⟨H90.out,H91.out⟩ (HL.out.fr KX.out) (.inr (N8.out.fr KW.out)) (DirsA.fr N9.out KW.out) (SetE.fr N10.out KW.out),rfl⟩
  ·have h_:=HR.out;rw [if_neg hc] at h_;(try simp only [O.bind_assoc,O.bind_ok] at h_);replace HR:=mkA h_;have HC3:=mkA hc;clear hc h_
   have HVN:=HC3
   have HC4:=mkA (fun e=>HC1.out ⟨e,HC3.out⟩)
   have d8:=HP0.out.cells.2.2.2.2;obtain ⟨x1,y1⟩:=word_no (l:=[111,110]) (show u0.v≠_ from HVN.out)
   go_wp2_with fail
   have b_:=hkn HC4.out;refine (peek_walk HP0.out 15).mono ?_;rintro e w_ ⟨rfl,rfl⟩
   go_wp2_with fail
   refine (dirs_walk HFB.out HFB.out HP0.out (no_out HR HN)).mono ?_
   intro e w11 hG;have G:=got_cases hG (fun h k=>DirsA.fr h k) OK LOW HB HR HN;clear hG HB HR
   rcases G with ⟨v_,te,x,rfl,rfl,HP11,HB⟩ | ⟨v11,u11,r11,p11,rfl,HR,HP11,HB,K,N11⟩
   ·go_wp2;go_ret2;exact ⟨HB.out,HP11.out,_,te,x,rfl⟩
   obtain ⟨ds11,dn11,dc11,rfl⟩:=DirsA.shape N11.out
   clear K
   go_wp2_with fail
   refine (set_walk HS0.out HFB.out HP11.out (no_out HR HN)).mono ?_
   intro e w12 hG;have G:=got_cases hG (fun h k=>SetE.fr h k) OK LOW HB HR HN;clear hG HB HR
   rcases G with ⟨v_,te,x,rfl,rfl,HP12,HB⟩ | ⟨v12,u12,r12,p12,rfl,HR,HP12,HB,K,N12⟩
   ·go_wp2;go_ret2;exact ⟨HB.out,HP12.out,_,te,x,rfl⟩
   obtain ⟨gs12,rfl⟩:=SetE.ptr N12.out
   replace N11:=mkA (DirsA.fr N11.out K.out)
   clear K
   go_wp2_with (first | (go_at_call 59;refine (loc_ps HP12.out _).mono ?_;rintro e wl ⟨⟨gl,rfl,hgl⟩,hBl⟩;have HL:=mkA hgl;have HBl:=mkA hBl;clear hgl hBl) | (go_at_call 118;refine (newInline (heap_alloc_new wl _) (Nat.le_refl _) (below_alloc (Below.refl wl.heap.size wl) _).size).mono ?_;rintro e w9 ⟨⟨g9,k9,rfl,q1,h91⟩,q4⟩;obtain ⟨H90,HW,KX,KW⟩:=new_facts HB HBl.out q4 q1;have H91:=mkA h91;clear q1 q4 h91))
   go_ret2
   have h_:=HR.out;subst h_;exact ⟨HB.out.step HW.out,_,_,_,rfl,HP12.out.below HW.out,.inline ⟨H90.out,H91.out⟩ (HL.out.fr KX.out) (.inl ⟨rfl,rfl⟩) (DirsA.fr N11.out KW.out) (SetE.fr N12.out KW.out),rfl⟩
theorem psel_frag {f:Nat} {t:Tk} {r:List Tk} (h:t.k=6):pSel (f+1) (t :: r)=((must 6 (t :: r)).bind fun r=>if R.hk r=15∧R.hv r≠bOn then (pName r).bind fun n=>(pDirs f f n.2).bind fun x=>.ok (nd 7 n.1 e0 e0 0 x.1,x.2) else (if R.hv r=bOn then (adv r).bind fun r=>pName r else .ok (e0,r)).bind fun n=>(pDirs f f n.2).bind fun x=>(pSet (pSel f) f x.2).bind fun y=>.ok (nd 8 e0 e0 n.1 0 (x.1++y.1),y.2)):=by
 rw [must_yes h]
 show (if R.hk (t :: r)=6 then _ else _)=_
 rw [if_pos (by exact h)]
theorem psel_field {f:Nat} {t:Tk} {r:List Tk} (h:t.k≠6):pSel (f+1) (t :: r)=((pName (t :: r)).bind fun n=>(if R.hk n.2=7 then (adv n.2).bind fun r=>(pName r).bind fun m=>.ok (m.1,n.1,m.2) else .ok (n.1,e0,n.2)).bind fun m=>(pArgs f m.2.2).bind fun a=>(pDirs f f a.2).bind fun d=>(if R.hk d.2=12 then pSet (pSel f) f d.2 else .ok ([],d.2)).bind fun y=>.ok (nd 6 m.1 m.2.1 e0 0 (a.1++d.1++y.1),y.2)):=by
 show (if R.hk (t :: r)=6 then _ else _)=_
 rw [if_neg (by exact h)]
theorem sel_step {C:Cx} {f:Nat} (hS:SelSpec C f) (hf:f≤1000000):SelSpec C (f+1):=by
 intro w t r h hne
 by_cases k6:t.k=6
 ·rw [psel_frag k6] at hne ⊢
  have CF:=mkA (frag_walk hS hf h hne)
  have HP:=mkA h
  have b6:=kb k6
  clear h hS hf k6
  obtain ⟨RES,hR⟩:∃ RES,RES=((must 6 (t :: r)).bind fun r=>if R.hk r=15∧R.hv r≠bOn then (pName r).bind fun n=>(pDirs f f n.2).bind fun x=>.ok (nd 7 n.1 e0 e0 0 x.1,x.2) else (if R.hv r=bOn then (adv r).bind fun r=>pName r else .ok (e0,r)).bind fun n=>(pDirs f f n.2).bind fun x=>(pSet (pSel f) f x.2).bind fun y=>.ok (nd 8 e0 e0 n.1 0 (x.1++y.1),y.2)):=⟨_,rfl⟩
  rw [← hR] at CF hne ⊢
  clear hR
  cases RES with
  | out=>exact absurd rfl hne
  | bad =>
    clear hne
    go_enter Tryz.func57,Tryz.ntmps57
    go_wp2_with (first
     | (go_at_call 48;(with_reducible refine (peek_walk HP.out 6).mono ?_);rintro e w_ ⟨rfl,rfl⟩)
     | (go_at_call 86;(with_reducible refine CF.out.mono ?_);rintro e w1 ⟨hF,hP,v_,te,x,rfl⟩;have HF:=mkA hF;have HP1:=mkA hP;clear hF hP))
    go_ret2
    exact ⟨HF.out,HP1.out,_,te,x,rfl⟩
  | ok a_ =>
    clear hne
    go_enter Tryz.func57,Tryz.ntmps57
    go_wp2_with (first
     | (go_at_call 48;(with_reducible refine (peek_walk HP.out 6).mono ?_);rintro e w_ ⟨rfl,rfl⟩)
     | (go_at_call 86;(with_reducible refine CF.out.mono ?_);rintro e w1 ⟨hF,v_,u,r',hl_,hP,hN,rfl⟩;have HF:=mkA hF;have HP1:=mkA hP;have HN:=mkA hN;have HL:=mkA hl_;clear hF hP hN hl_))
    go_ret2
    exact ⟨HF.out,_,u,r',HL.out,HP1.out,HN.out,rfl⟩
 ·rw [psel_field k6] at hne ⊢
  have CF:=mkA (field_walk hS hf h hne)
  have HP:=mkA h
  have b6:=kn k6
  clear h hS hf k6
  obtain ⟨RES,hR⟩:∃ RES,RES=((pName (t :: r)).bind fun n=>(if R.hk n.2=7 then (adv n.2).bind fun r=>(pName r).bind fun m=>.ok (m.1,n.1,m.2) else .ok (n.1,e0,n.2)).bind fun m=>(pArgs f m.2.2).bind fun a=>(pDirs f f a.2).bind fun d=>(if R.hk d.2=12 then pSet (pSel f) f d.2 else .ok ([],d.2)).bind fun y=>.ok (nd 6 m.1 m.2.1 e0 0 (a.1++d.1++y.1),y.2)):=⟨_,rfl⟩
  rw [← hR] at CF hne ⊢
  clear hR
  cases RES with
  | out=>exact absurd rfl hne
  | bad =>
    clear hne
    go_enter Tryz.func57,Tryz.ntmps57
    go_wp2_with (first
     | (go_at_call 48;(with_reducible refine (peek_walk HP.out 6).mono ?_);rintro e w_ ⟨rfl,rfl⟩)
     | (go_at_call 87;(with_reducible refine CF.out.mono ?_);rintro e w1 ⟨hF,hP,v_,te,x,rfl⟩;have HF:=mkA hF;have HP1:=mkA hP;clear hF hP))
    go_ret2
    exact ⟨HF.out,HP1.out,_,te,x,rfl⟩
  | ok a_ =>
    clear hne
    go_enter Tryz.func57,Tryz.ntmps57
    go_wp2_with (first
     | (go_at_call 48;(with_reducible refine (peek_walk HP.out 6).mono ?_);rintro e w_ ⟨rfl,rfl⟩)
     | (go_at_call 87;(with_reducible refine CF.out.mono ?_);rintro e w1 ⟨hF,v_,u,r',hl_,hP,⟨hN,gg,rfl⟩,rfl⟩;have HF:=mkA hF;have HP1:=mkA hP;have HN:=mkA hN;have HL:=mkA hl_;clear hF hP hN hl_))
    go_ret2
    exact ⟨HF.out,_,u,r',HL.out,HP1.out,HN.out,rfl⟩
theorem sel_spec {C:Cx}:∀ f,f≤1000000→SelSpec C f:=by
 intro f
 induction f with
 | zero=>intro _ w t r h hne;exact absurd rfl hne
 | succ f ih=>intro hf;exact sel_step (ih (by omega)) (by omega)
theorem lex_walk2 {w:World} (g:Nat) :
 Calls Tryz.prog 78 #[.pointer (some ⟨g,0,none⟩)] w fun e w'=>(∃ c s:Nat,e=.returned (lexf c s)∧s < c∧w.heap.size≤c∧w.heap.size≤s∧w'.heap[c]?=some (.cells #[.int .i64 0] 3 (0,0))∧w'.heap[s]?=some (.cells #[.pointer (some ⟨g,0,none⟩)] 66 (0,0)))∧Below w.heap.size w w':=by
 go_enter Tryz.func78,Tryz.ntmps78
 go_wp2
 go_ret
 refine ⟨⟨w.heap.size+1,w.heap.size,rfl,by omega,by omega,by omega,?_,?_⟩,below_alloc (below_alloc (Below.refl _ _) _) _⟩
 ·have h:=heap_alloc_new (w.alloc (.cells #[.pointer (some ⟨g,0,none⟩)] 66)) (.cells #[.int .i64 0] 3 (0,0))
  rw [World.size_alloc] at h
  exact h
 ·exact blk_below (heap_alloc_new w _) (below_alloc (Below.refl _ _) _)
theorem makeParser_ok {w:World} {g:Nat} {k a z:Int} {v:ByteArray}
 (hC:∀ W,Below w.heap.size w W→Calls Tryz.prog 99 #[.pointer (some ⟨g,0,none⟩),.int .i64 0] W fun e W'=>e=.returned (.tuple #[.agg #[.int .i64 k,.int .i64 a,.int .i64 z,.string v],.nilIface])∧Below W.heap.size W W') :
 Calls Tryz.prog 46 #[.pointer (some ⟨g,0,none⟩),.agg #[.bool false,.bool false]] w fun e w'=>(∃ gp gc gs:Nat,e=.returned (.tuple #[.pointer (some ⟨gp,0,none⟩),.nilIface])∧Psr w' w.heap.size gp gc gs g 0 z k a z v∧gs < gc∧gc < gp)∧Below w.heap.size w w':=by
 have HC:=mkA hC
 have HB:=mkA (Below.refl w.heap.size w)
 clear hC
 go_enter Tryz.func46,Tryz.ntmps46
 go_wp2_with (first
  | ((with_reducible refine gate_dst (N:=3) rfl ?_);refine bxe (cs:=#[.bool false,.bool false]) (t:=68) ?hr ?_;(case hr=>first | (go_simp;done) | (go_simp;rfl));intro go hg w2 hbox hb;replace HB:=mkA (below_step HB.out hb);have BO:=mkA hbox;clear hb hbox hg)
  | (go_at_call 78;(with_reducible refine (lex_walk2 _).mono ?_);rintro e w3 ⟨⟨gc,gs,rfl,n1,n2,n3,n4,n5⟩,hB⟩;unfold lexf;have BC:=mkA n4;have BS:=mkA n5;have NLT:=mkA n1;have NN:=mkA (Nat.ne_of_gt n1);have LC:=mkA (Nat.le_trans (below_size HB.out) n2);have LS:=mkA (Nat.le_trans (below_size HB.out) n3);have n0_:=mkA (below_step HB.out hB);have n1_:=mkA (blk_below BO.out hB);have n2_:=mkA (show go≠gc from Nat.ne_of_lt (Nat.lt_of_lt_of_le (blk_lt BO.out) n2));clear HB BO hB n1 n2 n3 n4 n5;have HB:=n0_;have BO:=n1_;have OC:=n2_;clear n0_ n1_ n2_)
  | (go_at_call 98;(with_reducible refine (lexfn_walk (B:=w.heap.size) LC.out (below_size HB.out) BC.out BS.out NN.out (.inl ⟨rfl,rfl⟩) (fun W hW=>HC.out W (below_step HB.out hW))).mono ?_);rintro e w4 ⟨rfl,h1,h2,h3⟩;replace HB:=mkA (HB.out.trans h2);replace BO:=mkA (h3.blk BO.out OC.out (by simp));replace BC:=mkA h1;replace BS:=mkA (h3.blk BS.out (Ne.symm NN.out) (by simp));clear h1 h2 h3;have o0:w4.cell? ⟨go,0,none⟩=some (.bool false):=(blk_cell BO.out 0).trans rfl;have o1:w4.cell? ⟨go,1,none⟩=some (.bool false):=(blk_cell BO.out 1).trans rfl)
  | ((with_reducible refine gate_dst (N:=7) rfl ?_);refine bxz ?hr ?_;(case hr=>first | (go_simp;done) | (go_simp;rfl));intro gt hg w5 hbox hb;have n0_:=mkA (below_step HB.out hb);have GT:=mkA ((by rw [hg];exact below_size HB.out:w.heap.size≤gt));have n1_:=mkA (blk_below BC.out hb);have n2_:=mkA (blk_below BO.out hb);have n3_:=mkA (blk_below BS.out hb);have TC:=mkA (show gc≠gt from by rw [hg];exact Nat.ne_of_lt (blk_lt BC.out));have TS:=mkA (show gs≠gt from by rw [hg];exact Nat.ne_of_lt (blk_lt BS.out));have TO:=mkA (show go≠gt from by rw [hg];exact Nat.ne_of_lt (blk_lt BO.out));clear HB BC BO BS;have HB:=n0_;have BC:=n1_;have BO:=n2_;have BS:=n3_;have BT:=mkA hbox;clear n0_ n1_ n2_ n3_ hb hbox hg;have hne1:=TO.out;have hne2:gt≠go:=fun e=>TO.out e.symm;have o0:w5.cell? ⟨go,0,none⟩=some (.bool false):=(blk_cell BO.out 0).trans rfl;have o1:w5.cell? ⟨go,1,none⟩=some (.bool false):=(blk_cell BO.out 1).trans rfl;obtain ⟨tz0,tz1,tz2,tz3,tf0,tf1,tf2,tf3⟩:=tkz BT.out)
  | ((with_reducible refine gate_dst (N:=26) rfl ?_);refine bxe (cs:=#[lexf gc gs,.pointer (some ⟨g,0,none⟩),.bool false,.bool false,.int .i64 0,.int .i64 k,.int .i64 a,.int .i64 z,.string v]) (t:=70) ?hr ?_;(case hr=>first | (go_simp;done) | (go_simp;rfl));intro gp hg w6 hbox hb;have HQ:=mkA hb;have BP:=mkA hbox;have GP:=mkA hg;clear hb hbox hg))
 have bc:=blk_below (blk_far (p:=⟨gt,3,none⟩) (blk_far (p:=⟨gt,2,none⟩) (blk_far (p:=⟨gt,1,none⟩) (blk_far (p:=⟨gt,0,none⟩) BC.out TC.out (.int .i64 k)) TC.out (.int .i64 a)) TC.out (.int .i64 z)) TC.out (.string v)) HQ.out
 have bs:=blk_below (blk_far (p:=⟨gt,3,none⟩) (blk_far (p:=⟨gt,2,none⟩) (blk_far (p:=⟨gt,1,none⟩) (blk_far (p:=⟨gt,0,none⟩) BS.out TS.out (.int .i64 k)) TS.out (.int .i64 a)) TS.out (.int .i64 z)) TS.out (.string v)) HQ.out
 have hb:=below_set (j:=3) (v:=.string v) (below_set (j:=2) (v:=.int .i64 z) (below_set (j:=1) (v:=.int .i64 a) (below_set (j:=0) (v:=.int .i64 k) HB.out GT.out) GT.out) GT.out) GT.out
 have hp:w.heap.size≤gp:=by rw [GP.out];exact below_size hb
 have e1:gp≠gc:=fun e=>by
  have h1:=blk_lt (blk_far (p:=⟨gt,3,none⟩) (blk_far (p:=⟨gt,2,none⟩) (blk_far (p:=⟨gt,1,none⟩) (blk_far (p:=⟨gt,0,none⟩) BC.out TC.out (.int .i64 k)) TC.out (.int .i64 a)) TC.out (.int .i64 z)) TC.out (.string v))
  rw [← GP.out,← e] at h1;exact Nat.lt_irrefl _ h1
 have e2:gp≠gs:=fun e=>by
  have h1:=blk_lt (blk_far (p:=⟨gt,3,none⟩) (blk_far (p:=⟨gt,2,none⟩) (blk_far (p:=⟨gt,1,none⟩) (blk_far (p:=⟨gt,0,none⟩) BS.out TS.out (.int .i64 k)) TS.out (.int .i64 a)) TS.out (.int .i64 z)) TS.out (.string v))
  rw [← GP.out,← e] at h1;exact Nat.lt_irrefl _ h1
 have e3:gc < gp:=by
  have h1:=blk_lt (blk_far (p:=⟨gt,3,none⟩) (blk_far (p:=⟨gt,2,none⟩) (blk_far (p:=⟨gt,1,none⟩) (blk_far (p:=⟨gt,0,none⟩) BC.out TC.out (.int .i64 k)) TC.out (.int .i64 a)) TC.out (.int .i64 z)) TC.out (.string v))
  rw [← GP.out] at h1;exact h1
 go_ret2
 exact ⟨⟨gp,gc,gs,rfl,⟨⟨BP.out,bc,bs⟩,⟨hp,LC.out,LS.out⟩,NN.out,e1,e2⟩,NLT.out,e3⟩,below_step hb HQ.out⟩
theorem makeParser_err {w:World} {g:Nat}
 (hC:∀ W,Below w.heap.size w W→Calls Tryz.prog 99 #[.pointer (some ⟨g,0,none⟩),.int .i64 0] W fun e W'=>(∃ (k a z:Int) (v:ByteArray) (te:TypeId) (x:Value),e=.returned (.tuple #[.agg #[.int .i64 k,.int .i64 a,.int .i64 z,.string v],.iface te x]))∧Below W.heap.size W W') :
 Calls Tryz.prog 46 #[.pointer (some ⟨g,0,none⟩),.agg #[.bool false,.bool false]] w fun e w'=>(∃ (v:Value) (te:TypeId) (x:Value),e=.returned (.tuple #[v,.iface te x]))∧Below w.heap.size w w':=by
 have HC:=mkA hC
 have HB:=mkA (Below.refl w.heap.size w)
 clear hC
 go_enter Tryz.func46,Tryz.ntmps46
 go_wp2_with (first
  | ((with_reducible refine gate_dst (N:=3) rfl ?_);refine bxe (cs:=#[.bool false,.bool false]) (t:=68) ?hr ?_;(case hr=>first | (go_simp;done) | (go_simp;rfl));intro go hg w2 hbox hb;replace HB:=mkA (below_step HB.out hb);clear hb hbox hg)
  | (go_at_call 78;(with_reducible refine (lex_walk2 _).mono ?_);rintro e w3 ⟨⟨gc,gs,rfl,n1,n2,n3,n4,n5⟩,hB⟩;unfold lexf;have BC:=mkA n4;have BS:=mkA n5;replace HB:=mkA (below_step HB.out hB);clear hB n1 n2 n3 n4 n5)
  | (go_at_call 98;(with_reducible refine (lexfn_err BC.out BS.out (.inl ⟨rfl,rfl⟩) (fun W hW=>HC.out W (below_step HB.out hW))).mono ?_);rintro e w4 ⟨⟨k,a,z,v,te,x,rfl⟩,h2⟩;replace HB:=mkA (below_step HB.out h2);clear BC BS h2)
  | ((with_reducible refine gate_dst (N:=7) rfl ?_);refine bxz ?hr ?_;(case hr=>first | (go_simp;done) | (go_simp;rfl));intro gt hg w5 hbox hb;have HB0:=HB;replace HB:=mkA (below_step HB.out hb);have GT:=mkA (show w.heap.size≤gt by rw [hg];exact HB0.out.size);have BT:=mkA hbox;clear hb hbox hg;obtain ⟨tz0,tz1,tz2,tz3,tf0,tf1,tf2,tf3⟩:=tkz BT.out)
  | ((with_reducible refine gate_dst (N:=19) rfl ?_);refine bxe (cs:=#[.nilFunc,.pointer none,.bool false,.bool false,.int .i64 0,.int .i64 0,.int .i64 0,.int .i64 0,.string ⟨#[]⟩]) (t:=70) ?hr ?_;(case hr=>first | (go_simp;done) | (go_simp;rfl));intro gp hg w6 hbox hb;replace HB:=mkA (below_step (below_set (below_set (below_set (below_set HB.out GT.out) GT.out) GT.out) GT.out) hb);clear hb hbox hg))
 go_ret2
 exact ⟨⟨_,te,x,rfl⟩,HB.out⟩
def RTokS (s:ByteArray):Prop:=∀ (g b cap p:Nat) (l:List Tk),Lexes BVal s p l→∀ w,Src w g b cap s→Calls Tryz.prog 99 #[ptr g,.int .i64 p] w (RdP w l)
theorem src_made {w w2 w3:World} {g:Nat} {s v:ByteArray} (hs:s.size≤2000) (hG:Glob w) (hb2:Below w.heap.size w w2) (hbox:w3.heap[g]?=some (.cells #[.slice (some ⟨w2.heap.size,0,none⟩) s.size (grownCap w2 s.size 0 5),.string ⟨#[]⟩] 111 (0,0))) (hb:Below (Go.Lib.bytesWorld w2 5 s).heap.size (Go.Lib.bytesWorld w2 5 s) w3) (hg:w2.heap.size≤g) (hg1:1≤s.size→w2.heap.size < g) :
 Src (w3.setCell ⟨g,1,none⟩ (.string v)) g w2.heap.size (grownCap w2 s.size 0 5) s∧Below w.heap.size w (w3.setCell ⟨g,1,none⟩ (.string v)):=by
 have hall:Below w.heap.size w (w3.setCell ⟨g,1,none⟩ (.string v)):=below_set (below_step (below_step hb2 (bytes_below (Below.refl w2.heap.size w2) (Nat.le_refl _) 5 s)) hb) (Nat.le_trans hb2.size hg)
 refine ⟨⟨(blk_cell (blk_put hbox 1 (.string v) rfl) 0).trans rfl,fun j hj=>?_,grownCap_ge _ _ _ _,hs,Glob.below hG hall⟩,hall⟩
 have h1:(Go.Lib.bytesWorld w2 5 s).cell? ⟨w2.heap.size,j,none⟩=some (.int .u8 (bt s j)):=by
  rw [Go.Lib.bytesWorld_cell w2 5 s j hj]
  congr 2
  unfold bt
  rw [dif_pos (show (j:Int).toNat < s.size by omega)]
  simp only [Int.toNat_natCast]
  rw [List.getD_eq_getElem?_getD,List.getElem?_eq_getElem (by simpa using hj)]
  rfl
 have h2:w3.cell? ⟨w2.heap.size,j,none⟩=some (.int .u8 (bt s j)):=by
  rw [hb.cell (World.block_lt_of_cell? _ _ h1)];exact h1
 have h3:=(Below.refl g w3).setCell (p:=⟨g,1,none⟩) (Nat.le_refl _) (.string v)
 rw [h3.cell (show w2.heap.size < g from hg1 (by omega))];exact h2
theorem lt_made {w2:World} {g:Nat} {s:ByteArray} (hg:g=(Go.Lib.bytesWorld w2 5 s).heap.size) (h1:1≤s.size):w2.heap.size < g:=by
 rw [hg]
 exact World.block_lt_of_cell? _ _ (Go.Lib.bytesWorld_cell w2 5 s 0 (by omega))
def BegP (w:World) (s:ByteArray) (l:List Tk) (e:Ending) (w':World):Prop :=
 Below w.heap.size w w'∧match l with
 | []=>∃ (v:Value) (te:TypeId) (x:Value),e=.returned (.tuple #[v,.iface te x])
 | t :: r=>∃ C:Cx,C.s=s∧w.heap.size≤C.gc∧w.heap.size≤C.gp∧PS C w' t r∧e=.returned (.tuple #[ptr C.gp,.nilIface])
theorem glob_two {w:World} (h:Glob w):2≤w.heap.size:=by
 have:=World.block_lt_of_cell? w _ (h.2 0 (by omega)).1
 exact this
theorem begin_walk {s:ByteArray} (hRT:RTokS s) (hs:s.size≤2000) {w:World} (hG:Glob w) {l:List Tk} (hL:Lexes BVal s 0 l):Calls Tryz.prog 23 #[.string s] w (BegP w s l):=by
 have hcv:∀ w':World,_:=fun w'=>Go.Lib.run_convert_string_bytes (P:=Tryz.prog) w' 9 109 5 s (u:=.string) (by kernel_rfl) (by kernel_rfl) (by kernel_rfl)
 have HRT:=mkA hRT
 have HT:=mkA hs
 have HG:=mkA hG
 have HL:=mkA hL
 clear hRT hs hG hL
 cases l with
 | nil =>
   go_enter Tryz.func23,Tryz.ntmps23
   go_wp2_with (first
    | ((with_reducible refine gate_dst (N:=7) rfl ?_);refine bxe (cs:=#[.slice (some ⟨w.heap.size,0,none⟩) s.size (grownCap w s.size 0 5),.string ⟨#[]⟩]) (t:=111) ?hr ?_;(case hr=>first | (go_simp;done) | (go_simp;rfl));intro gs hg w3 hbox hb;have HQ:=mkA hb;have BS:=mkA hbox;have GS:=mkA hg;have GE:=mkA (show w.heap.size≤gs by rw [hg];exact (bytes_below (Below.refl w.heap.size w) (Nat.le_refl _) 5 s).size);clear hb hbox hg)
    | (go_at_call 47;refine (newSource_walk BS.out).mono ?_;rintro e w4 ⟨rfl,hw⟩;have HM:=mkA (src_made (v:=⟨#[71,114,97,112,104,81,76]⟩) HT.out HG.out (Below.refl _ _) BS.out HQ.out GE.out (lt_made GS.out));rw [← hw] at HM;clear hw HQ BS;have HS4:=mkA HM.out.1;have HB4:=mkA HM.out.2;have GL:=mkA (show gs < w4.heap.size from World.block_lt_of_cell? _ _ HS4.out.body);clear HM)
    | (go_at_call 46;refine (makeParser_err (fun W hW=>by refine (HRT.out gs w.heap.size (grownCap w s.size 0 5) 0 _ HL.out W (HS4.out.below hW)).mono ?_;rintro e W' ⟨h1,h2⟩;exact ⟨h1,h2⟩)).mono ?_;rintro e w5 ⟨⟨v_,te,x,rfl⟩,hB⟩;have HB5:=mkA hB;clear hB))
   go_ret2
   exact ⟨below_step HB4.out HB5.out,_,te,x,rfl⟩
 | cons t r =>
   go_enter Tryz.func23,Tryz.ntmps23
   go_wp2_with (first
    | ((with_reducible refine gate_dst (N:=7) rfl ?_);refine bxe (cs:=#[.slice (some ⟨w.heap.size,0,none⟩) s.size (grownCap w s.size 0 5),.string ⟨#[]⟩]) (t:=111) ?hr ?_;(case hr=>first | (go_simp;done) | (go_simp;rfl));intro gs hg w3 hbox hb;have HQ:=mkA hb;have BS:=mkA hbox;have GS:=mkA hg;have GE:=mkA (show w.heap.size≤gs by rw [hg];exact (bytes_below (Below.refl w.heap.size w) (Nat.le_refl _) 5 s).size);clear hb hbox hg)
    | (go_at_call 47;refine (newSource_walk BS.out).mono ?_;rintro e w4 ⟨rfl,hw⟩;have HM:=mkA (src_made (v:=⟨#[71,114,97,112,104,81,76]⟩) HT.out HG.out (Below.refl _ _) BS.out HQ.out GE.out (lt_made GS.out));rw [← hw] at HM;clear hw HQ BS;have HS4:=mkA HM.out.1;have HB4:=mkA HM.out.2;have GL:=mkA (show gs < w4.heap.size from World.block_lt_of_cell? _ _ HS4.out.body);clear HM)
    | (go_at_call 46;refine (makeParser_ok (fun W hW=>by refine (HRT.out gs w.heap.size (grownCap w s.size 0 5) 0 _ HL.out W (HS4.out.below hW)).mono ?_;rintro e W' ⟨h1,h2⟩;exact ⟨h1,h2⟩)).mono ?_;rintro e w5 ⟨⟨gp,gc,gf,rfl,hP,h5,h6⟩,hB⟩;have HP:=mkA hP;have H56:=mkA (And.intro h5 h6);have HB5:=mkA hB;clear hP hB h5 h6))
   go_ret2
   obtain ⟨⟨b1,b2,b3⟩,⟨l1,l2,l3⟩,n1,n2,n3⟩:=HP.out
   have h2:=glob_two HG.out
   have hw4:=HB4.out.size
   have hgs:=GE.out
   have hgl:=GL.out
   have hbe:=World.block_lt_of_cell? _ _ HS4.out.body
   obtain ⟨f1,f2⟩:=lex_head HL.out
   have h56:=H56.out
   refine ⟨below_step HB4.out HB5.out,⟨s,gp,gc,gf,gs,w.heap.size,grownCap w s.size 0 5,w5.heap.size⟩,rfl,?_,?_,⟨⟨?_,?_,h56.1,h56.2,blk_lt b1,?_,fun p l hl w hw=>HRT.out _ _ _ p l hl w hw⟩,⟨_,b1⟩,⟨_,b2⟩,b3,HS4.out.below HB5.out,Nat.le_refl _,f1,f2⟩,rfl⟩
   ·show w.heap.size≤gc;omega
   ·show w.heap.size≤gp;omega
   ·show w.heap.size < gf;omega
   ·show gs < gf;omega
   ·show 2≤gf;omega
def DoorP (w:World) (res:O (List Row × List Tk)) (P:Ok→World→List Row→Value→Prop) (e:Ending) (w':World):Prop :=
 Below w.heap.size w w'∧match res with
 | .out=>True
 | .bad=>∃ (v:Value) (a:Int) (te:TypeId) (x:Value),e=.returned (.tuple #[v,.int .i64 a,.iface te x])
 | .ok (rows,l)=>∃ v:Value,P (from_ w.heap.size) w' rows v∧e=.returned (.tuple #[v,.int .i64 (match l with | []=>0 | t :: _=>t.a),.nilIface])
def front (l:List Tk) (x:O (List Row × List Tk)):O (List Row × List Tk):=match l with
 | []=>.bad
 | _ :: _=>x
theorem readSels_walk {s:ByteArray} (hRT:RTokS s) (hs:s.size≤2000) {w:World} (hG:Glob w) {l:List Tk} (hL:Lexes BVal s 0 l) {f:Nat} (hf:f≤1000000) (hne:l≠[]→pSet (pSel f) f l≠.out):Calls Tryz.prog 13 #[.string s] w (DoorP w (front l (pSet (pSel f) f l)) SetE):=by
 have CB:=mkA (begin_walk hRT hs hG hL)
 have HF:=mkA hf
 clear hRT hs hG hL hf
 cases l with
 | nil =>
   go_enter Tryz.func13,Tryz.ntmps13
   go_wp2_with (first
    | (go_at_call 23;(with_reducible refine CB.out.mono ?_);rintro e w1 ⟨hB,v_,te,x,rfl⟩;have HB:=mkA hB;clear hB))
   go_ret3
   exact ⟨HB.out,_,_,te,x,rfl⟩
 | cons t r =>
   have hne:=hne (by simp)
   show Calls _ _ _ _ (DoorP w (pSet (pSel f) f (t :: r)) SetE)
   obtain ⟨RES,hR⟩:∃ RES,RES=pSet (pSel f) f (t :: r):=⟨_,rfl⟩
   rw [← hR] at hne ⊢
   have HR:=mkA hR
   have HNE:=mkA (show pSet (pSel f) f (t :: r)≠.out by rw [← hR];exact hne)
   clear hR
   cases RES with
   | out=>exact absurd rfl hne
   | bad =>
     clear hne
     go_enter Tryz.func13,Tryz.ntmps13
     go_wp2_with (first
      | (go_at_call 23;(with_reducible refine CB.out.mono ?_);rintro e w1 ⟨hB,C,hC,g1,g2,hP,rfl⟩;have HB:=mkA hB;have G1:=mkA (And.intro g1 g2);have HP:=mkA hP;clear hB g1 g2 hP hC)
      | (go_at_call 30;have c_:=set_walk (sel_spec f HF.out) HF.out HP.out HNE.out;rw [← HR.out] at c_;(with_reducible refine c_.mono ?_);rintro e w2 ⟨hF,hP,v_,te,x,rfl⟩;have HF2:=mkA hF;obtain ⟨pe_,k_,a_,z_,vv_,hpb⟩:=hP;have c6:w2.cell? ⟨C.gp,6,none⟩=some (.int .i64 a_):=(blk_cell hpb 6).trans rfl;clear hF hpb))
     go_quiet (fail)
     go_wp2
     go_ret3
     have hBe:=HB.out.trans (HF2.out.below G1.out.2 G1.out.1 HB.out.size)
     exact ⟨pw_below_drewN hBe _,_,_,te,x,rfl⟩
   | ok a_ =>
     obtain ⟨rows,l_⟩:=a_
     clear hne
     go_enter Tryz.func13,Tryz.ntmps13
     go_wp2_with (first
      | (go_at_call 23;(with_reducible refine CB.out.mono ?_);rintro e w1 ⟨hB,C,hC,g1,g2,hP,rfl⟩;have HB:=mkA hB;have G1:=mkA (And.intro g1 g2);have HP:=mkA hP;clear hB g1 g2 hP hC)
      | (go_at_call 30;have c_:=set_walk (sel_spec f HF.out) HF.out HP.out HNE.out;rw [← HR.out] at c_;(with_reducible refine c_.mono ?_);rintro e w2 ⟨hF,sl_,u,r',hl_,hP,hN,rfl⟩;obtain ⟨gs_,rfl⟩:=SetE.ptr hN;have HF2:=mkA hF;have HP2:=mkA hP;have HN:=mkA hN;have HLL:=mkA hl_;have c6:=hP.cells.2.2.1;clear hF hP hN hl_))
     go_quiet (fail)
     go_wp2
     go_ret3
     have hBe:=HB.out.trans (HF2.out.below G1.out.2 G1.out.1 HB.out.size)
     have hll:=HLL.out
     subst hll
     exact ⟨pw_below_drewN hBe _,_,(SetE.fr HN.out (fun g o h1 h2=>⟨Nat.le_trans HB.out.size h1,h2⟩)),rfl⟩
end Go.Proofs.YthgcghpcikbnkaaGreatDoor.R
