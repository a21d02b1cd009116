/- A part of the proof of the theorem of this claim: Arg, Drs, Sel. No condition of its own. -/
import Derived.Test.YthgcghpcikbnkaaGreatDoorC9
set_option maxHeartbeats 16000000
set_option maxRecDepth 100000
namespace Go.Proofs.YthgcghpcikbnkaaGreatDoor.R
open Go.RowKit Go.Proofs.YthgcghpcikbnkaaGreatDoorW.PrintWords Go.Proofs.YthgcghpcikbnkaaGreatDoorW.PrintLast Go.Proofs.YthgcghpcikbnkaaGreatDoorW.PrintMore
set_option linter.unusedVariables false
set_option linter.unusedSimpArgs false
theorem info191':(Tryz.prog.info? 191).map (fun i=>(i.zero,i.size,i.bytes))=some (some (.pointer none),1,8):=by kernel_rfl
def ArgA (ok:Ok) (w:World) (rows:List Row) (p:Value):Prop:=∃ (g:Nat) (k v:ByteArray) (l n x:Value) (b:List Row),p=ptr g∧At ok w g #[.string k,l,n,x] 193∧LocA ok w l∧NameA ok w n v∧ValE ok w b x∧rows=nd 9 v e0 e0 0 b
theorem ArgA.fr {ok ok':Ok} {w w':World} {r:List Row} {p:Value} (h:ArgA ok w r p) (hf:Keeps ok ok' w w'):ArgA ok' w' r p:=by
 obtain ⟨g,k,v,l,n,x,b,h1,h2,h3,h4,h5,h6⟩:=h
 exact ⟨g,k,v,l,n,x,b,h1,h2.fr hf,h3.fr hf,h4.fr hf,h5.fr hf,h6⟩
theorem ArgA.ptr {ok:Ok} {w:World} {r:List Row} {p:Value} (h:ArgA ok w r p):∃ g,p=R.ptr g:=by obtain ⟨g,_,_,_,_,_,_,h,_⟩:=h;exact ⟨g,h⟩
def ArgI (ok:Ok) (w:World) (rows:List Row) (p:Value):Prop:=∃ q,p=.iface 191 q∧ArgA ok w rows q
theorem ArgI.fr {ok ok':Ok} {w w':World} {r:List Row} {p:Value} (h:ArgI ok w r p) (hf:Keeps ok ok' w w'):ArgI ok' w' r p:=by
 obtain ⟨q,h,h2⟩:=h;exact ⟨q,h,h2.fr hf⟩
theorem arg_walk {C:Cx} {w:World} {t:Tk} {r:List Tk} {f:Nat} (hV:ValSpec C f false) (h:PS C w t r) (hne:(pNV 9 (pVal f false) (t :: r))≠.out):Calls Tryz.prog 144 #[ptr C.gp] w (Got C w (pNV 9 (pVal f false) (t :: r)) (ArgI)):=by
 have HP:=mkA h
 have OK:=mkA h.ok
 have LOW:=mkA h.lo
 have c6:=h.cells.2.2.1
 have HB:=mkA (Fr.refl C.gp C.gc w)
 clear h
 obtain ⟨RES,hR⟩:∃ RES,RES=(pNV 9 (pVal f false) (t :: r)):=⟨_,rfl⟩
 rw [← hR] at hne ⊢
 unfold pNV at hR
 have HR:=mkA hR
 have HN:=mkA hne
 clear hR hne
 go_enter Tryz.func144,Tryz.ntmps144
 go_wp2_with fail
 refine (parseName_walk HP.out).mono ?_
 intro e w0 hG;have G:=got_cases hG (fun h k=>h.fr k) OK LOW HB HR HN;clear hG HB HR
 rcases G with ⟨v_,te,x,rfl,rfl,HP0,HB⟩ | ⟨v0,u0,r0,p0,rfl,HR,HP0,HB,K,N0⟩
 ·go_wp2;go_ret2;exact ⟨HB.out,HP0.out,_,te,x,rfl⟩
 obtain ⟨gq0,rfl⟩:=NameA.ptr N0.out
 clear K
 go_wp2_with fail
 refine (expect_walk HP0.out 7 (by decide)).mono ?_
 intro e w1 hG;have G:=exp_cases hG.e3 OK LOW HB HR HN;clear hG HB HR
 rcases G with ⟨te,x,rfl,rfl,HP1,HB⟩ | ⟨u1,r1,rfl,HR,HP1,HB,K⟩
 ·go_wp2;go_ret2;exact ⟨HB.out,HP1.out,_,te,x,rfl⟩
 replace N0:=mkA (N0.out.fr K.out)
 clear K
 go_wp2_with fail
 refine (hV _ _ _ HP1.out (no_out HR HN)).mono ?_
 intro e w2 hG;have G:=got_cases hG (fun h k=>h.fr k) OK LOW HB HR HN;clear hG HB HR
 rcases G with ⟨v_,te,x,rfl,rfl,HP2,HB⟩ | ⟨v2,u2,r2,p2,rfl,HR,HP2,HB,K,N2⟩
 ·go_wp2;go_ret2;exact ⟨HB.out,HP2.out,_,te,x,rfl⟩
 obtain ⟨tv2,xv2,rfl⟩:=ValE.shape N2.out
 replace N0:=mkA (N0.out.fr K.out)
 clear K
 go_wp2_with (first | (go_at_call 59;refine (loc_ps HP2.out _).mono ?_;rintro e wl ⟨⟨gl,rfl,hgl⟩,hBl⟩;have HL:=mkA hgl;have HBl:=mkA hBl;clear hgl hBl) | (go_at_call 155;refine (newArg (heap_alloc_new wl _) (Nat.le_refl _) (below_alloc (Below.refl wl.heap.size wl) _).size).mono ?_;rintro e w9 ⟨⟨g9,k9,rfl,q1,h91⟩,q4⟩;obtain ⟨H90,HW,KX,KW⟩:=new_facts HB HBl.out q4 q1;have H91:=mkA h91;clear q1 q4 h91))
 go_ret2
 have h_:=HR.out;subst h_;exact ⟨HB.out.step HW.out,_,_,_,rfl,HP2.out.below HW.out,⟨_,rfl,g9,k9,_,_,_,_,_,rfl,⟨H90.out,H91.out⟩,HL.out.fr KX.out,N0.out.fr KW.out,N2.out.fr KW.out,rfl⟩,rfl⟩
theorem arg_item {C:Cx} {f:Nat} (hf:f≤1000000):Item C 144 (pNV 9 (pVal f false)) ArgI :=
 ⟨fun w t r h hne=>arg_walk (val_spec f hf) h hne,fun ok w r v h=>by obtain ⟨q,h,_⟩:=h;exact ⟨_,_,h⟩,fun ok ok' w w' r v hk h=>by obtain ⟨q,h,h2⟩:=h;exact ⟨q,h,h2.fr hk⟩⟩
theorem args_walk {C:Cx} {f:Nat} (hf:f≤1000000) {w:World} {t:Tk} {r:List Tk} (h:PS C w t r) (hne:pArgs f (t :: r)≠.out):Calls Tryz.prog 119 #[ptr C.gp] w (Got C w (pArgs f (t :: r)) (fun ok w' rows sl=>SlA ok w' 191 (fun v r=>ArgA ok w' r v) sl rows)):=by
 have HP0:=mkA h
 have OK:=mkA h.ok
 have LOW:=mkA h.lo
 have c6:=h.cells.2.2.1
 by_cases hk4:t.k=4
 ·rw [show pArgs f (t :: r)=rev true (pNV 9 (pVal f false)) 4 5 f (t :: r) from by unfold pArgs;rw [if_pos (by exact hk4)];exact some1_rev _ _ _ _ _] at hne ⊢
  have hpk:=kb hk4
  clear hk4
  have CR:=mkA (show ∀ o:Obj,Calls Tryz.prog 49 #[ptr C.gp,.int .i64 4,.func (.func 144) #[] #[],.int .i64 5,.bool true] (w.alloc o) (Got C (w.alloc o) (rev true (pNV 9 (pVal f false)) 4 5 f (t :: r)) (fun ok w' rows sl=>SlA ok w' 20 (fun v r=>ArgI ok w' r v) sl rows)) from fun o=>rev_walk (by simp) (arg_item hf) (h.alloc o) true 4 5 (by decide) (by decide) f hf hne)
  clear h hf
  cases e_:rev true (pNV 9 (pVal f false)) 4 5 f (t :: r) with
  | out=>exact absurd e_ hne
  | bad =>
    rw [e_] at CR
    clear e_ hne
    go_enter Tryz.func119,Tryz.ntmps119
    go_wp2_with (first
     | (go_at_call 48;(with_reducible refine (peek_walk (HP0.out.alloc _) 4).mono ?_);rintro e w_ ⟨rfl,rfl⟩)
     | (go_at_call 49;(with_reducible refine (CR.out _).mono ?_);rintro e w2 ⟨hF,hP,v_,te,x,rfl⟩;have HF:=mkA (((Fr.refl C.gp C.gc w).alloc (.cells #[] 191)).trans hF);have HP:=mkA hP;clear hF hP))
    go_ret2
    exact ⟨HF.out,HP.out,_,te,x,rfl⟩
  | ok a_ =>
    obtain ⟨rows,l1⟩:=a_
    rw [e_] at CR
    clear e_ hne
    go_enter Tryz.func119,Tryz.ntmps119
    go_wp2_with (first
     | (go_at_call 48;(with_reducible refine (peek_walk (HP0.out.alloc _) 4).mono ?_);rintro e w_ ⟨rfl,rfl⟩)
     | (go_at_call 49;(with_reducible refine (CR.out _).mono ?_);rintro e w2 ⟨hF,sl,u1,r1,hl_,hP,⟨n,xs,hn,hO,hM⟩,rfl⟩;subst hl_;have HF:=mkA (((Fr.refl C.gp C.gc w).alloc (.cells #[] 191)).trans hF);have HP:=mkA hP;have HO:=mkA hO;have HM:=mkA hM;have HN:=mkA hn;have HV:=mkA (hF.blk (heap_alloc_new w (.cells #[] 191)) (by have:=LOW.out;have:=OK.out.pl;omega) (by have:=LOW.out;have:=OK.out.pl;have:=OK.out.cp;omega));obtain ⟨hxn,hsh⟩:=own_shape hO;have HXN:=mkA hxn;clear hF hP hO hM hn hxn;have hsh2:∃ (A:Option Addr) (cp:Nat),sl=.slice A n cp:=(by rcases hsh with ⟨e1,e2⟩ | ⟨g1,cp,e1,_⟩;exact ⟨none,0,by rw [e1,e2]⟩;exact ⟨_,cp,e1⟩);have HSH:=mkA hsh;clear hsh;obtain ⟨A,cp,rfl⟩:=hsh2))
    go_loopw [4,23] (fun v4 v23 wr=>∃ (j:Nat) (ys:List Value) (ra rb:List Row),v23=.int .i64 j∧Aside0 (j≤n)∧Aside0 (wr.ownsRow w.heap.size 191 1 v4 ys.length ys)∧Aside0 (ys.length=j)∧Aside0 (Many (fun v r=>ArgA (okl (w.heap.size+1) v4) wr r v) ys ra)∧Aside0 (Many (fun v r=>ArgI (okl (w.heap.size+1) v4) wr r v) (xs.drop j) rb)∧Aside0 (ra++rb=rows)∧Aside0 (Own (okl (w.heap.size+1) v4) wr 20 (.slice A n cp) n xs)∧Aside0 (FrC C w wr)∧Aside0 (PS C wr u1 r1)) (fun _ v23 _=>n - (intOf v23).toNat)
    case atStart =>
     have hst:Keeps (from_ (w.alloc (.cells #[] 191)).heap.size) (okl (w.heap.size+1) (.slice (some ⟨w.heap.size,0,none⟩) 0 0)) w2 w2:=fun g o h1 h2=>⟨⟨by have h3:(w.alloc (.cells #[] 191)).heap.size≤g:=h1;rw [World.size_alloc] at h3;exact h3,fun e=>by have h3:(w.alloc (.cells #[] 191)).heap.size≤g:=h1;rw [World.size_alloc] at h3;simp [Value.ownBlock] at e;omega⟩,h2⟩
     exact ⟨0,[],[],rows,rfl,⟨Nat.zero_le _⟩,⟨rfl,.inr ⟨w.heap.size,0,#[],rfl,Nat.le_refl _,HV.out,Nat.le_refl _,Nat.zero_le _,rfl,rfl⟩⟩,⟨rfl⟩,⟨.nil⟩,⟨by rw [List.drop_zero];exact HM.out.mono (fun v r h=>h.fr hst)⟩,⟨rfl⟩,⟨HO.out.fr hst⟩,HF,HP⟩
    case round =>
     obtain ⟨j,ys,ra,rb,rfl,HJ,HOv,HYL,HMa,HMb,HRR,HOs,HBr,HPr⟩:=hrel
     by_cases hlt:j < n
     ·have HLT:=mkA hlt
      obtain ⟨x,hx⟩:∃ x,xs[j]?=some x:=⟨_,List.getElem?_eq_getElem (by rw [HXN.out];exact hlt)⟩
      have hd:xs.drop j=x :: xs.drop (j+1):=by
       obtain ⟨h1,h2⟩:=List.getElem?_eq_some_iff.1 hx
       rw [List.drop_eq_getElem_cons h1,h2]
      have hmb:=HMb.out
      rw [hd] at hmb
      obtain ⟨a,b,rfl,hq,hmb2⟩:=many_cons hmb
      have HMb2:=mkA hmb2
      clear hd hmb hmb2 HMb
      have hA:∃ g1:Nat,A=some ⟨g1,0,none⟩:=by
       rcases HSH.out with ⟨_,e⟩ | ⟨g1,cp1,e,_⟩
       ·omega
       ·injection e with e1 e2 e3;exact ⟨g1,e1⟩
      obtain ⟨g1,rfl⟩:=hA
      have hrd:=own_read HOs.out hx
      have HX:=mkA hx
      clear hx
      obtain ⟨q_,rfl,hq2⟩:=hq
      obtain ⟨gy,rfl⟩:=ArgA.ptr hq2
      have hta:∀ w,(Instr.typeAssert (.iface 191 (ptr gy)) 20 191 false).run Tryz.prog w=.ok (ptr gy) w:=fun w=>by kernel_rfl
      have HQ:=mkA hq2
      have q0:(j < n)=True:=eq_true hlt
      have hnn:n≤1000000:=HN.out
      have HNW:=mkA (show wrap64 ((j:Int)+1)=((j+1:Nat):Int) from (w64 (by omega) (by omega)).trans (by omega))
      clear hlt hnn hq2
      go_wp2_with (first
       | (at_builtin;refine print_append (w0:=wr) w.heap.size rfl (.tmp 27) (.tmp 30) 155 191 (.pointer none) 8 rfl Tryz.underlying155 info191' rfl (by decide) u4 ys (ptr gy) rfl rfl rfl HOv.out (Below.refl _ _) HBr.out.size (by have:=HYL.out;have:=HLT.out;have:=HN.out;omega) ?_;intro v6 w6 ho hb hg hat;have HO6:=mkA ho;have HG6:=mkA hg;have HA6:=mkA hat;clear ho hb hg hat))
      go_roundw
      case rel =>
       have hK:=okl_keeps (n:=w.heap.size+1) HG6.out HA6.out
       exact ⟨j+1,ys++[(ptr gy)],ra++a,b,congrArg (Value.int .i64) HNW.out,⟨HLT.out⟩,HO6,⟨by rw [List.length_append,HYL.out];rfl⟩,⟨Many.snoc (HMa.out.mono (fun v r h=>h.fr hK)) (by have h:=HQ.out;exact h.fr hK)⟩,⟨HMb2.out.mono (fun v r h=>h.fr hK)⟩,⟨by rw [← HRR.out,List.append_assoc]⟩,⟨HOs.out.fr hK⟩,⟨fr_grown HBr.out HG6.out (fun b hb=>(own_lt HOv.out hb).2)⟩,⟨ps_grown HPr.out HG6.out (fun b hb=>Nat.le_trans LOW.out (own_lt HOv.out hb).2)⟩⟩
      case measure=>exact msr_up2 n j HLT.out HN.out
     ·have q0:(j < n)=False:=eq_false hlt
      have hjn:j=n:=by have:=HJ.out;omega
      have hra:ra=rows:=by
       have h1:=HMb.out
       rw [hjn,← HXN.out,List.drop_length] at h1
       cases h1
       rw [← HRR.out,List.append_nil]
      have HRA:=mkA hra
      have HSL:=mkA (show SlA (from_ w.heap.size) wr 191 (fun v r=>ArgA (from_ w.heap.size) wr r v) u4 ra from ⟨ys.length,ys,by have:=HYL.out;have:=HN.out;have:=HJ.out;omega,own_of HOv.out,HMa.out.mono (fun v r h=>(have hK:Keeps (okl (w.heap.size+1) u4) (from_ w.heap.size) wr wr:=(fun g o h1 h2=>⟨Nat.le_trans (Nat.le_succ _) h1.1,h2⟩);h.fr hK))⟩)
      obtain ⟨A8,cp8,h8⟩:∃ (A8:Option Addr) (cp8:Nat),u4=.slice A8 ys.length cp8:=by
       rcases (own_shape (own_of HOv.out)).2 with ⟨e1,e2⟩ | ⟨g8,cp8,e1,_⟩
       ·exact ⟨none,0,by rw [e1,e2]⟩
       ·exact ⟨_,cp8,e1⟩
      subst h8
      clear hlt hjn hra
      go_wp2
      go_ret2
      exact ⟨HBr.out,_,u1,r1,rfl,HPr.out,by rw [← HRA.out];exact HSL.out,rfl⟩
 ·rw [show pArgs f (t :: r)=.ok ([],t :: r) from by unfold pArgs;rw [if_neg (by exact hk4)]]
  have hpk:=kn hk4
  clear hk4 hne
  go_enter Tryz.func119,Tryz.ntmps119
  go_wp2_with (first
   | (go_at_call 48;(with_reducible refine (peek_walk (HP0.out.alloc _) 4).mono ?_);rintro e w_ ⟨rfl,rfl⟩))
  go_ret2
  exact ⟨(Fr.refl C.gp C.gc w).alloc _,_,t,r,rfl,HP0.out.alloc _,⟨0,[],by decide,⟨⟨rfl,.inr ⟨w.heap.size,0,#[],rfl,Nat.zero_le _,heap_alloc_new w _,Nat.le_refl _,Nat.zero_le _,rfl,rfl⟩⟩,fun b hb=>by simp [Value.ownBlock] at hb;exact Nat.le_of_eq hb⟩,.nil⟩,rfl⟩
def ArgsA (ok:Ok) (w:World) (rows:List Row) (sl:Value):Prop:=SlA ok w 191 (fun v r=>ArgA ok w r v) sl rows
theorem ArgsA.fr {ok ok':Ok} {w w':World} {r:List Row} {p:Value} (h:ArgsA ok w r p) (hf:Keeps ok ok' w w'):ArgsA ok' w' r p:=SlA.fr h hf (fun v r h=>h.fr hf)
theorem SlA.shape {ok:Ok} {w:World} {e:TypeId} {X:Value→List Row→Prop} {sl:Value} {r:List Row} (h:SlA ok w e X sl r):∃ (A:Option Addr) (n c:Nat),sl=.slice A n c:=by
 obtain ⟨n,xs,_,h,_⟩:=h
 rcases (own_shape h).2 with ⟨e1,e2⟩ | ⟨g1,cp,e1,_⟩
 ·exact ⟨none,0,0,e1⟩
 ·exact ⟨_,_,_,e1⟩
def DirA (ok:Ok) (w:World) (rows:List Row) (p:Value):Prop:=∃ (g:Nat) (k v:ByteArray) (l n x:Value) (b:List Row),p=ptr g∧At ok w g #[.string k,l,n,x] 196∧LocA ok w l∧NameA ok w n v∧ArgsA ok w b x∧rows=nd 10 v e0 e0 0 b
theorem DirA.fr {ok ok':Ok} {w w':World} {r:List Row} {p:Value} (h:DirA ok w r p) (hf:Keeps ok ok' w w'):DirA ok' w' r p:=by
 obtain ⟨g,k,v,l,n,x,b,h1,h2,h3,h4,h5,h6⟩:=h
 exact ⟨g,k,v,l,n,x,b,h1,h2.fr hf,h3.fr hf,h4.fr hf,h5.fr hf,h6⟩
theorem DirA.ptr {ok:Ok} {w:World} {r:List Row} {p:Value} (h:DirA ok w r p):∃ g,p=R.ptr g:=by obtain ⟨g,_,_,_,_,_,_,h,_⟩:=h;exact ⟨g,h⟩
theorem dir_walk {C:Cx} {w:World} {t:Tk} {r:List Tk} {f:Nat} (hf:f≤1000000) (h:PS C w t r) (hne:(pDir f (t :: r))≠.out):Calls Tryz.prog 143 #[ptr C.gp] w (Got C w (pDir f (t :: r)) (DirA)):=by
 have HP:=mkA h
 have OK:=mkA h.ok
 have LOW:=mkA h.lo
 have c6:=h.cells.2.2.1
 have HB:=mkA (Fr.refl C.gp C.gc w)
 clear h
 have HFB:=mkA hf
 clear hf
 obtain ⟨RES,hR⟩:∃ RES,RES=(pDir f (t :: r)):=⟨_,rfl⟩
 rw [← hR] at hne ⊢
 unfold pDir at hR
 have HR:=mkA hR
 have HN:=mkA hne
 clear hR hne
 go_enter Tryz.func143,Tryz.ntmps143
 go_wp2_with fail
 refine (expect_walk HP.out 9 (by decide)).mono ?_
 intro e w0 hG;have G:=exp_cases hG.e3 OK LOW HB HR HN;clear hG HB HR
 rcases G with ⟨te,x,rfl,rfl,HP0,HB⟩ | ⟨u0,r0,rfl,HR,HP0,HB,K⟩
 ·go_wp2;go_ret2;exact ⟨HB.out,HP0.out,_,te,x,rfl⟩
 clear K
 go_wp2_with fail
 refine (parseName_walk HP0.out).mono ?_
 intro e w1 hG;have G:=got_cases hG (fun h k=>h.fr k) OK LOW HB HR HN;clear hG HB HR
 rcases G with ⟨v_,te,x,rfl,rfl,HP1,HB⟩ | ⟨v1,u1,r1,p1,rfl,HR,HP1,HB,K,N1⟩
 ·go_wp2;go_ret2;exact ⟨HB.out,HP1.out,_,te,x,rfl⟩
 obtain ⟨gq1,rfl⟩:=NameA.ptr N1.out
 clear K
 go_wp2_with fail
 refine (args_walk HFB.out HP1.out (no_out HR HN)).mono ?_
 intro e w2 hG;have G:=got_cases hG (fun h k=>ArgsA.fr h k) OK LOW HB HR HN;clear hG HB HR
 rcases G with ⟨v_,te,x,rfl,rfl,HP2,HB⟩ | ⟨v2,u2,r2,p2,rfl,HR,HP2,HB,K,N2⟩
 ·go_wp2;go_ret2;exact ⟨HB.out,HP2.out,_,te,x,rfl⟩
 obtain ⟨aa2,an2,ac2,rfl⟩:=SlA.shape N2.out
 replace N1:=mkA (N1.out.fr K.out)
 clear K
 go_wp2_with (first | (go_at_call 59;refine (loc_ps HP2.out _).mono ?_;rintro e wl ⟨⟨gl,rfl,hgl⟩,hBl⟩;have HL:=mkA hgl;have HBl:=mkA hBl;clear hgl hBl) | (go_at_call 154;refine (newDir (heap_alloc_new wl _) (Nat.le_refl _) (below_alloc (Below.refl wl.heap.size wl) _).size).mono ?_;rintro e w9 ⟨⟨g9,k9,rfl,q1,h91⟩,q4⟩;obtain ⟨H90,HW,KX,KW⟩:=new_facts HB HBl.out q4 q1;have H91:=mkA h91;clear q1 q4 h91))
 go_ret2
 have h_:=HR.out;subst h_;exact ⟨HB.out.step HW.out,_,_,_,rfl,HP2.out.below HW.out,⟨g9,k9,_,_,_,_,_,rfl,⟨H90.out,H91.out⟩,HL.out.fr KX.out,N1.out.fr KW.out,ArgsA.fr N2.out KW.out,rfl⟩,rfl⟩
theorem info194':(Tryz.prog.info? 194).map (fun i=>(i.zero,i.size,i.bytes))=some (some (.pointer none),1,8):=by kernel_rfl
def DirsA (ok:Ok) (w:World) (rows:List Row) (sl:Value):Prop:=SlA ok w 194 (fun v r=>DirA ok w r v) sl rows
theorem DirsA.fr {ok ok':Ok} {w w':World} {r:List Row} {p:Value} (h:DirsA ok w r p) (hf:Keeps ok ok' w w'):DirsA ok' w' r p:=SlA.fr h hf (fun v r h=>h.fr hf)
theorem dirs_walk {C:Cx} {f g:Nat} (hf:f≤1000000) (hgb:g≤1000000) {w:World} {t:Tk} {r:List Tk} (h:PS C w t r) (hne:pDirs g f (t :: r)≠.out):Calls Tryz.prog 116 #[ptr C.gp] w (Got C w (pDirs g f (t :: r)) DirsA):=by
 have HP0:=mkA h
 have OK:=mkA h.ok
 have LOW:=mkA h.lo
 have HF:=mkA hf
 have HGB:=mkA hgb
 clear h hf hgb
 obtain ⟨RES,hR⟩:∃ RES,RES=pDirs g f (t :: r):=⟨_,rfl⟩
 rw [← hR] at hne ⊢
 have HR:=mkA hR
 have HNE:=mkA hne
 clear hR hne
 go_enter Tryz.func116,Tryz.ntmps116
 go_wp2
 go_loopg [4] f (fun gk v4 wr=>∃ (xs:List Value) (rows:List Row) (t':Tk) (r':List Tk),Aside0 (wr.ownsRow w.heap.size 194 1 v4 xs.length xs)∧Aside0 (Many (fun v r=>DirA (okl w.heap.size v4) wr r v) xs rows)∧Aside0 (PS C wr t' r')∧Aside0 (RES=(pDirs g gk (t' :: r')).bind fun y=>.ok (rows++y.1,y.2))∧Aside0 (FrC C w wr)∧Aside0 (xs.length+gk≤f))
 case atStart=>exact ⟨[],[],t,r,⟨rfl,.inr ⟨w.heap.size,0,#[],rfl,Nat.le_refl _,heap_alloc_new w _,Nat.le_refl _,Nat.zero_le _,rfl,rfl⟩⟩,⟨.nil⟩,⟨HP0.out.alloc _⟩,⟨by rw [HR.out];cases pDirs g f (t :: r) <;> rfl⟩,⟨(Fr.refl C.gp C.gc w).alloc _⟩,⟨by simp⟩⟩
 case round =>
  obtain ⟨xs,rows,t',r',HO,HM,HPr,HRr,HBr,HN⟩:=hrel
  cases gk with
  | zero=>exact absurd HRr.out (fun e=>HNE.out (by rw [e];rfl))
  | succ k1 =>
    by_cases hkc:t'.k=9
    ·have hb:=kb hkc
     have hr:=HRr.out
     have e2:pDirs g (k1+1) (t' :: r')=(pDir g (t' :: r')).bind fun x=>(pDirs g k1 x.2).bind fun y=>.ok (x.1++y.1,y.2):=by show (if hk (t' :: r')=9 then _ else _)=_;rw [if_pos (by exact hkc)]
     rw [e2] at hr
     clear HRr e2 hkc
     cases e_:pDir g (t' :: r') with
     | out=>rw [e_] at hr;exact absurd hr HNE.out
     | bad =>
       rw [e_] at hr
       have E1:=mkA e_
       have hR1:RES=O.bad:=hr
       clear e_ hr
       subst hR1
       go_wp2_with (first
        | (go_at_call 48;(with_reducible refine (peek_walk HPr.out 9).mono ?_);rintro e w_ ⟨rfl,rfl⟩)
        | (go_at_call 143;have c_:=dir_walk HGB.out HPr.out (by rw [E1.out];exact fun e=>by cases e);rw [E1.out] at c_;(with_reducible refine c_.mono ?_);rintro e w5 ⟨hF,hP,v_,te,x,rfl⟩;have HB5:=mkA (HBr.out.trans hF);have HP5:=mkA hP;clear hF hP))
       go_ret2
       exact ⟨HB5.out,HP5.out,_,te,x,rfl⟩
     | ok a_ =>
       obtain ⟨rw_,l2⟩:=a_
       rw [e_] at hr
       simp only [O.bind_ok] at hr
       have E1:=mkA e_
       have HR1:=mkA hr
       clear e_ hr
       go_wp2_with (first
        | (go_at_call 48;(with_reducible refine (peek_walk HPr.out 9).mono ?_);rintro e w_ ⟨rfl,rfl⟩)
        | (go_at_call 143;have c_:=dir_walk HGB.out HPr.out (by rw [E1.out];exact fun e=>by cases e);rw [E1.out] at c_;(with_reducible refine c_.mono ?_);rintro e w5 ⟨hF,v5,u5,r5,hl_,hP,hQ,rfl⟩;subst hl_;obtain ⟨gx,rfl⟩:=hQ.ptr;have HB5:=mkA (HBr.out.trans hF);have HP5:=mkA hP;have HO5:=mkA (own_keep HO.out (fun g o hg hh=>hF.blk hh (by have:=LOW.out;have:=OK.out.pl;omega) (by have:=LOW.out;have:=OK.out.pl;have:=OK.out.cp;omega)));have HM5:=mkA (HM.out.mono (fun v r h=>DirA.fr h (show Keeps (okl w.heap.size u4) (okl w.heap.size u4) _ w5 from fun g o h1 h2=>⟨h1,hF.blk h2 (by have:=LOW.out;have:=OK.out.pl;have:=h1.1;omega) (by have:=LOW.out;have:=OK.out.pl;have:=OK.out.cp;have:=h1.1;omega)⟩)));have HN5:=mkA (DirA.fr hQ (show Keeps (from_ wr.heap.size) (okl w.heap.size u4) w5 w5 from fun g o h1 h2=>⟨⟨Nat.le_trans HBr.out.size h1,fun e=>by have:=(own_lt HO.out e.symm).1;have:wr.heap.size≤g:=h1;omega⟩,h2⟩));clear hF hP hQ)
        | (at_builtin;refine print_append (w0:=w5) w.heap.size rfl (.tmp 19) (.tmp 21) 156 194 (.pointer none) 8 rfl Tryz.underlying156 info194' rfl (by decide) u4 xs (ptr gx) rfl rfl rfl HO5.out (Below.refl _ _) HB5.out.size (by have:=HN.out;have:=HF.out;omega) ?_;intro v6 w6 ho hb hg hat;have HO6:=mkA ho;have HG6:=mkA hg;have HA6:=mkA hat;clear ho hb hg hat))
       go_roundg k1
       case measure=>omega
       case rel=>exact ⟨xs++[ptr gx],rows++rw_,u5,r5,HO6,⟨many_step2 (fun hK v r h=>DirA.fr h hK) HM5.out HN5.out HG6.out HA6.out⟩,⟨ps_grown HP5.out HG6.out (fun b hb=>Nat.le_trans LOW.out (own_lt HO5.out hb).2)⟩,⟨by rw [HR1.out];cases pDirs g k1 (u5 :: r5) with | out=>rfl | bad=>rfl | ok a=>simp⟩,⟨fr_grown HB5.out HG6.out (fun b hb=>(own_lt HO5.out hb).2)⟩,⟨by have:=HN.out;simp;omega⟩⟩
    ·have hb:=kn hkc
     have hr:=HRr.out
     have e2:pDirs g (k1+1) (t' :: r')=.ok ([],t' :: r'):=by show (if hk (t' :: r')=9 then _ else _)=_;rw [if_neg (by exact hkc)]
     rw [e2] at hr
     have hR1:RES=O.ok (rows,t' :: r'):=by rw [hr];simp
     clear HRr e2 hkc hr
     subst hR1
     have hsl:∃ (A:Option Addr) (cp:Nat),u4=.slice A xs.length cp:=by
      obtain ⟨_,⟨rfl,h0⟩ | ⟨g9,cap,cur,rfl,_⟩⟩:=HO.out
      ·exact ⟨none,0,by rw [h0]⟩
      ·exact ⟨_,cap,rfl⟩
     obtain ⟨A,cp,rfl⟩:=hsl
     go_wp2_with (first
      | (go_at_call 48;(with_reducible refine (peek_walk HPr.out 9).mono ?_);rintro e w_ ⟨rfl,rfl⟩))
     go_ret2
     exact ⟨HBr.out,_,t',r',rfl,HPr.out,⟨xs.length,xs,by have:=HN.out;have:=HF.out;omega,own_of HO.out,HM.out.mono (fun v r h=>DirA.fr h (fun g o h1 h2=>⟨h1.1,h2⟩))⟩,rfl⟩
theorem info93':(Tryz.prog.info? 93).map (fun i=>(i.zero,i.size,i.bytes))=some (some .nilIface,1,16):=by kernel_rfl
def SetA (ok:Ok) (w:World) (X:Value→List Row→Prop) (rows:List Row) (p:Value):Prop:=∃ (g:Nat) (k:ByteArray) (l sl:Value) (r:List Row),p=ptr g∧At ok w g #[.string k,l,sl] 91∧LocA ok w l∧SlA ok w 93 X sl r∧rows=nd 5 e0 e0 e0 0 r
theorem SetA.fr {ok ok':Ok} {w w':World} {X Y:Value→List Row→Prop} {rows:List Row} {p:Value} (h:SetA ok w X rows p) (hf:Keeps ok ok' w w') (hm:∀ v r,X v r→Y v r):SetA ok' w' Y rows p:=by
 obtain ⟨g,k,l,sl,r,h1,h2,h3,h4,h5⟩:=h
 exact ⟨g,k,l,sl,r,h1,h2.fr hf,h3.fr hf,h4.fr hf hm,h5⟩
def SetO (ok:Ok) (w:World) (X:Value→List Row→Prop) (rows:List Row) (p:Value):Prop:=(p=.pointer none∧rows=[])∨SetA ok w X rows p
inductive SelS (ok:Ok) (w:World) (X:Value→List Row→Prop):Value→List Row→Prop
 | field {g:Nat} {k v av:ByteArray} {l al n ag ds ss:Value} {ra rd rs:List Row}:At ok w g #[.string k,l,al,n,ag,ds,ss] 158→LocA ok w l→((al=.pointer none∧av=e0)∨NameA ok w al av)→NameA ok w n v→ArgsA ok w ra ag→DirsA ok w rd ds→SetO ok w X rs ss→SelS ok w X (.iface 154 (ptr g)) (nd 6 v av e0 0 (ra++rd++rs))
 | spread {g:Nat} {k v:ByteArray} {l n ds:Value} {rd:List Row}:At ok w g #[.string k,l,n,ds] 163→LocA ok w l→NameA ok w n v→DirsA ok w rd ds→SelS ok w X (.iface 161 (ptr g)) (nd 7 v e0 e0 0 rd)
 | inline {g:Nat} {k v:ByteArray} {l tc ds ss:Value} {rd rs:List Row}:At ok w g #[.string k,l,tc,ds,ss] 166→LocA ok w l→((tc=.pointer none∧v=e0)∨NamedA ok w tc v)→DirsA ok w rd ds→SetA ok w X rs ss→SelS ok w X (.iface 164 (ptr g)) (nd 8 e0 e0 v 0 (rd++rs))
theorem SelS.fr {ok ok':Ok} {w w':World} {X Y:Value→List Row→Prop} {p:Value} {r:List Row} (h:SelS ok w X p r) (hf:Keeps ok ok' w w') (hm:∀ v r,X v r→Y v r):SelS ok' w' Y p r:=by
 cases h with
 | field a b c d e f g=>exact .field (a.fr hf) (b.fr hf) (c.imp id (fun h=>h.fr hf)) (d.fr hf) (ArgsA.fr e hf) (DirsA.fr f hf) (g.imp id (fun h=>h.fr hf hm))
 | spread a b c d=>exact .spread (a.fr hf) (b.fr hf) (c.fr hf) (DirsA.fr d hf)
 | inline a b c d e=>exact .inline (a.fr hf) (b.fr hf) (c.imp id (fun h=>h.fr hf)) (DirsA.fr d hf) (e.fr hf hm)
def SelA (ok:Ok) (w:World):Nat→Value→List Row→Prop
 | 0=>fun _ _=>False
 | n+1=>SelS ok w (SelA ok w n)
theorem SelA.fr {ok ok':Ok} {w w':World} (hf:Keeps ok ok' w w'):∀ (n:Nat) (p:Value) (r:List Row),SelA ok w n p r→SelA ok' w' n p r:=by
 intro n
 induction n with
 | zero=>intro p r h;exact h
 | succ n ih=>intro p r h;exact SelS.fr h hf ih
theorem SelA.up {ok:Ok} {w:World}:∀ (n:Nat) (p:Value) (r:List Row),SelA ok w n p r→SelA ok w (n+1) p r:=by
 intro n
 induction n with
 | zero=>intro p r h;exact h.elim
 | succ n ih=>intro p r h;exact SelS.fr h (Keeps.refl _ _) ih
theorem selA_le {ok:Ok} {w:World} {m n:Nat} (h:m≤n) {p:Value} {r:List Row} (hv:SelA ok w m p r):SelA ok w n p r:=by
 induction h with
 | refl=>exact hv
 | step _ ih=>exact SelA.up _ _ _ ih
def SelE (ok:Ok) (w:World) (r:List Row) (v:Value):Prop:=∃ n,SelA ok w n v r
theorem SelE.fr {ok ok':Ok} {w w':World} {r:List Row} {v:Value} (h:SelE ok w r v) (hf:Keeps ok ok' w w'):SelE ok' w' r v:=by
 obtain ⟨n,h⟩:=h;exact ⟨n,SelA.fr hf n _ _ h⟩
theorem SelE.shape2 {ok:Ok} {w:World} {r:List Row} {v:Value} (h:SelE ok w r v):∃ (te:TypeId) (g:Nat),v=.iface te (ptr g)∧(te=154∨te=161∨te=164):=by
 obtain ⟨n,h⟩:=h
 cases n with
 | zero=>exact h.elim
 | succ n=>cases h <;> exact ⟨_,_,rfl,by simp⟩
theorem sel_depth {ok:Ok} {w:World} {l:List Value} {r:List Row} (h:Many (fun v r=>SelE ok w r v) l r):∃ n,Many (SelA ok w n) l r:=by
 induction h with
 | nil=>exact ⟨0,.nil⟩
 | cons a _ ih =>
   obtain ⟨m,ha⟩:=a
   obtain ⟨n,hm⟩:=ih
   exact ⟨max m n,.cons (selA_le (Nat.le_max_left _ _) ha) (hm.mono fun v r h=>selA_le (Nat.le_max_right _ _) h)⟩
def SetE (ok:Ok) (w:World) (rows:List Row) (p:Value):Prop:=SetA ok w (fun v r=>SelE ok w r v) rows p
theorem SetE.fr {ok ok':Ok} {w w':World} {r:List Row} {v:Value} (h:SetE ok w r v) (hf:Keeps ok ok' w w'):SetE ok' w' r v:=SetA.fr h hf (fun v r h=>h.fr hf)
theorem SetE.ptr {ok:Ok} {w:World} {r:List Row} {p:Value} (h:SetE ok w r p):∃ g,p=R.ptr g:=by obtain ⟨g,_,_,_,_,h,_⟩:=h;exact ⟨g,h⟩
theorem SetE.depth {ok:Ok} {w:World} {r:List Row} {p:Value} (h:SetE ok w r p):∃ n,SetA ok w (SelA ok w n) r p:=by
 obtain ⟨g,k,l,sl,r,h1,h2,h3,⟨n,xs,h4,h5,h6⟩,h7⟩:=h
 obtain ⟨d,h8⟩:=sel_depth h6
 exact ⟨d,g,k,l,sl,r,h1,h2,h3,⟨n,xs,h4,h5,h8⟩,h7⟩
theorem SelE.field {ok:Ok} {w:World} {g:Nat} {k v av:ByteArray} {l al n ag ds ss:Value} {ra rd rs:List Row} (a:At ok w g #[.string k,l,al,n,ag,ds,ss] 158) (b:LocA ok w l) (c:(al=.pointer none∧av=e0)∨NameA ok w al av) (d:NameA ok w n v) (e:ArgsA ok w ra ag) (f:DirsA ok w rd ds) (h:(ss=.pointer none∧rs=[])∨SetE ok w rs ss):SelE ok w (nd 6 v av e0 0 (ra++rd++rs)) (.iface 154 (ptr g)):=by
 rcases h with h | h
 ·exact ⟨1,SelS.field (X:=SelA ok w 0) a b c d e f (.inl h)⟩
 ·obtain ⟨n,h⟩:=h.depth
  exact ⟨n+1,SelS.field (X:=SelA ok w n) a b c d e f (.inr h)⟩
theorem SelE.spread {ok:Ok} {w:World} {g:Nat} {k v:ByteArray} {l n ds:Value} {rd:List Row} (a:At ok w g #[.string k,l,n,ds] 163) (b:LocA ok w l) (c:NameA ok w n v) (d:DirsA ok w rd ds):SelE ok w (nd 7 v e0 e0 0 rd) (.iface 161 (ptr g)):=⟨1,SelS.spread (X:=SelA ok w 0) a b c d⟩
theorem SelE.inline {ok:Ok} {w:World} {g:Nat} {k v:ByteArray} {l tc ds ss:Value} {rd rs:List Row} (a:At ok w g #[.string k,l,tc,ds,ss] 166) (b:LocA ok w l) (c:(tc=.pointer none∧v=e0)∨NamedA ok w tc v) (d:DirsA ok w rd ds) (e:SetE ok w rs ss):SelE ok w (nd 8 e0 e0 v 0 (rd++rs)) (.iface 164 (ptr g)):=by
 obtain ⟨n,h⟩:=e.depth
 exact ⟨n+1,SelS.inline (X:=SelA ok w n) a b c d h⟩
theorem DirsA.shape {ok:Ok} {w:World} {r:List Row} {sl:Value} (h:DirsA ok w r sl):∃ (A:Option Addr) (n c:Nat),sl=.slice A n c:=SlA.shape h
theorem ta_sel {te:TypeId} (h:te=154∨te=161∨te=164) (x:Value) (w:World):(Instr.typeAssert (.iface te x) 20 93 false).run Tryz.prog w=.ok (.iface te x) w:=by
 rcases h with rfl | rfl | rfl <;> kernel_rfl
def SelSpec (C:Cx) (f:Nat):Prop:=∀ (w:World) (t:Tk) (r:List Tk),PS C w t r→pSel f (t :: r)≠.out→Calls Tryz.prog 57 #[ptr C.gp] w (Got C w (pSel f (t :: r)) SelE)
theorem sel_item {C:Cx} {f:Nat} (h:SelSpec C f):Item C 57 (pSel f) SelE :=
 ⟨h,fun ok w r v h=>by obtain ⟨te,g,h,_⟩:=h.shape2;exact ⟨_,_,h⟩,fun ok ok' w w' r v hk h=>h.fr hk⟩
theorem set_walk0 {C:Cx} {f:Nat} (hS:SelSpec C f) (hf:f≤1000000) {w:World} {t:Tk} {r:List Tk} (h:PS C w t r) (hne:rev true (pSel f) 12 14 f (t :: r)≠.out):Calls Tryz.prog 30 #[ptr C.gp] w (Got C w ((rev true (pSel f) 12 14 f (t :: r)).bind fun x=>.ok (nd 5 e0 e0 e0 0 x.1,x.2)) (SetE)):=by
 have HP0:=mkA h
 have OK:=mkA h.ok
 have LOW:=mkA h.lo
 have c6:=h.cells.2.2.1
 have CR:=mkA (show ∀ o:Obj,Calls Tryz.prog 49 #[ptr C.gp,.int .i64 12,.func (.func 57) #[] #[],.int .i64 14,.bool true] (w.alloc o) (Got C (w.alloc o) (rev true (pSel f) 12 14 f (t :: r)) (fun ok w' rows sl=>SlA ok w' 20 (fun v r=>SelE ok w' r v) sl rows)) from fun o=>rev_walk (by simp) (sel_item hS) (h.alloc o) true 12 14 (by decide) (by decide) f hf hne)
 clear h hf hS
 cases e_:rev true (pSel f) 12 14 f (t :: r) with
 | out=>exact absurd e_ hne
 | bad =>
   rw [e_] at CR
   simp only [O.bind_bad]
   clear e_ hne
   go_enter Tryz.func30,Tryz.ntmps30
   go_wp2_with (first
    | (go_at_call 49;(with_reducible refine (CR.out _).mono ?_);rintro e w2 ⟨hF,hP,v_,te,x,rfl⟩;have HF:=mkA (((Fr.refl C.gp C.gc w).alloc (.cells #[] 93)).trans hF);have HP:=mkA hP;clear hF hP))
   go_ret2
   exact ⟨HF.out,HP.out,_,te,x,rfl⟩
 | ok a_ =>
   obtain ⟨rows,l1⟩:=a_
   rw [e_] at CR
   simp only [O.bind_ok]
   clear e_ hne
   go_enter Tryz.func30,Tryz.ntmps30
   go_wp2_with (first
    | (go_at_call 49;(with_reducible refine (CR.out _).mono ?_);rintro e w2 ⟨hF,sl,u1,r1,hl_,hP,⟨n,xs,hn,hO,hM⟩,rfl⟩;subst hl_;have HF:=mkA (((Fr.refl C.gp C.gc w).alloc (.cells #[] 93)).trans hF);have HP:=mkA hP;have HO:=mkA hO;have HM:=mkA hM;have HN:=mkA hn;have HV:=mkA (hF.blk (heap_alloc_new w (.cells #[] 93)) (by have:=LOW.out;have:=OK.out.pl;omega) (by have:=LOW.out;have:=OK.out.pl;have:=OK.out.cp;omega));obtain ⟨hxn,hsh⟩:=own_shape hO;have HXN:=mkA hxn;clear hF hP hO hM hn hxn;have hsh2:∃ (A:Option Addr) (cp:Nat),sl=.slice A n cp:=(by rcases hsh with ⟨e1,e2⟩ | ⟨g1,cp,e1,_⟩;exact ⟨none,0,by rw [e1,e2]⟩;exact ⟨_,cp,e1⟩);have HSH:=mkA hsh;clear hsh;obtain ⟨A,cp,rfl⟩:=hsh2))
   go_loopw [5,26] (fun v5 v26 wr=>∃ (j:Nat) (ys:List Value) (ra rb:List Row),v26=.int .i64 j∧Aside0 (j≤n)∧Aside0 (wr.ownsRow w.heap.size 93 1 v5 ys.length ys)∧Aside0 (ys.length=j)∧Aside0 (Many (fun v r=>SelE (okl (w.heap.size+1) v5) wr r v) ys ra)∧Aside0 (Many (fun v r=>SelE (okl (w.heap.size+1) v5) wr r v) (xs.drop j) rb)∧Aside0 (ra++rb=rows)∧Aside0 (Own (okl (w.heap.size+1) v5) wr 20 (.slice A n cp) n xs)∧Aside0 (FrC C w wr)∧Aside0 (PS C wr u1 r1)) (fun _ v26 _=>n - (intOf v26).toNat)
   case atStart =>
    have hst:Keeps (from_ (w.alloc (.cells #[] 93)).heap.size) (okl (w.heap.size+1) (.slice (some ⟨w.heap.size,0,none⟩) 0 0)) w2 w2:=fun g o h1 h2=>⟨⟨by have h3:(w.alloc (.cells #[] 93)).heap.size≤g:=h1;rw [World.size_alloc] at h3;exact h3,fun e=>by have h3:(w.alloc (.cells #[] 93)).heap.size≤g:=h1;rw [World.size_alloc] at h3;simp [Value.ownBlock] at e;omega⟩,h2⟩
    exact ⟨0,[],[],rows,rfl,⟨Nat.zero_le _⟩,⟨rfl,.inr ⟨w.heap.size,0,#[],rfl,Nat.le_refl _,HV.out,Nat.le_refl _,Nat.zero_le _,rfl,rfl⟩⟩,⟨rfl⟩,⟨.nil⟩,⟨by rw [List.drop_zero];exact HM.out.mono (fun v r h=>h.fr hst)⟩,⟨rfl⟩,⟨HO.out.fr hst⟩,HF,HP⟩
   case round =>
    obtain ⟨j,ys,ra,rb,rfl,HJ,HOv,HYL,HMa,HMb,HRR,HOs,HBr,HPr⟩:=hrel
    by_cases hlt:j < n
    ·have HLT:=mkA hlt
     obtain ⟨x,hx⟩:∃ x,xs[j]?=some x:=⟨_,List.getElem?_eq_getElem (by rw [HXN.out];exact hlt)⟩
     have hd:xs.drop j=x :: xs.drop (j+1):=by
      obtain ⟨h1,h2⟩:=List.getElem?_eq_some_iff.1 hx
      rw [List.drop_eq_getElem_cons h1,h2]
     have hmb:=HMb.out
     rw [hd] at hmb
     obtain ⟨a,b,rfl,hq,hmb2⟩:=many_cons hmb
     have HMb2:=mkA hmb2
     clear hd hmb hmb2 HMb
     have hA:∃ g1:Nat,A=some ⟨g1,0,none⟩:=by
      rcases HSH.out with ⟨_,e⟩ | ⟨g1,cp1,e,_⟩
      ·omega
      ·injection e with e1 e2 e3;exact ⟨g1,e1⟩
     obtain ⟨g1,rfl⟩:=hA
     have hrd:=own_read HOs.out hx
     have HX:=mkA hx
     clear hx
     obtain ⟨te,gy,rfl,hte⟩:=hq.shape2
     have hq2:=hq
     have hta:=fun w=>ta_sel hte (ptr gy) w
     clear hte hq
     have HQ:=mkA hq2
     have q0:(j < n)=True:=eq_true hlt
     have hnn:n≤1000000:=HN.out
     have HNW:=mkA (show wrap64 ((j:Int)+1)=((j+1:Nat):Int) from (w64 (by omega) (by omega)).trans (by omega))
     clear hlt hnn hq2
     go_wp2_with (first
      | (at_builtin;refine print_append (w0:=wr) w.heap.size rfl (.tmp 30) (.tmp 33) 89 93 .nilIface 16 rfl Tryz.underlying89 info93' rfl (by decide) u5 ys (.iface te (ptr gy)) rfl rfl rfl HOv.out (Below.refl _ _) HBr.out.size (by have:=HYL.out;have:=HLT.out;have:=HN.out;omega) ?_;intro v6 w6 ho hb hg hat;have HO6:=mkA ho;have HG6:=mkA hg;have HA6:=mkA hat;clear ho hb hg hat))
     go_roundw
     case rel =>
      have hK:=okl_keeps (n:=w.heap.size+1) HG6.out HA6.out
      exact ⟨j+1,ys++[(.iface te (ptr gy))],ra++a,b,congrArg (Value.int .i64) HNW.out,⟨HLT.out⟩,HO6,⟨by rw [List.length_append,HYL.out];rfl⟩,⟨Many.snoc (HMa.out.mono (fun v r h=>h.fr hK)) (by have h:=HQ.out;exact h.fr hK)⟩,⟨HMb2.out.mono (fun v r h=>h.fr hK)⟩,⟨by rw [← HRR.out,List.append_assoc]⟩,⟨HOs.out.fr hK⟩,⟨fr_grown HBr.out HG6.out (fun b hb=>(own_lt HOv.out hb).2)⟩,⟨ps_grown HPr.out HG6.out (fun b hb=>Nat.le_trans LOW.out (own_lt HOv.out hb).2)⟩⟩
     case measure=>exact msr_up2 n j HLT.out HN.out
    ·have q0:(j < n)=False:=eq_false hlt
     have hjn:j=n:=by have:=HJ.out;omega
     have hra:ra=rows:=by
      have h1:=HMb.out
      rw [hjn,← HXN.out,List.drop_length] at h1
      cases h1
      rw [← HRR.out,List.append_nil]
     have HRA:=mkA hra
     have HSL:=mkA (show SlA (from_ w.heap.size) wr 93 (fun v r=>SelE (from_ w.heap.size) wr r v) u5 ra from ⟨ys.length,ys,by have:=HYL.out;have:=HN.out;have:=HJ.out;omega,own_of HOv.out,HMa.out.mono (fun v r h=>(have hK:Keeps (okl (w.heap.size+1) u5) (from_ w.heap.size) wr wr:=(fun g o h1 h2=>⟨Nat.le_trans (Nat.le_succ _) h1.1,h2⟩);h.fr hK))⟩)
     obtain ⟨A8,cp8,h8⟩:∃ (A8:Option Addr) (cp8:Nat),u5=.slice A8 ys.length cp8:=by
      rcases (own_shape (own_of HOv.out)).2 with ⟨e1,e2⟩ | ⟨g8,cp8,e1,_⟩
      ·exact ⟨none,0,by rw [e1,e2]⟩
      ·exact ⟨_,cp8,e1⟩
     subst h8
     clear hlt hjn hra
     go_wp2_with (first
      | (go_at_call 59;(with_reducible refine (loc_ps HPr.out _).mono ?_);rintro e wl ⟨⟨gl,rfl,hgl⟩,hBl⟩;have HL:=mkA hgl;have HBl:=mkA hBl;clear hgl hBl)
      | (go_at_call 58;(with_reducible refine (newSelSet (B:=wl.heap.size) (heap_alloc_new wl _) (Nat.le_refl _) (below_alloc (Below.refl wl.heap.size wl) _).size).mono ?_);rintro e w9 ⟨⟨g9,k9,rfl,q1,h91⟩,q4⟩;have HX:=mkA ((below_alloc (Below.refl wl.heap.size wl) _).trans q4);have HW:=mkA (below_step HBl.out HX.out);have H90:=mkA (Nat.le_trans (Nat.le_trans HBr.out.size HBl.out.size) q1);have H91:=mkA h91;clear q1 q4 h91))
     go_ret2
     have KX:=keeps_below (ok:=from_ wr.heap.size) (ok':=from_ w.heap.size) HX.out (fun g hg=>Nat.le_trans HBr.out.size hg)
     have KW:=keeps_below (ok:=from_ w.heap.size) HW.out (fun g hg=>hg)
     exact ⟨HBr.out.step HW.out,_,u1,r1,rfl,HPr.out.below HW.out,⟨g9,k9,_,_,rows,rfl,⟨H90.out,H91.out⟩,HL.out.fr KX,by rw [← HRA.out];exact HSL.out.fr KW (fun v r h=>h.fr KW),rfl⟩,rfl⟩
theorem set_walk {C:Cx} {f:Nat} (hS:SelSpec C f) (hf:f≤1000000) {w:World} {t:Tk} {r:List Tk} (h:PS C w t r) (hne:pSet (pSel f) f (t :: r)≠.out):Calls Tryz.prog 30 #[ptr C.gp] w (Got C w (pSet (pSel f) f (t :: r)) SetE):=by
 unfold pSet at hne ⊢
 rw [some1_rev] at hne ⊢
 exact set_walk0 hS hf h (bind_ne hne)
end Go.Proofs.YthgcghpcikbnkaaGreatDoor.R
