/- A part of the proof of the theorem of this claim: Pcs, Psk, Exp, Unx, New. No condition of its own. -/
import Derived.Test.YthgcghpcikbnkaaGreatDoorB5
set_option maxHeartbeats 16000000
set_option maxRecDepth 100000
namespace Go.Proofs.YthgcghpcikbnkaaGreatDoor.R
open Go.RowKit Go.Proofs.YthgcghpcikbnkaaGreatDoorW.PrintWords Go.Proofs.YthgcghpcikbnkaaGreatDoorW.PrintLast Go.Proofs.YthgcghpcikbnkaaGreatDoorW.PrintMore
set_option linter.unusedVariables false
set_option linter.unusedSimpArgs false
theorem num_le (s:ByteArray) (p:Nat) (k:Int) (t:Nat) (h:numAt s p=some (k,t)):(k=16∨k=17)∧t≤s.size:=by
 have D:∀ i:Nat,dg s i≠i→dg s i≤s.size:=by
  intro i hi
  have:isD (nx s i)=true:=by
   cases hx:isD (nx s i) with
   | true=>rfl
   | false=>exact absurd (dg_no s i hx) hi
  exact dg_le s i (by have:=nx_in s i (by intro e;rw [e] at this;cases this);omega)
 have E:∀ K p,(K=16∨K=17)→p≤s.size→expo s K p=some (k,t)→(k=16∨k=17)∧t≤s.size:=by
  intro K p hK hp h
  unfold expo at h
  repeat' split at h
  all_goals first
   | (cases h;done)
   | (rename_i hne;simp only [Option.some.injEq,Prod.mk.injEq] at h;obtain ⟨rfl,rfl⟩:=h;first | exact ⟨.inr rfl,D _ hne⟩ | exact ⟨hK,hp⟩)
 have F:∀ p,p≤s.size→frac s p=some (k,t)→(k=16∨k=17)∧t≤s.size:=by
  intro p hp h
  unfold frac at h
  repeat' split at h
  ·cases h
  ·rename_i hne;exact E _ _ (.inr rfl) (D _ hne) h
  ·exact E _ _ (.inl rfl) hp h
 unfold numAt at h
 generalize (if nx s p=45 then p+1 else p)=a at h
 unfold num1 at h
 split at h
 ·cases h
 ·rename_i hne
  exact F _ (D _ (fun e=>hne (.inl e))) h
theorem num_gt (s:ByteArray) (p:Nat) (k:Int) (t:Nat) (h:numAt s p=some (k,t)):p < t:=by
 have E:∀ K p,expo s K p=some (k,t)→p≤t:=by
  intro K p h
  unfold expo at h
  repeat' split at h
  all_goals first
   | (cases h;done)
   | (rename_i hne;simp only [Option.some.injEq,Prod.mk.injEq] at h;obtain ⟨rfl,rfl⟩:=h;first | (have:=dg_ge s (p+2);omega) | (have:=dg_ge s (p+1);omega) | omega)
 have F:∀ p,frac s p=some (k,t)→p≤t:=by
  intro p h
  unfold frac at h
  repeat' split at h
  ·cases h
  ·have:=E _ _ h;have:=dg_ge s (p+1);omega
  ·exact E _ _ h
 unfold numAt at h
 have ha:p≤(if nx s p=45 then p+1 else p):=by split <;> omega
 generalize (if nx s p=45 then p+1 else p)=a at h ha
 unfold num1 at h
 split at h
 ·cases h
 ·rename_i hne
  have:=F _ h
  have h1:dg s a≠a:=fun e=>hne (.inl e)
  have:=dg_ge s a
  omega
theorem ite_ne {p:Prop} [Decidable p] {a b k:Int} (ha:a≠k) (hb:b≠k):(if p then a else b)≠k:=by split <;> assumption
theorem sg_ne1 (c:Int):sg c≠1:=by
 unfold sg
 iterate 13 (refine ite_ne (by decide) ?_)
 decide
theorem dr_end (s:ByteArray) (p:Nat):(dr s p).length=s.size - p:=by
 simp only [dr,List.length_drop,Array.length_toList,ByteArray.size_data]
theorem qt_len {x r e:List UInt8} (h:Qt x r e):e.length < r.length:=by
 induction h with
 | done=>simp
 | plain _ _ ih=>simp only [List.length_cons];omega
 | esc1 _ _ ih=>simp only [List.length_cons];omega
 | escu _ _ ih=>simp only [List.length_cons];omega
theorem bk_len {x r e:List UInt8} (h:Bk x r e):e.length < r.length:=by
 induction h with
 | done=>simp only [List.length_cons];omega
 | byte _ _ _ _ ih=>simp only [List.length_cons];omega
theorem tok_facts {BV:List UInt8→ByteArray→Prop} {s:ByteArray} {q z:Nat} {t:Tk} (h:Tok BV s q t z):t.a=q∧t.z=z∧q < z∧z≤s.size∧q < s.size∧t.k≠1:=by
 cases h with
 | sign h1 h2 h3=>exact ⟨rfl,rfl,by omega,by omega,h1,by rw [← h2];exact sg_ne1 _⟩
 | spread h1=>exact ⟨rfl,rfl,by omega,by omega,by omega,(by decide:(6:Int)≠1)⟩
 | name h1 h2=>exact ⟨rfl,rfl,by have:=nm_ge s (q+1);omega,nm_le s (q+1) (by omega),h1,(by decide:(15:Int)≠1)⟩
 | numb h1 h2 h3 =>
   have:=num_le _ _ _ _ h3
   exact ⟨rfl,rfl,num_gt _ _ _ _ h3,this.2,h1,by rcases this.1 with rfl | rfl;exact (by decide:(16:Int)≠1);exact (by decide:(17:Int)≠1)⟩
 | str h1 h2 h3 h4 h5 =>
   have:=qt_len h4
   rw [dr_end,dr_end] at this
   exact ⟨rfl,rfl,by omega,h5,h1,(by decide:(18:Int)≠1)⟩
 | block h1 h2 h3 h4 =>
   have:=bk_len h3
   rw [dr_end,dr_end] at this
   exact ⟨rfl,rfl,by omega,h4,h1,(by decide:(19:Int)≠1)⟩
theorem lex_head {s:ByteArray} {p:Nat} {t:Tk} {r:List Tk} (h:Lexes BVal s p (t :: r)):(∃ i:Nat,t.a=i∧i≤s.size)∧((t.k=1∧r=[]∧t.v=e0)∨(t.k≠1∧∃ z:Nat,t.z=z∧0 < z∧Lexes BVal s z r)):=by
 cases h with
 | fin h1 h2=>exact ⟨⟨s.size,rfl,Nat.le_refl _⟩,.inl ⟨rfl,rfl,rfl⟩⟩
 | tok h1 h2 h3 h4 =>
   obtain ⟨f1,f2,f3,f4,f5,f6⟩:=tok_facts h3
   exact ⟨⟨_,f1,by omega⟩,.inr ⟨f6,_,f2,by omega,h4⟩⟩
theorem Cx.Ok.two {C:Cx} (h:C.Ok):2≤C.gs:=h.tw
theorem glob_fr {x y:Nat} {w w':World} (h:Glob w) (hf:Fr x y w w') (hx:2≤x) (hy:2≤y):Glob w':=by
 have hk:∀ (a:Addr),a.block < 2→a.block < w.heap.size→w'.cell? a=w.cell? a:=fun a h2 ha=>World.cell?_of_block (hf.block a.block ha (by omega) (by omega))
 refine ⟨fun c hc=>?_,fun i hi=>⟨?_,?_⟩⟩
 ·rw [hk _ (by simp) (World.block_lt_of_cell? w _ (h.1 c hc))];exact h.1 c hc
 ·rw [hk _ (by simp) (World.block_lt_of_cell? w _ (h.2 i hi).1)];exact (h.2 i hi).1
 ·rw [hk _ (by simp) (World.block_lt_of_cell? w _ (h.2 i hi).2)];exact (h.2 i hi).2
theorem Src.frc {C:Cx} {w w':World} (h:Src w C.g C.b C.cap C.s) (ho:C.Ok) (hf:FrC C w w'):Src w' C.g C.b C.cap C.s:=by
 obtain ⟨h1,h2,h3,h4,h5,h6,h7⟩:=ho
 exact h.fr hf (by omega) (by omega) (by omega) (by omega) (fun _=>trivial) (glob_fr h.glob hf (by omega) (by omega))
theorem PS.below {C:Cx} {w w':World} {t:Tk} {r:List Tk} (h:PS C w t r) (hb:Below w.heap.size w w'):PS C w' t r :=
 ⟨h.ok,h.par.imp fun _ x=>blk_below x hb,h.cel.imp fun _ x=>blk_below x hb,blk_below h.sou hb,h.src.below hb,Nat.le_trans h.lo hb.size,h.pla,h.nxt⟩
theorem PS.alloc {C:Cx} {w:World} {t:Tk} {r:List Tk} (h:PS C w t r) (o:Obj):PS C (w.alloc o) t r:=h.below (below_alloc (Below.refl _ _) o)
theorem PS.drewN {C:Cx} {w:World} {t:Tk} {r:List Tk} (h:PS C w t r) (n:Nat):PS C (w.drewN n) t r:=h.below (pw_below_drewN (Below.refl _ _) n)
theorem PS.pb {C:Cx} {w:World} {t:Tk} {r:List Tk} (h:PS C w t r):PB C w:=h.par.imp fun pe hx=>⟨t.k,t.a,t.z,t.v,hx⟩
theorem PB.below {C:Cx} {w w':World} (h:PB C w) (hb:Below w.heap.size w w'):PB C w':=by
 obtain ⟨pe,k,a,z,v,h⟩:=h;exact ⟨pe,k,a,z,v,blk_below h hb⟩
theorem PS.keeps {C:Cx} {w w':World} {m n:Nat} (ho:C.Ok) (hf:FrC C w w') (hm:C.lo≤m) (hn:n≤m):Keeps (from_ m) (from_ n) w w':=hf.keeps (by have:=ho.pl;omega) (by have:=ho.pl;have:=ho.cp;omega) hn
theorem keeps_weak {m n:Nat} {w:World} (h:n≤m):Keeps (from_ m) (from_ n) w w:=fun g o hg hb=>⟨Nat.le_trans h hg,hb⟩
def AdvP (C:Cx) (w:World) (r:List Tk) (e:Ending) (w':World):Prop :=
 FrC C w w'∧match r with
 | []=>PB C w'∧∃ (te:TypeId) (x:Value),e=.returned (.iface te x)
 | u :: r'=>PS C w' u r'∧e=.returned .nilIface
theorem src_low {B g b cap:Nat} {s:ByteArray} {w w':World} (h:Src w g b cap s) (hb:Below B w w') (h1:g < B) (h2:b < B) (h3:2≤B):Src w' g b cap s:=by
 refine ⟨by rw [hb.cell h1];exact h.body,fun j hj=>by rw [hb.cell h2];exact h.bytes j hj,h.cap,h.small,fun c hc=>?_,fun i hi=>⟨?_,?_⟩⟩
 ·rw [hb.cell (show (⟨0,c,none⟩:Addr).block < B from (by show 0 < B;omega))];exact h.glob.1 c hc
 ·rw [hb.cell (show (⟨1,_,none⟩:Addr).block < B from (by show 1 < B;omega))];exact (h.glob.2 i hi).1
 ·rw [hb.cell (show (⟨1,_,none⟩:Addr).block < B from (by show 1 < B;omega))];exact (h.glob.2 i hi).2
theorem frc_of {C:Cx} {w w':World} {B:Nat} (hb:Below B w w') (hk:Kp w w' C.gp C.gc):FrC C w w':=⟨hb.os,hb.tape,hb.output,hb.size,fun k h1 h2 h3=>hk.2 k h1 h2 h3⟩
theorem advance_walk {C:Cx} {w:World} {t:Tk} {r:List Tk} (h:PS C w t r) (ht:t.k≠1):Calls Tryz.prog 100 #[ptr C.gp] w (AdvP C w r):=by
 obtain ⟨pe,h1⟩:=h.par
 obtain ⟨pv,h2⟩:=h.cel
 obtain ⟨z,hz,hz0,hL⟩:∃ z:Nat,t.z=z∧0 < z∧Lexes BVal C.s z r:=by
  rcases h.nxt with ⟨e,_⟩ | ⟨_,h⟩
  ·exact absurd e ht
  ·exact h
 have ok:=h.ok
 obtain ⟨o1,o2,o3,o4,o5,o6,o7⟩:=ok
 have hy:(t.z == 0)=false:=by rw [beq_eq_false_iff_ne,hz];omega
 have hP:Psr w C.gs C.gp C.gc C.gs C.g pe pv t.k t.a t.z t.v:=⟨⟨h1,h2,h.sou⟩,⟨by omega,by omega,Nat.le_refl _⟩,by omega,by omega,by omega⟩
 have hB:C.gs≤w.heap.size:=by have:=h.lo;omega
 have hR:∀ W,Below C.gs w W→Calls Tryz.prog 99 #[ptr C.g,.int .i64 t.z] W (RdP W r):=fun W hW=>by
  rw [hz];exact o7 z r hL W (src_low h.src hW o2 o1 o6)
 cases r with
 | nil =>
   refine (adv_err hP hB hy (fun W hW=>(hR W hW).mono fun e w' q=>q)).mono ?_
   rintro e w' ⟨⟨te,x,rfl⟩,q1,q2,q3⟩
   exact ⟨frc_of q2 q3,⟨_,_,_,_,_,q1⟩,te,x,rfl⟩
 | cons u r =>
   refine (adv_ok hP hB hy (fun W hW=>(hR W hW).mono fun e w' q=>q)).mono ?_
   rintro e w' ⟨rfl,q1,q2,q3⟩
   have hf:=frc_of q2 q3
   obtain ⟨l1,l2⟩:=lex_head hL
   exact ⟨hf,⟨h.ok,⟨_,q1.1.1⟩,⟨_,q1.1.2.1⟩,q1.1.2.2,h.src.frc h.ok hf,Nat.le_trans h.lo hf.size,l1,l2⟩,rfl⟩
theorem PS.cells {C:Cx} {w:World} {t:Tk} {r:List Tk} (h:PS C w t r) :
 w.cell? ⟨C.gp,1,none⟩=some (ptr C.g)∧w.cell? ⟨C.gp,5,none⟩=some (.int .i64 t.k)∧w.cell? ⟨C.gp,6,none⟩=some (.int .i64 t.a)∧w.cell? ⟨C.gp,7,none⟩=some (.int .i64 t.z)∧w.cell? ⟨C.gp,8,none⟩=some (.string t.v):=by
 obtain ⟨pe,hp⟩:=h.par
 exact ⟨(blk_cell hp 1).trans rfl,(blk_cell hp 5).trans rfl,(blk_cell hp 6).trans rfl,(blk_cell hp 7).trans rfl,(blk_cell hp 8).trans rfl⟩
theorem peek_walk {C:Cx} {w:World} {t:Tk} {r:List Tk} (h:PS C w t r) (k:Int):Calls Tryz.prog 48 #[ptr C.gp,.int .i64 k] w fun e w'=>e=.returned (.bool (t.k == k))∧w=w':=by
 have c5:=h.cells.2.1
 clear h
 go_enter Tryz.func48,Tryz.ntmps48
 go_wp2
 go_ret
 exact ⟨rfl,rfl⟩
theorem skip_no {C:Cx} {w:World} {t:Tk} {r:List Tk} (h:PS C w t r) (k:Int) (hk:(t.k == k)=false):Calls Tryz.prog 80 #[ptr C.gp,.int .i64 k] w fun e w'=>e=.returned (.tuple #[.bool false,.nilIface])∧w=w':=by
 have c5:=h.cells.2.1
 clear h
 go_enter Tryz.func80,Tryz.ntmps80
 go_wp2
 go_ret2
 exact ⟨rfl,rfl⟩
def AdvB (C:Cx) (w:World) (v:Value) (r:List Tk) (e:Ending) (w':World):Prop :=
 FrC C w w'∧match r with
 | []=>PB C w'∧∃ (te:TypeId) (x:Value),e=.returned (.tuple #[v,.iface te x])
 | u :: r'=>PS C w' u r'∧e=.returned (.tuple #[v,.nilIface])
theorem skip_yes {C:Cx} {w:World} {t:Tk} {r:List Tk} (h:PS C w t r) (k:Int) (hk:(t.k == k)=true) (h1:t.k≠1):Calls Tryz.prog 80 #[ptr C.gp,.int .i64 k] w (AdvB C w (.bool true) r):=by
 have c5:=h.cells.2.1
 have CA:=mkA (advance_walk h h1)
 clear h h1
 cases r with
 | nil =>
   go_enter Tryz.func80,Tryz.ntmps80
   go_wp2_with (first
    | (go_at_call 100;(with_reducible refine CA.out.mono ?_);rintro e w1 ⟨hF,hP,te,x,rfl⟩;have HF:=mkA hF;have HP:=mkA hP;clear hF hP))
   go_ret2
   exact ⟨HF.out,HP.out,te,x,rfl⟩
 | cons u r =>
   go_enter Tryz.func80,Tryz.ntmps80
   go_wp2_with (first
    | (go_at_call 100;(with_reducible refine CA.out.mono ?_);rintro e w1 ⟨hF,hP,rfl⟩;have HF:=mkA hF;have HP:=mkA hP;clear hF hP))
   go_ret2
   exact ⟨HF.out,HP.out,rfl⟩
set_option maxHeartbeats 1000000 in
theorem uempty_walk {C:Cx} {w:World} {t:Tk} {r:List Tk} (h:PS C w t r) (i:Nat) (hi:i≤C.s.size) (k1 k2:Int):Calls Tryz.prog 81 #[ptr C.gp,.int .i64 i,.int .i64 k1,.int .i64 k2] w fun e w'=>(∃ (te:TypeId) (x:Value),e=.returned (.iface te x))∧Below w.heap.size w w':=by
 have c1:=h.cells.1
 have CE:=mkA (fun m=>synErr_walk h.src i hi m)
 clear h hi
 go_enter Tryz.func81,Tryz.ntmps81
 go_wp2_with (first
  | (go_at_call 101;(with_reducible refine (CE.out _).mono ?_);rintro e w1 ⟨⟨gq,rfl⟩,hB⟩;have HB:=mkA hB;clear hB))
 go_ret
 exact ⟨⟨_,_,rfl⟩,HB.out⟩
theorem PS.put {C:Cx} {w:World} {t:Tk} {r:List Tk} (h:PS C w t r) {p:Addr} (hp:C.lo≤p.block) (u:Value):PS C (w.setCell p u) t r:=by
 obtain ⟨pe,h1⟩:=h.par
 obtain ⟨pv,h2⟩:=h.cel
 have ok:=h.ok
 obtain ⟨o1,o2,o3,o4,o5,o6,o7⟩:=ok
 refine ⟨h.ok,⟨pe,blk_far h1 (by omega) u⟩,⟨pv,blk_far h2 (by omega) u⟩,blk_far h.sou (by omega) u,?_,by rw [gsz];exact h.lo,h.pla,h.nxt⟩
 exact src_low h.src ((Below.refl C.lo w).setCell hp u) (by omega) (by omega) (by omega)
theorem PB.put {C:Cx} {w:World} (h:PB C w) {g:Nat} (hg:g≠C.gp) (j:Nat) (u:Value):PB C (w.setCell ⟨g,j,none⟩ u):=by
 obtain ⟨pe,k,a,z,v,h⟩:=h;exact ⟨pe,k,a,z,v,blk_far h (Ne.symm hg) u⟩
theorem PS.p4 {C:Cx} {w:World} {t:Tk} {r:List Tk} {g:Nat} {a b c d:Value} (h:PS C w t r) (hp:C.lo≤g):PS C ((((w.setCell ⟨g,0,none⟩ a).setCell ⟨g,1,none⟩ b).setCell ⟨g,2,none⟩ c).setCell ⟨g,3,none⟩ d) t r :=
 (((h.put (p:=⟨g,_,none⟩) hp _).put (p:=⟨g,_,none⟩) hp _).put (p:=⟨g,_,none⟩) hp _).put (p:=⟨g,_,none⟩) hp _
theorem PB.p4 {C:Cx} {w:World} {g:Nat} {a b c d:Value} (h:PB C w) (hg:g≠C.gp):PB C ((((w.setCell ⟨g,0,none⟩ a).setCell ⟨g,1,none⟩ b).setCell ⟨g,2,none⟩ c).setCell ⟨g,3,none⟩ d) :=
 (((h.put hg _ _).put hg _ _).put hg _ _).put hg _ _
theorem tkb {C:Cx} {w w1 w2:World} {gt:Nat} {t:Tk} {r:List Tk} (ok:C.Ok) (hB:FrC C w w1) (hP:PS C w1 t r) (hg:gt=w1.heap.size) (hbox:w2.heap[gt]?=some (.cells #[.int .i64 0,.int .i64 0,.int .i64 0,.string ⟨#[]⟩] 63 (0,0))) (hb:Below w1.heap.size w1 w2):Aside0 (FrC C w w2)∧Aside0 (w.heap.size≤gt)∧Aside0 (C.lo≤gt)∧Aside0 (PS C w2 t r)∧Aside0 (w2.heap[gt]?=some (.cells #[.int .i64 0,.int .i64 0,.int .i64 0,.string ⟨#[]⟩] 63 (0,0)))∧Aside0 (gt≠C.gp∧gt≠C.gc)∧w2.cell? ⟨gt,0,none⟩=some (.int .i64 0)∧w2.cell? ⟨gt,1,none⟩=some (.int .i64 0)∧w2.cell? ⟨gt,2,none⟩=some (.int .i64 0)∧w2.cell? ⟨gt,3,none⟩=some (.string ⟨#[]⟩)∧w2.frozen? ⟨gt,0,none⟩=false∧w2.frozen? ⟨gt,1,none⟩=false∧w2.frozen? ⟨gt,2,none⟩=false∧w2.frozen? ⟨gt,3,none⟩=false :=
 ⟨mkA (hB.step hb),mkA (by rw [hg];exact hB.size),mkA (by rw [hg];exact hP.lo),mkA (hP.below hb),mkA hbox,mkA (by have:=ok.pl;have:=ok.cp;have:=hP.lo;omega),tkz hbox⟩
theorem tk3 {C:Cx} {w w2:World} {gt:Nat} {t:Tk} {r:List Tk} (h1:FrC C w w2) (h2:w.heap.size≤gt) (h3:w2.heap[gt]?=some (.cells #[.int .i64 0,.int .i64 0,.int .i64 0,.string ⟨#[]⟩] 63 (0,0))) (h4:PS C w2 t r) (h5:C.lo≤gt):∃ w3,w3=(((w2.setCell ⟨gt,0,none⟩ (.int .i64 t.k)).setCell ⟨gt,1,none⟩ (.int .i64 t.a)).setCell ⟨gt,2,none⟩ (.int .i64 t.z)).setCell ⟨gt,3,none⟩ (.string t.v)∧Aside0 (FrC C w w3)∧Aside0 (w3.heap[gt]?=some (.cells #[.int .i64 t.k,.int .i64 t.a,.int .i64 t.z,.string t.v] 63 (0,0)))∧Aside0 (PS C w3 t r)∧w3.cell? ⟨gt,0,none⟩=some (.int .i64 t.k)∧w3.cell? ⟨gt,1,none⟩=some (.int .i64 t.a)∧w3.cell? ⟨gt,2,none⟩=some (.int .i64 t.z)∧w3.cell? ⟨gt,3,none⟩=some (.string t.v) :=
 ⟨_,rfl,mkA (h1.p4 (.inr (.inr h2))),mkA (tkp h3),mkA (h4.p4 h5),tks (tkp h3)⟩
theorem PS.put4 {C:Cx} {w w4:World} {t:Tk} {r:List Tk} (h:PS C w t r) {g:Nat} (hp:C.lo≤g) {a b c d:Value} (hw:w4=(((w.setCell ⟨g,0,none⟩ a).setCell ⟨g,1,none⟩ b).setCell ⟨g,2,none⟩ c).setCell ⟨g,3,none⟩ d):PS C w4 t r:=by
 rw [hw]
 exact (((h.put (p:=⟨g,0,none⟩) hp a).put (p:=⟨g,1,none⟩) hp b).put (p:=⟨g,2,none⟩) hp c).put (p:=⟨g,3,none⟩) hp d
abbrev tokV (t:Tk):Value:=.agg #[.int .i64 t.k,.int .i64 t.a,.int .i64 t.z,.string t.v]
set_option maxHeartbeats 4000000 in
set_option maxRecDepth 100000 in
theorem expect_yes {C:Cx} {w:World} {t:Tk} {r:List Tk} (h:PS C w t r) (k:Int) (hk:(t.k == k)=true) (h1:t.k≠1):Calls Tryz.prog 79 #[ptr C.gp,.int .i64 k] w (AdvB C w (tokV t) r):=by
 have HP:=mkA h
 have H1:=mkA h1
 clear h h1
 go_enter Tryz.func79,Tryz.ntmps79
 go_upto_region 3 with (first
  | ((with_reducible refine gate_dst (N:=4) rfl ?_);refine bxz ?hr ?_;(case hr=>first | (go_simp;done) | (go_simp;rfl));intro gb hg w2 hbox hb;have HB:=mkA (Fr.of (x:=C.gp) (y:=C.gc) hb);have GE:=mkA (Nat.le_of_eq hg.symm);have BK:=mkA hbox;have GB2:=mkA (show C.lo≤gb by rw [hg];exact HP.out.lo);replace HP:=mkA (HP.out.below hb);clear hb hbox hg;obtain ⟨-,d5,d6,d7,d8⟩:=HP.out.cells)
  | ((with_reducible refine gate_dst (N:=6) rfl ?_);refine bxz ?hr ?_;(case hr=>first | (go_simp;done) | (go_simp;rfl));intro gt hg w3 hbox hb;have n0_:=mkA (HB.out.step hb);have GT:=mkA ((by rw [hg];exact HB.out.size:w.heap.size≤gt));have GT2:=mkA (show C.lo≤gt by rw [hg];exact HP.out.lo);have NE:=mkA ((by rw [hg];exact Nat.ne_of_lt (blk_lt BK.out)):gb≠gt);have n1_:=mkA (blk_below BK.out hb);have n2_:=mkA (HP.out.below hb);clear HB BK HP;have HB:=n0_;have BK:=n1_;have HP:=n2_;have BT:=mkA hbox;clear n0_ n1_ n2_ hb hbox hg d5 d6 d7 d8;have hne1:=NE.out;have hne2:gt≠gb:=fun e=>NE.out e.symm;obtain ⟨tz0,tz1,tz2,tz3,tf0,tf1,tf2,tf3⟩:=tkz BT.out;obtain ⟨bz0,bz1,bz2,bz3,bf0,bf1,bf2,bf3⟩:=tkz BK.out))
 obtain ⟨w4,hw4⟩:∃ w4,w4=(((w3.setCell ⟨gt,0,none⟩ (.int .i64 t.k)).setCell ⟨gt,1,none⟩ (.int .i64 t.a)).setCell ⟨gt,2,none⟩ (.int .i64 t.z)).setCell ⟨gt,3,none⟩ (.string t.v):=⟨_,rfl⟩
 have n0_:=mkA ((((HB.out.put (p:=⟨gt,0,none⟩) (.inr (.inr GT.out)) (.int .i64 t.k)).put (p:=⟨gt,1,none⟩) (.inr (.inr GT.out)) (.int .i64 t.a)).put (p:=⟨gt,2,none⟩) (.inr (.inr GT.out)) (.int .i64 t.z)).put (p:=⟨gt,3,none⟩) (.inr (.inr GT.out)) (.string t.v))
 have n1_:=mkA (show (((( w3.setCell ⟨gt,0,none⟩ (.int .i64 t.k)).setCell ⟨gt,1,none⟩ (.int .i64 t.a)).setCell ⟨gt,2,none⟩ (.int .i64 t.z)).setCell ⟨gt,3,none⟩ (.string t.v)).heap[gt]?=some (.cells #[.int .i64 t.k,.int .i64 t.a,.int .i64 t.z,.string t.v] 63 (0,0)) by exact tkp BT.out)
 have n2_:=mkA (show (((( w3.setCell ⟨gt,0,none⟩ (.int .i64 t.k)).setCell ⟨gt,1,none⟩ (.int .i64 t.a)).setCell ⟨gt,2,none⟩ (.int .i64 t.z)).setCell ⟨gt,3,none⟩ (.string t.v)).heap[gb]?=some (.cells #[.int .i64 0,.int .i64 0,.int .i64 0,.string ⟨#[]⟩] 63 (0,0)) by refine blk_far ?_ NE.out _;refine blk_far ?_ NE.out _;refine blk_far ?_ NE.out _;refine blk_far ?_ NE.out _;exact BK.out)
 rw [← hw4] at n0_ n1_ n2_ ⊢
 have n3_:=mkA (PS.put4 HP.out GT2.out hw4)
 clear HB BT BK HP hw4 tz0 tz1 tz2 tz3 tf0 tf1 tf2 tf3 bz0 bz1 bz2 bz3 bf0 bf1 bf2 bf3
 have HB:=n0_;have BT:=n1_;have BK:=n2_;have HP:=n3_
 clear n0_ n1_ n2_ n3_
 have NP:=mkA (show gt≠C.gp∧gt≠C.gc∧gb≠C.gp∧gb≠C.gc from by have:=HP.out.ok.cp;have:=HP.out.ok.pl;have:=GT2.out;have:=GB2.out;omega)
 have BT':=BT.out
 obtain ⟨x0,x1,x2,x3⟩:=tks BT.out
 clear BT'
 have CA:=mkA (fun (W:World) (hW:Below w4.heap.size w4 W)=>(show Calls Tryz.prog 100 #[ptr C.gp] W (AdvP C w4 r) from (advance_walk (HP.out.below hW) H1.out).mono fun e w' q=>⟨(Fr.of hW).trans q.1,q.2⟩))
 cases r with
 | nil =>
   go_region_with (first | (go_at_call 100;refine (CA.out _ ?_).mono ?_;(first | exact below_drew1 (Below.refl _ _) | exact Below.refl _ _);rintro e w5 ⟨hF,hQ,te,x,rfl⟩;have HF:=mkA hF;have HQ:=mkA hQ;have BK5:=mkA (hF.blk BK.out NP.out.2.2.1 NP.out.2.2.2);have BT5:=mkA (hF.blk BT.out NP.out.1 NP.out.2.1);clear hF hQ;obtain ⟨bz0,bz1,bz2,bz3,bf0,bf1,bf2,bf3⟩:=tkz BK5.out;obtain ⟨y0,y1,y2,y3⟩:=tks BT5.out))
   all_goals (try go_wp2)
   all_goals
    refine bodyPost_ret (results_ct rfl _ _ gb 63 #[.int .i64 t.k,.int .i64 t.a,.int .i64 t.z,.string t.v] (0,0) _ rfl (by exact tkp BK5.out) Tryz.underlying63 rfl (by kernel_rfl)) rfl ?_
    exact ⟨((((HB.out.trans HF.out).put (p:=⟨gb,_,none⟩) (.inr (.inr GE.out)) _).put (p:=⟨gb,_,none⟩) (.inr (.inr GE.out)) _).put (p:=⟨gb,_,none⟩) (.inr (.inr GE.out)) _).put (p:=⟨gb,_,none⟩) (.inr (.inr GE.out)) _,(((HQ.out.put NP.out.2.2.1 _ _).put NP.out.2.2.1 _ _).put NP.out.2.2.1 _ _).put NP.out.2.2.1 _ _,te,x,rfl⟩
 | cons u r =>
   go_region_with (first | (go_at_call 100;refine (CA.out _ ?_).mono ?_;(first | exact below_drew1 (Below.refl _ _) | exact Below.refl _ _);rintro e w5 ⟨hF,hQ,rfl⟩;have HF:=mkA hF;have HQ:=mkA hQ;have BK5:=mkA (hF.blk BK.out NP.out.2.2.1 NP.out.2.2.2);have BT5:=mkA (hF.blk BT.out NP.out.1 NP.out.2.1);clear hF hQ;obtain ⟨bz0,bz1,bz2,bz3,bf0,bf1,bf2,bf3⟩:=tkz BK5.out;obtain ⟨y0,y1,y2,y3⟩:=tks BT5.out))
   all_goals (try go_wp2)
   all_goals
    refine bodyPost_ret (results_ct rfl _ _ gb 63 #[.int .i64 t.k,.int .i64 t.a,.int .i64 t.z,.string t.v] (0,0) _ rfl (by exact tkp BK5.out) Tryz.underlying63 rfl (by kernel_rfl)) rfl ?_
    exact ⟨((((HB.out.trans HF.out).put (p:=⟨gb,_,none⟩) (.inr (.inr GE.out)) _).put (p:=⟨gb,_,none⟩) (.inr (.inr GE.out)) _).put (p:=⟨gb,_,none⟩) (.inr (.inr GE.out)) _).put (p:=⟨gb,_,none⟩) (.inr (.inr GE.out)) _,(((HQ.out.put (p:=⟨gb,_,none⟩) GB2.out _).put (p:=⟨gb,_,none⟩) GB2.out _).put (p:=⟨gb,_,none⟩) GB2.out _).put (p:=⟨gb,_,none⟩) GB2.out _,rfl⟩
set_option maxHeartbeats 4000000 in
set_option maxRecDepth 100000 in
theorem expect_no {C:Cx} {w:World} {t:Tk} {r:List Tk} (h:PS C w t r) (k:Int) (hk:(t.k == k)=false):Calls Tryz.prog 79 #[ptr C.gp,.int .i64 k] w fun e w'=>FrC C w w'∧PB C w'∧∃ (te:TypeId) (x:Value),e=.returned (.tuple #[tokV t,.iface te x]):=by
 have HP:=mkA h
 clear h
 go_enter Tryz.func79,Tryz.ntmps79
 go_upto_region 5 with (first
  | ((with_reducible refine gate_dst (N:=4) rfl ?_);refine bxz ?hr ?_;(case hr=>first | (go_simp;done) | (go_simp;rfl));intro gb hg w2 hbox hb;have HB:=mkA (Fr.of (x:=C.gp) (y:=C.gc) hb);have GE:=mkA (Nat.le_of_eq hg.symm);have BK:=mkA hbox;have GB2:=mkA (show C.lo≤gb by rw [hg];exact HP.out.lo);replace HP:=mkA (HP.out.below hb);clear hb hbox hg;obtain ⟨-,d5,d6,d7,d8⟩:=HP.out.cells)
  | ((with_reducible refine gate_dst (N:=6) rfl ?_);refine bxz ?hr ?_;(case hr=>first | (go_simp;done) | (go_simp;rfl));intro gt hg w3 hbox hb;have n0_:=mkA (HB.out.step hb);have GT:=mkA ((by rw [hg];exact HB.out.size:w.heap.size≤gt));have GT2:=mkA (show C.lo≤gt by rw [hg];exact HP.out.lo);have NE:=mkA ((by rw [hg];exact Nat.ne_of_lt (blk_lt BK.out)):gb≠gt);have n1_:=mkA (blk_below BK.out hb);have n2_:=mkA (HP.out.below hb);clear HB BK HP;have HB:=n0_;have BK:=n1_;have HP:=n2_;have BT:=mkA hbox;clear n0_ n1_ n2_ hb hbox hg d5 d6 d7 d8;have hne1:=NE.out;have hne2:gt≠gb:=fun e=>NE.out e.symm;obtain ⟨tz0,tz1,tz2,tz3,tf0,tf1,tf2,tf3⟩:=tkz BT.out;obtain ⟨bz0,bz1,bz2,bz3,bf0,bf1,bf2,bf3⟩:=tkz BK.out))
 obtain ⟨w4,hw4⟩:∃ w4,w4=(((w3.setCell ⟨gt,0,none⟩ (.int .i64 t.k)).setCell ⟨gt,1,none⟩ (.int .i64 t.a)).setCell ⟨gt,2,none⟩ (.int .i64 t.z)).setCell ⟨gt,3,none⟩ (.string t.v):=⟨_,rfl⟩
 have n0_:=mkA ((((HB.out.put (p:=⟨gt,0,none⟩) (.inr (.inr GT.out)) (.int .i64 t.k)).put (p:=⟨gt,1,none⟩) (.inr (.inr GT.out)) (.int .i64 t.a)).put (p:=⟨gt,2,none⟩) (.inr (.inr GT.out)) (.int .i64 t.z)).put (p:=⟨gt,3,none⟩) (.inr (.inr GT.out)) (.string t.v))
 have n1_:=mkA (show (((( w3.setCell ⟨gt,0,none⟩ (.int .i64 t.k)).setCell ⟨gt,1,none⟩ (.int .i64 t.a)).setCell ⟨gt,2,none⟩ (.int .i64 t.z)).setCell ⟨gt,3,none⟩ (.string t.v)).heap[gt]?=some (.cells #[.int .i64 t.k,.int .i64 t.a,.int .i64 t.z,.string t.v] 63 (0,0)) by exact tkp BT.out)
 have n2_:=mkA (show (((( w3.setCell ⟨gt,0,none⟩ (.int .i64 t.k)).setCell ⟨gt,1,none⟩ (.int .i64 t.a)).setCell ⟨gt,2,none⟩ (.int .i64 t.z)).setCell ⟨gt,3,none⟩ (.string t.v)).heap[gb]?=some (.cells #[.int .i64 0,.int .i64 0,.int .i64 0,.string ⟨#[]⟩] 63 (0,0)) by refine blk_far ?_ NE.out _;refine blk_far ?_ NE.out _;refine blk_far ?_ NE.out _;refine blk_far ?_ NE.out _;exact BK.out)
 rw [← hw4] at n0_ n1_ n2_ ⊢
 have n3_:=mkA (PS.put4 HP.out GT2.out hw4)
 clear HB BT BK HP hw4 tz0 tz1 tz2 tz3 tf0 tf1 tf2 tf3 bz0 bz1 bz2 bz3 bf0 bf1 bf2 bf3
 have HB:=n0_;have BT:=n1_;have BK:=n2_;have HP:=n3_
 clear n0_ n1_ n2_ n3_
 have NP:=mkA (show gt≠C.gp∧gt≠C.gc∧gb≠C.gp∧gb≠C.gc from by have:=HP.out.ok.cp;have:=HP.out.ok.pl;have:=GT2.out;have:=GB2.out;omega)
 have BT':=BT.out
 obtain ⟨x0,x1,x2,x3⟩:=tks BT.out
 clear BT'
 obtain ⟨i,hi,hi2⟩:=HP.out.pla
 have c1:=HP.out.cells.1
 have CE:=mkA (fun (W:World) (hW:Below w4.heap.size w4 W) (m:ByteArray)=>(show Calls Tryz.prog 101 #[ptr C.g,.int .i64 t.a,.string m] W fun e w'=>(∃ gq:Nat,e=.returned (ptr gq))∧Below w4.heap.size w4 w' from by rw [hi];exact (synErr_walk (HP.out.below hW).src i hi2 m).mono fun e w' q=>⟨q.1,below_step hW q.2⟩))
 clear hi hi2
 go_region_with (first | (go_at_call 101;refine (CE.out _ ?_ _).mono ?_;(first | exact below_drew1 (Below.refl _ _) | exact Below.refl _ _);rintro e w5 ⟨⟨gq,rfl⟩,hB⟩;have HF:=mkA hB;have BK5:=mkA (blk_below BK.out hB);have BT5:=mkA (blk_below BT.out hB);clear hB;obtain ⟨bz0,bz1,bz2,bz3,bf0,bf1,bf2,bf3⟩:=tkz BK5.out;obtain ⟨y0,y1,y2,y3⟩:=tks BT5.out))
 all_goals (try go_wp2)
 all_goals
  refine bodyPost_ret (results_ct rfl _ _ gb 63 #[.int .i64 t.k,.int .i64 t.a,.int .i64 t.z,.string t.v] (0,0) _ rfl (by exact tkp BK5.out) Tryz.underlying63 rfl (by kernel_rfl)) rfl ?_
  exact ⟨((((HB.out.step HF.out).put (p:=⟨gb,_,none⟩) (.inr (.inr GE.out)) _).put (p:=⟨gb,_,none⟩) (.inr (.inr GE.out)) _).put (p:=⟨gb,_,none⟩) (.inr (.inr GE.out)) _).put (p:=⟨gb,_,none⟩) (.inr (.inr GE.out)) _,((((HP.out.below HF.out).pb.put NP.out.2.2.1 _ _).put NP.out.2.2.1 _ _).put NP.out.2.2.1 _ _).put NP.out.2.2.1 _ _,_,_,rfl⟩
set_option maxHeartbeats 4000000 in
set_option maxRecDepth 100000 in
theorem unexp_walk {C:Cx} {w:World} {t:Tk} {r:List Tk} (h:PS C w t r):Calls Tryz.prog 114 #[ptr C.gp,.agg #[.int .i64 0,.int .i64 0,.int .i64 0,.string ⟨#[]⟩]] w fun e w'=>(∃ (te:TypeId) (x:Value),e=.returned (.iface te x))∧Below w.heap.size w w':=by
 have HP0:=mkA h
 have HP:=mkA h
 clear h
 go_enter Tryz.func114,Tryz.ntmps114
 go_upto_region 5 with (first
  | ((with_reducible refine gate_dst (N:=3) rfl ?_);refine bxz ?hr ?_;(case hr=>first | (go_simp;done) | (go_simp;rfl));intro ga hg w2 hbox hb;have HB:=mkA hb;replace HP:=mkA (HP.out.below hb);have BA:=mkA hbox;have GA:=mkA (show C.lo≤ga by rw [hg];exact HP0.out.lo);clear hb hbox hg;obtain ⟨az0,az1,az2,az3,af0,af1,af2,af3⟩:=tkz BA.out)
  | ((with_reducible refine gate_dst (N:=5) rfl ?_);refine bxz ?hr ?_;(case hr=>first | (go_simp;done) | (go_simp;rfl));intro gt hg w3 hbox hb;have n0_:=mkA (below_step HB.out hb);have GT:=mkA ((by rw [hg];exact below_size HB.out:w.heap.size≤gt));have GT2:=mkA (show C.lo≤gt by rw [hg];exact HP.out.lo);have NE:=mkA ((by rw [hg];exact Nat.ne_of_lt (blk_lt BA.out)):ga≠gt);have n1_:=mkA (blk_below BA.out hb);have n2_:=mkA (HP.out.below hb);clear HB BA HP az0 az1 az2 az3;have HB:=n0_;have BA:=n1_;have HP:=n2_;have BT:=mkA hbox;clear n0_ n1_ n2_ hb hbox hg;have hne1:=NE.out;have hne2:gt≠ga:=fun e=>NE.out e.symm;have hne3:=(show gt≠C.gp from by have:=HP.out.ok.pl;have:=GT2.out;omega);have hne4:C.gp≠gt:=fun e=>hne3 e.symm;obtain ⟨d1,d5,d6,d7,d8⟩:=HP.out.cells;obtain ⟨tz0,tz1,tz2,tz3,tf0,tf1,tf2,tf3⟩:=tkz BT.out;obtain ⟨az0,az1,az2,az3,af0,af1,af2,af3⟩:=tkz BA.out))
 obtain ⟨w4,hw4⟩:∃ w4,w4=((((((((w3).setCell ⟨gt,0,none⟩ (.int .i64 0)).setCell ⟨gt,1,none⟩ (.int .i64 0)).setCell ⟨gt,2,none⟩ (.int .i64 0)).setCell ⟨gt,3,none⟩ (.string ⟨#[]⟩)).setCell ⟨gt,0,none⟩ (.int .i64 t.k)).setCell ⟨gt,1,none⟩ (.int .i64 t.a)).setCell ⟨gt,2,none⟩ (.int .i64 t.z)).setCell ⟨gt,3,none⟩ (.string t.v):=⟨_,rfl⟩
 have n3_:=mkA (show PS C w4 t r by rw [hw4];exact ((((((((HP.out).put (p:=⟨gt,0,none⟩) GT2.out _).put (p:=⟨gt,1,none⟩) GT2.out _).put (p:=⟨gt,2,none⟩) GT2.out _).put (p:=⟨gt,3,none⟩) GT2.out _).put (p:=⟨gt,0,none⟩) GT2.out _).put (p:=⟨gt,1,none⟩) GT2.out _).put (p:=⟨gt,2,none⟩) GT2.out _).put (p:=⟨gt,3,none⟩) GT2.out _)
 have n0_:=mkA (show Below w.heap.size w w4 by rw [hw4];exact below_set (below_set (below_set (below_set (below_set (below_set (below_set (below_set (HB.out) GT.out) GT.out) GT.out) GT.out) GT.out) GT.out) GT.out) GT.out)
 have x1:w4.cell? ⟨gt,1,none⟩=some (.int .i64 t.a):=(blk_cell (show w4.heap[gt]?=some (.cells #[.int .i64 t.k,.int .i64 t.a,.int .i64 t.z,.string t.v] 63 (0,0)) by rw [hw4];refine blk_put (cs:=#[.int .i64 t.k,.int .i64 t.a,.int .i64 t.z,.string ⟨#[]⟩]) ?_ 3 _ rfl;refine blk_put (cs:=#[.int .i64 t.k,.int .i64 t.a,.int .i64 0,.string ⟨#[]⟩]) ?_ 2 _ rfl;refine blk_put (cs:=#[.int .i64 t.k,.int .i64 0,.int .i64 0,.string ⟨#[]⟩]) ?_ 1 _ rfl;refine blk_put (cs:=#[.int .i64 0,.int .i64 0,.int .i64 0,.string ⟨#[]⟩]) ?_ 0 _ rfl;exact tkp BT.out) 1).trans rfl
 rw [← hw4]
 clear HB HP hw4 tz0 tz1 tz2 tz3 tf0 tf1 tf2 tf3 az0 az1 az2 az3 d1 d5 d6 d7 d8
 have HB:=n0_;have HP:=n3_
 clear n0_ n3_
 obtain ⟨i,hi,hi2⟩:=HP.out.pla
 have c1:=HP.out.cells.1
 have CE:=mkA (fun (W:World) (hW:Below w4.heap.size w4 W) (m:ByteArray)=>(show Calls Tryz.prog 101 #[ptr C.g,.int .i64 t.a,.string m] W fun e w'=>(∃ gq:Nat,e=.returned (ptr gq))∧Below w4.heap.size w4 w' from by rw [hi];exact (synErr_walk (HP.out.below hW).src i hi2 m).mono fun e w' q=>⟨q.1,below_step hW q.2⟩))
 clear hi hi2
 go_region_with (first | (go_at_call 101;refine (CE.out _ ?_ _).mono ?_;(first | exact below_drew1 (Below.refl _ _) | exact Below.refl _ _);rintro e w5 ⟨⟨gq,rfl⟩,hB⟩;have HF:=mkA hB;clear hB))
 all_goals (try go_wp2)
 all_goals go_ret
 all_goals exact ⟨⟨_,_,rfl⟩,below_step HB.out HF.out⟩
set_option maxHeartbeats 4000000 in
set_option maxRecDepth 100000 in
theorem newName {w:World} {B g:Nat} {k:ByteArray} {p1:Option Addr} {s2:ByteArray} (h:w.heap[g]?=some (.cells #[.string k,.pointer p1,.string s2] 118 (0,0))) (hB:B≤g) (hw:B≤w.heap.size) :
 Calls Tryz.prog 135 #[ptr g] w fun e w'=>(∃ (g':Nat) (k':ByteArray),e=.returned (ptr g')∧B≤g'∧w'.heap[g']?=some (.cells #[.string k',.pointer p1,.string s2] 118 (0,0)))∧Below B w w':=by
 have H:=mkA h
 have f0:=blk_frozen h 0
 have c0:w.cell? ⟨g,0,none⟩=some (.string k):=(blk_cell h 0).trans rfl
 clear h
 go_enter Tryz.func135,Tryz.ntmps135
 go_wp2
 go_ret
 exact ⟨⟨g,_,rfl,hB,blk_put H.out 0 _ rfl⟩,(Below.refl B w).setCell (p:=⟨g,0,none⟩) hB _⟩
set_option maxHeartbeats 4000000 in
set_option maxRecDepth 100000 in
theorem newNamed {w:World} {B g:Nat} {k:ByteArray} {p1:Option Addr} {p2:Option Addr} (h:w.heap[g]?=some (.cells #[.string k,.pointer p1,.pointer p2] 123 (0,0))) (hB:B≤g) (hw:B≤w.heap.size) :
 Calls Tryz.prog 136 #[ptr g] w fun e w'=>(∃ (g':Nat) (k':ByteArray),e=.returned (ptr g')∧B≤g'∧w'.heap[g']?=some (.cells #[.string k',.pointer p1,.pointer p2] 123 (0,0)))∧Below B w w':=by
 have H:=mkA h
 have f0:=blk_frozen h 0
 have c0:w.cell? ⟨g,0,none⟩=some (.string k):=(blk_cell h 0).trans rfl
 clear h
 go_enter Tryz.func136,Tryz.ntmps136
 go_wp2
 go_ret
 exact ⟨⟨g,_,rfl,hB,blk_put H.out 0 _ rfl⟩,(Below.refl B w).setCell (p:=⟨g,0,none⟩) hB _⟩
set_option maxHeartbeats 4000000 in
set_option maxRecDepth 100000 in
theorem newVariable {w:World} {B g:Nat} {k:ByteArray} {p1:Option Addr} {p2:Option Addr} (h:w.heap[g]?=some (.cells #[.string k,.pointer p1,.pointer p2] 83 (0,0))) (hB:B≤g) (hw:B≤w.heap.size) :
 Calls Tryz.prog 103 #[ptr g] w fun e w'=>(∃ (g':Nat) (k':ByteArray),e=.returned (ptr g')∧B≤g'∧w'.heap[g']?=some (.cells #[.string k',.pointer p1,.pointer p2] 83 (0,0)))∧Below B w w':=by
 have H:=mkA h
 have f0:=blk_frozen h 0
 have c0:w.cell? ⟨g,0,none⟩=some (.string k):=(blk_cell h 0).trans rfl
 clear h
 go_enter Tryz.func103,Tryz.ntmps103
 go_wp2
 go_ret
 exact ⟨⟨g,_,rfl,hB,blk_put H.out 0 _ rfl⟩,(Below.refl B w).setCell (p:=⟨g,0,none⟩) hB _⟩
set_option maxHeartbeats 4000000 in
set_option maxRecDepth 100000 in
theorem newInt {w:World} {B g:Nat} {k:ByteArray} {p1:Option Addr} {s2:ByteArray} (h:w.heap[g]?=some (.cells #[.string k,.pointer p1,.string s2] 131 (0,0))) (hB:B≤g) (hw:B≤w.heap.size) :
 Calls Tryz.prog 109 #[ptr g] w fun e w'=>(∃ (g':Nat) (k':ByteArray),e=.returned (ptr g')∧B≤g'∧w'.heap[g']?=some (.cells #[.string k',.pointer p1,.string s2] 131 (0,0)))∧Below B w w':=by
 have c1:w.cell? ⟨g,1,none⟩=some (.pointer p1):=(blk_cell h 1).trans rfl
 have c2:w.cell? ⟨g,2,none⟩=some (.string s2):=(blk_cell h 2).trans rfl
 have HW:=mkA hw
 clear h hB hw
 go_enter Tryz.func109,Tryz.ntmps109
 go_wp2
 go_region_held3 (fun u=>u.cell? ⟨g,1,none⟩=some (.pointer p1)∧u.cell? ⟨g,2,none⟩=some (.string s2)) (go_keep) (fail)
 go_wp2
 go_ret
 exact ⟨⟨_,_,rfl,HW.out,heap_alloc_new w _⟩,by first | exact below_drew1 ((Below.refl B w).alloc HW.out _) | exact (Below.refl B w).alloc HW.out _ | exact below_drew1 (below_drew1 ((Below.refl B w).alloc HW.out _)) | exact pw_below_drewN ((Below.refl B w).alloc HW.out _) _⟩
set_option maxHeartbeats 4000000 in
set_option maxRecDepth 100000 in
theorem newFloat {w:World} {B g:Nat} {k:ByteArray} {p1:Option Addr} {s2:ByteArray} (h:w.heap[g]?=some (.cells #[.string k,.pointer p1,.string s2] 133 (0,0))) (hB:B≤g) (hw:B≤w.heap.size) :
 Calls Tryz.prog 110 #[ptr g] w fun e w'=>(∃ (g':Nat) (k':ByteArray),e=.returned (ptr g')∧B≤g'∧w'.heap[g']?=some (.cells #[.string k',.pointer p1,.string s2] 133 (0,0)))∧Below B w w':=by
 have c1:w.cell? ⟨g,1,none⟩=some (.pointer p1):=(blk_cell h 1).trans rfl
 have c2:w.cell? ⟨g,2,none⟩=some (.string s2):=(blk_cell h 2).trans rfl
 have HW:=mkA hw
 clear h hB hw
 go_enter Tryz.func110,Tryz.ntmps110
 go_wp2
 go_region_held3 (fun u=>u.cell? ⟨g,1,none⟩=some (.pointer p1)∧u.cell? ⟨g,2,none⟩=some (.string s2)) (go_keep) (fail)
 go_wp2
 go_ret
 exact ⟨⟨_,_,rfl,HW.out,heap_alloc_new w _⟩,by first | exact below_drew1 ((Below.refl B w).alloc HW.out _) | exact (Below.refl B w).alloc HW.out _ | exact below_drew1 (below_drew1 ((Below.refl B w).alloc HW.out _)) | exact pw_below_drewN ((Below.refl B w).alloc HW.out _) _⟩
set_option maxHeartbeats 4000000 in
set_option maxRecDepth 100000 in
theorem newStr {w:World} {B g:Nat} {k:ByteArray} {p1:Option Addr} {s2:ByteArray} (h:w.heap[g]?=some (.cells #[.string k,.pointer p1,.string s2] 135 (0,0))) (hB:B≤g) (hw:B≤w.heap.size) :
 Calls Tryz.prog 142 #[ptr g] w fun e w'=>(∃ (g':Nat) (k':ByteArray),e=.returned (ptr g')∧B≤g'∧w'.heap[g']?=some (.cells #[.string k',.pointer p1,.string s2] 135 (0,0)))∧Below B w w':=by
 have c1:w.cell? ⟨g,1,none⟩=some (.pointer p1):=(blk_cell h 1).trans rfl
 have c2:w.cell? ⟨g,2,none⟩=some (.string s2):=(blk_cell h 2).trans rfl
 have HW:=mkA hw
 clear h hB hw
 go_enter Tryz.func142,Tryz.ntmps142
 go_wp2
 go_region_held3 (fun u=>u.cell? ⟨g,1,none⟩=some (.pointer p1)∧u.cell? ⟨g,2,none⟩=some (.string s2)) (go_keep) (fail)
 go_wp2
 go_ret
 exact ⟨⟨_,_,rfl,HW.out,heap_alloc_new w _⟩,by first | exact below_drew1 ((Below.refl B w).alloc HW.out _) | exact (Below.refl B w).alloc HW.out _ | exact below_drew1 (below_drew1 ((Below.refl B w).alloc HW.out _)) | exact pw_below_drewN ((Below.refl B w).alloc HW.out _) _⟩
set_option maxHeartbeats 4000000 in
set_option maxRecDepth 100000 in
theorem newBool {w:World} {B g:Nat} {k:ByteArray} {p1:Option Addr} {b2:Bool} (h:w.heap[g]?=some (.cells #[.string k,.pointer p1,.bool b2] 138 (0,0))) (hB:B≤g) (hw:B≤w.heap.size) :
 Calls Tryz.prog 112 #[ptr g] w fun e w'=>(∃ (g':Nat) (k':ByteArray),e=.returned (ptr g')∧B≤g'∧w'.heap[g']?=some (.cells #[.string k',.pointer p1,.bool b2] 138 (0,0)))∧Below B w w':=by
 have c1:w.cell? ⟨g,1,none⟩=some (.pointer p1):=(blk_cell h 1).trans rfl
 have c2:w.cell? ⟨g,2,none⟩=some (.bool b2):=(blk_cell h 2).trans rfl
 have HW:=mkA hw
 clear h hB hw
 go_enter Tryz.func112,Tryz.ntmps112
 go_wp2
 go_region_held3 (fun u=>u.cell? ⟨g,1,none⟩=some (.pointer p1)∧u.cell? ⟨g,2,none⟩=some (.bool b2)) (go_keep) (fail)
 go_wp2
 go_ret
 exact ⟨⟨_,_,rfl,HW.out,heap_alloc_new w _⟩,by first | exact below_drew1 ((Below.refl B w).alloc HW.out _) | exact (Below.refl B w).alloc HW.out _ | exact below_drew1 (below_drew1 ((Below.refl B w).alloc HW.out _)) | exact pw_below_drewN ((Below.refl B w).alloc HW.out _) _⟩
set_option maxHeartbeats 4000000 in
set_option maxRecDepth 100000 in
theorem newEnum {w:World} {B g:Nat} {k:ByteArray} {p1:Option Addr} {s2:ByteArray} (h:w.heap[g]?=some (.cells #[.string k,.pointer p1,.string s2] 140 (0,0))) (hB:B≤g) (hw:B≤w.heap.size) :
 Calls Tryz.prog 113 #[ptr g] w fun e w'=>(∃ (g':Nat) (k':ByteArray),e=.returned (ptr g')∧B≤g'∧w'.heap[g']?=some (.cells #[.string k',.pointer p1,.string s2] 140 (0,0)))∧Below B w w':=by
 have c1:w.cell? ⟨g,1,none⟩=some (.pointer p1):=(blk_cell h 1).trans rfl
 have c2:w.cell? ⟨g,2,none⟩=some (.string s2):=(blk_cell h 2).trans rfl
 have HW:=mkA hw
 clear h hB hw
 go_enter Tryz.func113,Tryz.ntmps113
 go_wp2
 go_region_held3 (fun u=>u.cell? ⟨g,1,none⟩=some (.pointer p1)∧u.cell? ⟨g,2,none⟩=some (.string s2)) (go_keep) (fail)
 go_wp2
 go_ret
 exact ⟨⟨_,_,rfl,HW.out,heap_alloc_new w _⟩,by first | exact below_drew1 ((Below.refl B w).alloc HW.out _) | exact (Below.refl B w).alloc HW.out _ | exact below_drew1 (below_drew1 ((Below.refl B w).alloc HW.out _)) | exact pw_below_drewN ((Below.refl B w).alloc HW.out _) _⟩
set_option maxHeartbeats 4000000 in
set_option maxRecDepth 100000 in
theorem newListV {w:World} {B g:Nat} {k:ByteArray} {p1:Option Addr} {a2:Option Addr} {n2 q2:Nat} (h:w.heap[g]?=some (.cells #[.string k,.pointer p1,.slice a2 n2 q2] 144 (0,0))) (hB:B≤g) (hw:B≤w.heap.size) :
 Calls Tryz.prog 139 #[ptr g] w fun e w'=>(∃ (g':Nat) (k':ByteArray),e=.returned (ptr g')∧B≤g'∧w'.heap[g']?=some (.cells #[.string k',.pointer p1,.slice a2 n2 q2] 144 (0,0)))∧Below B w w':=by
 have c1:w.cell? ⟨g,1,none⟩=some (.pointer p1):=(blk_cell h 1).trans rfl
 have c2:w.cell? ⟨g,2,none⟩=some (.slice a2 n2 q2):=(blk_cell h 2).trans rfl
 have HW:=mkA hw
 clear h hB hw
 go_enter Tryz.func139,Tryz.ntmps139
 go_wp2
 go_region_held3 (fun u=>u.cell? ⟨g,1,none⟩=some (.pointer p1)∧u.cell? ⟨g,2,none⟩=some (.slice a2 n2 q2)) (go_keep) (fail)
 go_wp2
 go_ret
 exact ⟨⟨_,_,rfl,HW.out,heap_alloc_new w _⟩,by first | exact below_drew1 ((Below.refl B w).alloc HW.out _) | exact (Below.refl B w).alloc HW.out _ | exact below_drew1 (below_drew1 ((Below.refl B w).alloc HW.out _)) | exact pw_below_drewN ((Below.refl B w).alloc HW.out _) _⟩
set_option maxHeartbeats 4000000 in
set_option maxRecDepth 100000 in
theorem newObj {w:World} {B g:Nat} {k:ByteArray} {p1:Option Addr} {a2:Option Addr} {n2 q2:Nat} (h:w.heap[g]?=some (.cells #[.string k,.pointer p1,.slice a2 n2 q2] 148 (0,0))) (hB:B≤g) (hw:B≤w.heap.size) :
 Calls Tryz.prog 141 #[ptr g] w fun e w'=>(∃ (g':Nat) (k':ByteArray),e=.returned (ptr g')∧B≤g'∧w'.heap[g']?=some (.cells #[.string k',.pointer p1,.slice a2 n2 q2] 148 (0,0)))∧Below B w w':=by
 have c1:w.cell? ⟨g,1,none⟩=some (.pointer p1):=(blk_cell h 1).trans rfl
 have c2:w.cell? ⟨g,2,none⟩=some (.slice a2 n2 q2):=(blk_cell h 2).trans rfl
 have HW:=mkA hw
 clear h hB hw
 go_enter Tryz.func141,Tryz.ntmps141
 go_wp2
 go_region_held3 (fun u=>u.cell? ⟨g,1,none⟩=some (.pointer p1)∧u.cell? ⟨g,2,none⟩=some (.slice a2 n2 q2)) (go_keep) (fail)
 go_wp2
 go_ret
 exact ⟨⟨_,_,rfl,HW.out,heap_alloc_new w _⟩,by first | exact below_drew1 ((Below.refl B w).alloc HW.out _) | exact (Below.refl B w).alloc HW.out _ | exact below_drew1 (below_drew1 ((Below.refl B w).alloc HW.out _)) | exact pw_below_drewN ((Below.refl B w).alloc HW.out _) _⟩
set_option maxHeartbeats 4000000 in
set_option maxRecDepth 100000 in
theorem newObjF {w:World} {B g:Nat} {k:ByteArray} {p1:Option Addr} {p2:Option Addr} {t3:TypeId} {x3:Value} (h:w.heap[g]?=some (.cells #[.string k,.pointer p1,.pointer p2,.iface t3 x3] 151 (0,0))) (hB:B≤g) (hw:B≤w.heap.size) :
 Calls Tryz.prog 153 #[ptr g] w fun e w'=>(∃ (g':Nat) (k':ByteArray),e=.returned (ptr g')∧B≤g'∧w'.heap[g']?=some (.cells #[.string k',.pointer p1,.pointer p2,.iface t3 x3] 151 (0,0)))∧Below B w w':=by
 have c1:w.cell? ⟨g,1,none⟩=some (.pointer p1):=(blk_cell h 1).trans rfl
 have c2:w.cell? ⟨g,2,none⟩=some (.pointer p2):=(blk_cell h 2).trans rfl
 have c3:w.cell? ⟨g,3,none⟩=some (.iface t3 x3):=(blk_cell h 3).trans rfl
 have HW:=mkA hw
 clear h hB hw
 go_enter Tryz.func153,Tryz.ntmps153
 go_wp2
 go_region_held3 (fun u=>u.cell? ⟨g,1,none⟩=some (.pointer p1)∧u.cell? ⟨g,2,none⟩=some (.pointer p2)∧u.cell? ⟨g,3,none⟩=some (.iface t3 x3)) (go_keep) (fail)
 go_wp2
 go_ret
 exact ⟨⟨_,_,rfl,HW.out,heap_alloc_new w _⟩,by first | exact below_drew1 ((Below.refl B w).alloc HW.out _) | exact (Below.refl B w).alloc HW.out _ | exact below_drew1 (below_drew1 ((Below.refl B w).alloc HW.out _)) | exact pw_below_drewN ((Below.refl B w).alloc HW.out _) _⟩
set_option maxHeartbeats 4000000 in
set_option maxRecDepth 100000 in
theorem newArg {w:World} {B g:Nat} {k:ByteArray} {p1:Option Addr} {p2:Option Addr} {t3:TypeId} {x3:Value} (h:w.heap[g]?=some (.cells #[.string k,.pointer p1,.pointer p2,.iface t3 x3] 193 (0,0))) (hB:B≤g) (hw:B≤w.heap.size) :
 Calls Tryz.prog 155 #[ptr g] w fun e w'=>(∃ (g':Nat) (k':ByteArray),e=.returned (ptr g')∧B≤g'∧w'.heap[g']?=some (.cells #[.string k',.pointer p1,.pointer p2,.iface t3 x3] 193 (0,0)))∧Below B w w':=by
 have H:=mkA h
 have f0:=blk_frozen h 0
 have c0:w.cell? ⟨g,0,none⟩=some (.string k):=(blk_cell h 0).trans rfl
 clear h
 go_enter Tryz.func155,Tryz.ntmps155
 go_wp2
 go_ret
 exact ⟨⟨g,_,rfl,hB,blk_put H.out 0 _ rfl⟩,(Below.refl B w).setCell (p:=⟨g,0,none⟩) hB _⟩
set_option maxHeartbeats 4000000 in
set_option maxRecDepth 100000 in
theorem newDir {w:World} {B g:Nat} {k:ByteArray} {p1:Option Addr} {p2:Option Addr} {a3:Option Addr} {n3 q3:Nat} (h:w.heap[g]?=some (.cells #[.string k,.pointer p1,.pointer p2,.slice a3 n3 q3] 196 (0,0))) (hB:B≤g) (hw:B≤w.heap.size) :
 Calls Tryz.prog 154 #[ptr g] w fun e w'=>(∃ (g':Nat) (k':ByteArray),e=.returned (ptr g')∧B≤g'∧w'.heap[g']?=some (.cells #[.string k',.pointer p1,.pointer p2,.slice a3 n3 q3] 196 (0,0)))∧Below B w w':=by
 have c1:w.cell? ⟨g,1,none⟩=some (.pointer p1):=(blk_cell h 1).trans rfl
 have c2:w.cell? ⟨g,2,none⟩=some (.pointer p2):=(blk_cell h 2).trans rfl
 have c3:w.cell? ⟨g,3,none⟩=some (.slice a3 n3 q3):=(blk_cell h 3).trans rfl
 have HW:=mkA hw
 clear h hB hw
 go_enter Tryz.func154,Tryz.ntmps154
 go_wp2
 go_region_held3 (fun u=>u.cell? ⟨g,1,none⟩=some (.pointer p1)∧u.cell? ⟨g,2,none⟩=some (.pointer p2)∧u.cell? ⟨g,3,none⟩=some (.slice a3 n3 q3)) (go_keep) (fail)
 go_wp2
 go_ret
 exact ⟨⟨_,_,rfl,HW.out,heap_alloc_new w _⟩,by first | exact below_drew1 ((Below.refl B w).alloc HW.out _) | exact (Below.refl B w).alloc HW.out _ | exact below_drew1 (below_drew1 ((Below.refl B w).alloc HW.out _)) | exact pw_below_drewN ((Below.refl B w).alloc HW.out _) _⟩
set_option maxHeartbeats 4000000 in
set_option maxRecDepth 100000 in
theorem newSpread {w:World} {B g:Nat} {k:ByteArray} {p1:Option Addr} {p2:Option Addr} {a3:Option Addr} {n3 q3:Nat} (h:w.heap[g]?=some (.cells #[.string k,.pointer p1,.pointer p2,.slice a3 n3 q3] 163 (0,0))) (hB:B≤g) (hw:B≤w.heap.size) :
 Calls Tryz.prog 117 #[ptr g] w fun e w'=>(∃ (g':Nat) (k':ByteArray),e=.returned (ptr g')∧B≤g'∧w'.heap[g']?=some (.cells #[.string k',.pointer p1,.pointer p2,.slice a3 n3 q3] 163 (0,0)))∧Below B w w':=by
 have c1:w.cell? ⟨g,1,none⟩=some (.pointer p1):=(blk_cell h 1).trans rfl
 have c2:w.cell? ⟨g,2,none⟩=some (.pointer p2):=(blk_cell h 2).trans rfl
 have c3:w.cell? ⟨g,3,none⟩=some (.slice a3 n3 q3):=(blk_cell h 3).trans rfl
 have HW:=mkA hw
 clear h hB hw
 go_enter Tryz.func117,Tryz.ntmps117
 go_wp2
 go_region_held3 (fun u=>u.cell? ⟨g,1,none⟩=some (.pointer p1)∧u.cell? ⟨g,2,none⟩=some (.pointer p2)∧u.cell? ⟨g,3,none⟩=some (.slice a3 n3 q3)) (go_keep) (fail)
 go_wp2
 go_ret
 exact ⟨⟨_,_,rfl,HW.out,heap_alloc_new w _⟩,by first | exact below_drew1 ((Below.refl B w).alloc HW.out _) | exact (Below.refl B w).alloc HW.out _ | exact below_drew1 (below_drew1 ((Below.refl B w).alloc HW.out _)) | exact pw_below_drewN ((Below.refl B w).alloc HW.out _) _⟩
set_option maxHeartbeats 4000000 in
set_option maxRecDepth 100000 in
theorem newInline {w:World} {B g:Nat} {k:ByteArray} {p1:Option Addr} {p2:Option Addr} {a3:Option Addr} {n3 q3:Nat} {p4:Option Addr} (h:w.heap[g]?=some (.cells #[.string k,.pointer p1,.pointer p2,.slice a3 n3 q3,.pointer p4] 166 (0,0))) (hB:B≤g) (hw:B≤w.heap.size) :
 Calls Tryz.prog 118 #[ptr g] w fun e w'=>(∃ (g':Nat) (k':ByteArray),e=.returned (ptr g')∧B≤g'∧w'.heap[g']?=some (.cells #[.string k',.pointer p1,.pointer p2,.slice a3 n3 q3,.pointer p4] 166 (0,0)))∧Below B w w':=by
 have c1:w.cell? ⟨g,1,none⟩=some (.pointer p1):=(blk_cell h 1).trans rfl
 have c2:w.cell? ⟨g,2,none⟩=some (.pointer p2):=(blk_cell h 2).trans rfl
 have c3:w.cell? ⟨g,3,none⟩=some (.slice a3 n3 q3):=(blk_cell h 3).trans rfl
 have c4:w.cell? ⟨g,4,none⟩=some (.pointer p4):=(blk_cell h 4).trans rfl
 have HW:=mkA hw
 clear h hB hw
 go_enter Tryz.func118,Tryz.ntmps118
 go_wp2
 go_region_held3 (fun u=>u.cell? ⟨g,1,none⟩=some (.pointer p1)∧u.cell? ⟨g,2,none⟩=some (.pointer p2)∧u.cell? ⟨g,3,none⟩=some (.slice a3 n3 q3)∧u.cell? ⟨g,4,none⟩=some (.pointer p4)) (go_keep) (fail)
 go_wp2
 go_ret
 exact ⟨⟨_,_,rfl,HW.out,heap_alloc_new w _⟩,by first | exact below_drew1 ((Below.refl B w).alloc HW.out _) | exact (Below.refl B w).alloc HW.out _ | exact below_drew1 (below_drew1 ((Below.refl B w).alloc HW.out _)) | exact pw_below_drewN ((Below.refl B w).alloc HW.out _) _⟩
set_option maxHeartbeats 4000000 in
set_option maxRecDepth 100000 in
theorem newField {w:World} {B g:Nat} {k:ByteArray} {p1:Option Addr} {p2:Option Addr} {p3:Option Addr} {a4:Option Addr} {n4 q4:Nat} {a5:Option Addr} {n5 q5:Nat} {p6:Option Addr} (h:w.heap[g]?=some (.cells #[.string k,.pointer p1,.pointer p2,.pointer p3,.slice a4 n4 q4,.slice a5 n5 q5,.pointer p6] 158 (0,0))) (hB:B≤g) (hw:B≤w.heap.size) :
 Calls Tryz.prog 120 #[ptr g] w fun e w'=>(∃ (g':Nat) (k':ByteArray),e=.returned (ptr g')∧B≤g'∧w'.heap[g']?=some (.cells #[.string k',.pointer p1,.pointer p2,.pointer p3,.slice a4 n4 q4,.slice a5 n5 q5,.pointer p6] 158 (0,0)))∧Below B w w':=by
 have H:=mkA h
 have f0:=blk_frozen h 0
 have c0:w.cell? ⟨g,0,none⟩=some (.string k):=(blk_cell h 0).trans rfl
 clear h
 go_enter Tryz.func120,Tryz.ntmps120
 go_wp2
 go_ret
 exact ⟨⟨g,_,rfl,hB,blk_put H.out 0 _ rfl⟩,(Below.refl B w).setCell (p:=⟨g,0,none⟩) hB _⟩
set_option maxHeartbeats 4000000 in
set_option maxRecDepth 100000 in
theorem newSelSet {w:World} {B g:Nat} {k:ByteArray} {p1:Option Addr} {a2:Option Addr} {n2 q2:Nat} (h:w.heap[g]?=some (.cells #[.string k,.pointer p1,.slice a2 n2 q2] 91 (0,0))) (hB:B≤g) (hw:B≤w.heap.size) :
 Calls Tryz.prog 58 #[ptr g] w fun e w'=>(∃ (g':Nat) (k':ByteArray),e=.returned (ptr g')∧B≤g'∧w'.heap[g']?=some (.cells #[.string k',.pointer p1,.slice a2 n2 q2] 91 (0,0)))∧Below B w w':=by
 have H:=mkA h
 have f0:=blk_frozen h 0
 have c0:w.cell? ⟨g,0,none⟩=some (.string k):=(blk_cell h 0).trans rfl
 clear h
 go_enter Tryz.func58,Tryz.ntmps58
 go_wp2
 go_ret
 exact ⟨⟨g,_,rfl,hB,blk_put H.out 0 _ rfl⟩,(Below.refl B w).setCell (p:=⟨g,0,none⟩) hB _⟩
end Go.Proofs.YthgcghpcikbnkaaGreatDoor.R
