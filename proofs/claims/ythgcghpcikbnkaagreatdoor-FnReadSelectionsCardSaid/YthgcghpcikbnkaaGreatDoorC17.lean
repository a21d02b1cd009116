/- A part of the proof of the theorem of this claim: Rbs. No condition of its own. -/
import Derived.Test.YthgcghpcikbnkaaGreatDoorC16
import Derived.Test.YthgcghpcikbnkaaGreatDoorB5
import Derived.Test.YthgcghpcikbnkaaGreatDoorC14
set_option maxHeartbeats 16000000
set_option maxRecDepth 100000
namespace Go.Proofs.YthgcghpcikbnkaaGreatDoor.R
open Go.RowKit Go.Proofs.YthgcghpcikbnkaaGreatDoorW.PrintWords Go.Proofs.YthgcghpcikbnkaaGreatDoorW.PrintLast Go.Proofs.YthgcghpcikbnkaaGreatDoorW.PrintMore
set_option linter.unusedVariables false
set_option linter.unusedSimpArgs false
def qAt (t:ByteArray) (i:Nat):Prop:=i < t.size∧bt t (i:Nat)=34
theorem rn_q (t:ByteArray) (p:Nat):∃ (c k:Int),rn t p=(c,k)∧((qAt t p∧c=34∧k=1)∨(¬ qAt t p∧(c == 34)=false)):=by
 unfold qAt
 by_cases h:p < t.size
 ·by_cases hb:bt t p < 128
  ·refine ⟨bt t p,1,rn_low t p _ h rfl hb,?_⟩
   by_cases h34:bt t p=34
   ·exact .inl ⟨⟨h,h34⟩,h34,rfl⟩
   ·exact .inr ⟨fun q=>h34 q.2,by rw [beq_eq_false_iff_ne];exact h34⟩
  ·obtain ⟨c,k,h1,h2,_⟩:=rn_high t p h (by omega)
   exact ⟨c,k,h1,.inr ⟨fun q=>by omega,by rw [beq_eq_false_iff_ne];omega⟩⟩
 ·exact ⟨-1,65533,rn_end t p h,.inr ⟨fun q=>h q.1,rfl⟩⟩
theorem qAt_dr (t:ByteArray) (p:Nat):qAt t p ↔ ∃ r,dr t p=34 :: r:=by
 constructor
 ·rintro ⟨h,hb⟩
  obtain ⟨b,hr⟩:=dr_byte t p h
  have:=(dr_cons t p _ _ hr).2.1
  exact ⟨_,hr.trans (by rw [show b=34 from UInt8.toNat_inj.1 (by show b.toNat=34;omega)])⟩
 ·rintro ⟨r,hr⟩
  exact ⟨(dr_cons t p _ _ hr).1,(dr_cons t p _ _ hr).2.1⟩
theorem tri_iff (t:ByteArray) (p:Nat):tri (dr t p)=true ↔ qAt t p∧qAt t (p+1)∧qAt t (p+2):=by
 constructor
 ·intro h
  unfold tri at h
  split at h
  ·rename_i r hr
   have a1:=dr_cons t p _ _ hr
   have a2:=dr_cons t (p+1) _ _ a1.2.2
   have a3:=dr_cons t (p+1+1) _ _ a2.2.2
   exact ⟨⟨a1.1,a1.2.1⟩,⟨a2.1,a2.2.1⟩,⟨a3.1,a3.2.1⟩⟩
  ·cases h
 ·rintro ⟨h1,h2,h3⟩
  obtain ⟨r1,e1⟩:=(qAt_dr t p).1 h1
  obtain ⟨r2,e2⟩:=(qAt_dr t (p+1)).1 h2
  obtain ⟨r3,e3⟩:=(qAt_dr t (p+2)).1 h3
  have a1:=dr_cons t p _ _ e1
  have a2:=dr_cons t (p+1) _ _ e2
  rw [e1,← a1.2.2,e2,← a2.2.2,show p+1+1=p+2 from rfl,e3]
  rfl
theorem etri_iff (t:ByteArray) (p:Nat):etri (dr t p)=true ↔ (p < t.size∧bt t (p:Nat)=92)∧qAt t (p+1)∧qAt t (p+2)∧qAt t (p+3):=by
 constructor
 ·intro h
  unfold etri at h
  split at h
  ·rename_i r hr
   have a1:=dr_cons t p _ _ hr
   have a2:=dr_cons t (p+1) _ _ a1.2.2
   have a3:=dr_cons t (p+1+1) _ _ a2.2.2
   have a4:=dr_cons t (p+1+1+1) _ _ a3.2.2
   exact ⟨⟨a1.1,a1.2.1⟩,⟨a2.1,a2.2.1⟩,⟨a3.1,a3.2.1⟩,⟨a4.1,a4.2.1⟩⟩
  ·cases h
 ·rintro ⟨⟨h0,hb⟩,h1,h2,h3⟩
  obtain ⟨r1,e1⟩:=(qAt_dr t (p+1)).1 h1
  obtain ⟨r2,e2⟩:=(qAt_dr t (p+2)).1 h2
  obtain ⟨r3,e3⟩:=(qAt_dr t (p+3)).1 h3
  obtain ⟨b,hr⟩:=dr_byte t p h0
  have hb2:=(dr_cons t p _ _ hr).2.1
  have e0:b=92:=UInt8.toNat_inj.1 (by show b.toNat=92;omega)
  have a1:=dr_cons t (p+1) _ _ e1
  have a2:=dr_cons t (p+2) _ _ e2
  rw [hr,e0,e1,← a1.2.2,show p+1+1=p+2 from rfl,e2,← a2.2.2,show p+2+1=p+3 from rfl,e3]
  rfl
def BS (bad:Bool) (X e l r:List UInt8):Prop:=(bad=false∧∃ x,l++x=X∧Bk x r e)∨(bad=true∧Bb r)
theorem BS.cons {bad:Bool} {X e l r:List UInt8} {b:UInt8} (h1:tri (b :: r)=false) (hb:Bl b) (h:BS bad X e l (b :: r)):etri (b :: r)=false∧BS bad X e (l++[b]) r:=by
 rcases h with ⟨h2,x,h3,h4⟩ | ⟨h2,h3⟩
 ·cases h4 with
  | done=>cases h1
  | byte p q s k=>exact ⟨q,.inl ⟨h2,_,by rw [← h3,List.append_assoc];rfl,k⟩⟩
 ·cases h3 with
  | ctl p=>exact absurd hb p
  | byte p q s k=>exact ⟨q,.inr ⟨h2,k⟩⟩
theorem tri_high {b:UInt8} {r:List UInt8} (h:b.toNat≠34):tri (b :: r)=false:=by
 unfold tri;split
 ·rename_i h1;injection h1 with h1;subst h1;exact absurd rfl h
 ·rfl
theorem bs_many (t:ByteArray) (bad:Bool) (X e:List UInt8):∀ (k p:Nat) (l:List UInt8),BS bad X e l (dr t p)→p+k≤t.size→(∀ j:Nat,j < k→128≤bt t ((p+j:Nat):Int))→BS bad X e (l++(dr t p).take k) (dr t (p+k)):=by
 intro k
 induction k with
 | zero=>intro p l h _ _;simpa using h
 | succ k ih =>
   intro p l h hk hb
   have h0:=hb 0 (by omega)
   rw [Nat.add_zero] at h0
   obtain ⟨b,hr⟩:=dr_byte t p (by omega)
   obtain ⟨q1,q2,q3⟩:=dr_cons t p _ _ hr
   rw [hr] at h
   have h2:=ih (p+1) (l++[b]) (h.cons (tri_high (by omega)) (.inl (by omega))).2 (by omega) (fun j hj=>by have:=hb (j+1) (by omega);rw [show p+(j+1)=p+1+j by omega] at this;exact this)
   rw [show p+(k+1)=p+1+k by omega,hr,List.take_succ_cons]
   rw [List.append_assoc] at h2
   exact h2
theorem bs_step (t:ByteArray) (bad:Bool) (X e l:List UInt8) (p:Nat) (hps:p≤t.size) (h:BS bad X e l (dr t p)) :
 (bad=false∧l=X∧p+3≤t.size∧rn t p=(34,1)∧rn t (p+1)=(34,1)∧rn t (p+2)=(34,1)∧dr t (p+3)=e) ∨
 (p < t.size∧rn t p=(34,1)∧(∃ (c d k m:Int),rn t (p+1)=(c,k)∧rn t (p+2)=(d,m)∧((c == 34)=false∨(c=34∧(d == 34)=false)))∧BS bad X e (l++(dr t p).take 1) (dr t (p+1))) ∨
 (p < t.size∧rn t p=(92,1)∧(∃ (c d f k m n:Int),rn t (p+1)=(c,k)∧rn t (p+2)=(d,m)∧rn t (p+3)=(f,n)∧((c == 34)=false∨(c=34∧(d == 34)=false)∨(c=34∧d=34∧(f == 34)=false)))∧BS bad X e (l++(dr t p).take 1) (dr t (p+1))) ∨
 (∃ (c:Int) (k:Nat),rn t p=(c,(k:Int))∧(1≤k∧p+k≤t.size)∧(c == 34)=false∧(c == 92)=false∧(decide (c < 32)=false∨c=9∨c=10∨c=13)∧BS bad X e (l++(dr t p).take k) (dr t (p+k))) ∨
 (bad=true∧(p=t.size∨(∃ c:Int,p < t.size∧rn t p=(c,1)∧decide (c < 32)=true∧(c != 9)=true∧(c != 10)=true∧(c != 13)=true∧(c == 34)=false))):=by
 by_cases hlt:p < t.size
 ·obtain ⟨b,hr⟩:=dr_byte t p hlt
  obtain ⟨q1,q2,q3⟩:=dr_cons t p _ _ hr
  obtain ⟨c1,k1,r1,v1⟩:=rn_q t (p+1)
  obtain ⟨c2,k2,r2,v2⟩:=rn_q t (p+2)
  obtain ⟨c3,k3,r3,v3⟩:=rn_q t (p+3)
  by_cases htri:tri (dr t p)=true
  ·rcases h with ⟨hb,x,hx,hq⟩ | ⟨hb,hq⟩
   ·generalize hR:dr t p=R at hq
    rw [hR] at htri
    cases hq with
    | done =>
      have a1:=dr_cons t p _ _ hR
      have a2:=dr_cons t (p+1) _ _ a1.2.2
      have a3:=dr_cons t (p+1+1) _ _ a2.2.2
      exact .inl ⟨hb,by simpa using hx,by omega,rn_low t p 34 a1.1 a1.2.1 (by decide),rn_low t (p+1) 34 a2.1 a2.2.1 (by decide),rn_low t (p+2) 34 a3.1 a3.2.1 (by decide),a3.2.2⟩
    | byte h1 _ _ _=>rw [h1] at htri;cases htri
   ·rw [hr] at hq htri
    cases hq with
    | ctl h1 =>
      obtain ⟨⟨_,g⟩,_⟩:=(tri_iff t p).1 (by rw [hr];exact htri)
      exact absurd (show Bl b from .inl (by omega)) h1
    | byte h1 _ _ _=>rw [h1] at htri;cases htri
  ·have htri':tri (b :: dr t (p+1))=false:=by rw [← hr];exact Bool.not_eq_true _ ▸ htri
   have hnt:=fun a b c=>htri ((tri_iff t p).2 ⟨a,b,c⟩)
   by_cases hBl:Bl b
   ·have hc:=BS.cons htri' hBl (by rw [hr] at h;exact h)
    have h1:BS bad X e (l++(dr t p).take 1) (dr t (p+1)):=by rw [hr,List.take_succ_cons,List.take_zero];exact hc.2
    have hne:¬ (etri (dr t p)=true):=by rw [hr,hc.1];decide
    have hnet:=fun a b c d=>hne ((etri_iff t p).2 ⟨⟨hlt,a⟩,b,c,d⟩)
    by_cases h34:b.toNat=34
    ·refine .inr (.inl ⟨hlt,rn_low t p 34 q1 (by omega) (by decide),⟨c1,c2,k1,k2,r1,r2,?_⟩,h1⟩)
     rcases v1 with ⟨x1,y1,_⟩ | ⟨x1,y1⟩
     ·rcases v2 with ⟨x2,y2,_⟩ | ⟨x2,y2⟩
      ·exact absurd x2 (hnt ⟨hlt,by omega⟩ x1)
      ·exact .inr ⟨y1,y2⟩
     ·exact .inl y1
    ·by_cases h92:b.toNat=92
     ·refine .inr (.inr (.inl ⟨hlt,rn_low t p 92 q1 (by omega) (by decide),⟨c1,c2,c3,k1,k2,k3,r1,r2,r3,?_⟩,h1⟩))
      rcases v1 with ⟨x1,y1,_⟩ | ⟨x1,y1⟩
      ·rcases v2 with ⟨x2,y2,_⟩ | ⟨x2,y2⟩
       ·rcases v3 with ⟨x3,y3,_⟩ | ⟨x3,y3⟩
        ·exact absurd x3 (hnet (by omega) x1 x2)
        ·exact .inr (.inr ⟨y1,y2,y3⟩)
       ·exact .inr (.inl ⟨y1,y2⟩)
      ·exact .inl y1
     ·refine .inr (.inr (.inr (.inl ?_)))
      by_cases hh:b.toNat < 128
      ·refine ⟨(b.toNat:Int),1,rn_low t p _ q1 q2 (by omega),⟨by omega,by omega⟩,by rw [beq_eq_false_iff_ne];omega,by rw [beq_eq_false_iff_ne];omega,?_,h1⟩
       rcases hBl with g | g | g | g
       ·exact .inl (decide_eq_false (by omega))
       ·exact .inr (.inl (by omega))
       ·exact .inr (.inr (.inl (by omega)))
       ·exact .inr (.inr (.inr (by omega)))
      ·obtain ⟨c,k,e1,e2,e3,e4,e5⟩:=rn_high t p q1 (by rw [q2];omega)
       exact ⟨c,k,e1,⟨e3,e4⟩,by rw [beq_eq_false_iff_ne];omega,by rw [beq_eq_false_iff_ne];omega,.inl (decide_eq_false (by omega)),bs_many t bad X e k p l h e4 e5⟩
   ·have hbn:b.toNat < 32∧b.toNat≠9∧b.toNat≠10∧b.toNat≠13:=by unfold Bl at hBl;omega
    refine .inr (.inr (.inr (.inr ⟨?_,.inr ⟨(b.toNat:Int),hlt,rn_low t p _ q1 q2 (by omega),decide_eq_true (by omega),by rw [bne_iff_ne];omega,by rw [bne_iff_ne];omega,by rw [bne_iff_ne];omega,by rw [beq_eq_false_iff_ne];omega⟩⟩)))
    rcases h with ⟨hb,x,hx,hq⟩ | ⟨hb,hq⟩
    ·rw [hr] at hq
     generalize dr t (p+1)=R at hq
     cases hq with
     | done=>exact absurd (show Bl 34 by decide) hBl
     | byte _ _ g _=>exact absurd g hBl
    ·exact hb
 ·have hpe:p=t.size:=by omega
  refine .inr (.inr (.inr (.inr ⟨?_,.inl hpe⟩)))
  rcases h with ⟨hb,x,hx,hq⟩ | ⟨hb,hq⟩
  ·rw [hpe,dr_fin] at hq;cases hq
  ·exact hb
def Stt (w w2:World) (gq:Nat) (l:List UInt8) (wr:World):Prop:=Go.Lib.IsBuffer 263 5 gq gq (Go.Lib.byteCells l) wr∧Below gq w2 wr∧Below w.heap.size w wr
theorem Stt.step {w w2 wr w':World} {gq:Nat} {l:List UInt8} (h:Stt w w2 gq l wr) (hb:Below wr.heap.size wr w'):Stt w w2 gq l w' :=
 ⟨buf_below h.1 hb,h.2.1.trans (hb.mono (Nat.le_of_lt h.1.lt)),below_step h.2.2 hb⟩
theorem readBlock_all {w:World} {g b cap:Nat} {t:ByteArray} (h:Src w g b cap t) (p0:Nat) (hp0:p0+3≤t.size) (bad:Bool) (X:List UInt8) (z:Nat) (hz:z≤t.size) (hx:BS bad X (dr t z) [] (dr t (p0+3))) (V:ByteArray)
 (hV:bad=false→∀ w,Calls Tryz.prog 148 #[.string ⟨X.toArray⟩] w fun x w'=>x=.returned (.string V)∧Below w.heap.size w w') :
 Calls Tryz.prog 132 #[.pointer (some ⟨g,0,none⟩),.int .i64 p0] w fun e w'=>((bad=false→e=.returned (.tuple #[.agg #[.int .i64 19,.int .i64 p0,.int .i64 z,.string V],.nilIface]))∧(bad=true→∃ ge:Nat,e=.returned (.tuple #[.agg #[.int .i64 0,.int .i64 0,.int .i64 0,.string ⟨#[]⟩],.iface 206 (.pointer (some ⟨ge,0,none⟩))])))∧Below w.heap.size w w':=by
 have HS:=mkA h
 have HX:=mkA hx
 have HV:=mkA hV
 have HSM:=mkA h.small
 have HZ:=mkA hz
 have HP0:=mkA hp0
 have hbg:b < w.heap.size:=World.block_lt_of_cell? w _ (h.bytes p0 (by omega))
 clear h hx hV hz hp0
 go_enter Tryz.func132,Tryz.ntmps132
 go_wp2_with (first
  | ((with_reducible refine gate_dst (N:=4) rfl ?_);refine bxz ?hr ?_;(case hr=>first | (go_simp;done) | (go_simp;rfl));intro gb hg w2 hbox hb;have HB:=mkA hb;have GE:=mkA (Nat.le_of_eq hg.symm);have BK:=mkA hbox;clear hb hbox hg;have hc0:=(HS.out.below HB.out).body)
  | ((with_reducible refine gate_dst (N:=10) rfl ?_);refine bxe (cs:=#[.slice none 0 0,.int .i64 0,.int .i8 0]) (t:=263) ?hr ?_;(case hr=>first | (go_simp;done) | (go_simp;rfl));intro gq hg w3 hbox hb;have HQ:=mkA hb;have GQ:=mkA hg;have BQ:=mkA hbox;clear hb hbox hg))
 have HBG:=mkA (show b < gq by have:=HB.out.size;have:=GQ.out;omega)
 have HST:=mkA (show Stt w w2 gq [] w3 from ⟨buf_new BQ.out,by have:=HQ.out;rw [← GQ.out] at this;exact this,below_step HB.out HQ.out⟩)
 obtain ⟨c,hc⟩:∃ c:Nat,c=p0+3:=⟨_,rfl⟩
 have P1:wrap64 ((p0:Int)+3)=(c:Int):=w_at (by omega) (by have:=HSM.out;have:=HP0.out;omega)
 have HC:=mkA hc
 clear hbg HQ hc
 go_simp
 go_loopw [7,8,9] (fun v7 v8 v9 wr=>∃ (p m:Nat),v7=.int .i64 p∧v8=.int .i64 m∧v9=.int .i64 c∧Aside0 (c≤p∧p≤t.size∧m≤p)∧Aside0 (BS bad X (dr t z) ((dr t c).take (p - c)) (dr t p))∧Aside0 (Stt w w2 gq [] wr)) (fun v7 _ _ _=>msr t v7)
 case atStart=>exact ⟨c,c,by first | rfl | exact congrArg (Value.int .i64) P1,by first | rfl | exact congrArg (Value.int .i64) P1,by first | rfl | exact congrArg (Value.int .i64) P1,⟨Nat.le_refl _,by rw [HC.out];exact HP0.out,Nat.le_refl _⟩,⟨by rw [Nat.sub_self,List.take_zero,HC.out];exact HX.out⟩,HST⟩
 case round =>
  clear P1
  obtain ⟨p,m,rfl,rfl,rfl,HP,HR,HT⟩:=hrel
  obtain ⟨P1,hP1⟩:∃ q:Nat,q=p+1:=⟨_,rfl⟩
  obtain ⟨P2,hP2⟩:∃ q:Nat,q=p+2:=⟨_,rfl⟩
  obtain ⟨P3,hP3⟩:∃ q:Nat,q=p+3:=⟨_,rfl⟩
  have QW:=mkA (show wrap64 ((p:Int)+1)=(P1:Int)∧wrap64 ((p:Int)+2)=(P2:Int)∧wrap64 ((p:Int)+3)=(P3:Int) from by
   have hz:=HSM.out
   have hp:=HP.out
   exact ⟨w_at (by omega) (by omega),w_at (by omega) (by omega),w_at (by omega) (by omega)⟩)
  have C0:=runeAt_any (HS.out.below HT.out.2.2) p
  have C1:=mkA (fun (w5:World) (h5:Stt w w2 gq [] w5)=>runeAt_any (HS.out.below h5.2.2) P1)
  have C2:=mkA (fun (w5:World) (h5:Stt w w2 gq [] w5)=>runeAt_any (HS.out.below h5.2.2) P2)
  have C3:=mkA (fun (w5:World) (h5:Stt w w2 gq [] w5)=>runeAt_any (HS.out.below h5.2.2) P3)
  have HPP:=mkA (And.intro hP1 (And.intro hP2 hP3))
  have W1:wrap64 ((m:Int)+1)=((m+1:Nat):Int):=pl1 m (by have:=HSM.out;have:=HP.out;omega)
  have hst:=bs_step t bad X (dr t z) _ p HP.out.2.1 HR.out
  rw [← hP1,← hP2,← hP3] at hst
  clear hP1 hP2 hP3
  rcases hst with ⟨hbd,hlx,hsz,r0,r1,r2,hend⟩ | ⟨hlt,r0,⟨c1,d1,k1,k2,r1,r2,hcd⟩,hq⟩ | ⟨hlt,r0,⟨c1,d1,f1,k1,k2,k3,r1,r2,r3,hcd⟩,hq⟩ | ⟨c1,k,r0,hk,hc34,hc92,hc,hq⟩ | ⟨hbd,hbx⟩
  ·rw [r0] at C0
   rw [r1] at C1
   rw [r2] at C2
   have HPZ:=mkA (show P3=z from dr_inj t P3 z hsz HZ.out hend)
   have HBD:=mkA hbd
   have q0:decide ((t.size:Int)≤(p:Int))=false:=decide_eq_false (by have:=HPP.out;omega)
   have q1:¬ (t.size≤p):=by have:=HPP.out;omega
   have q2:(c≤p)=True:=eq_true HP.out.1
   have q3:(p≤cap)=True:=eq_true (by have:=HP.out;have:=HS.out.cap;omega)
   have q4:(cap=c)=False:=eq_false (by have:=HPP.out;have:=HP.out.1;have:=HS.out.cap;omega)
   have HLX:=mkA hlx
   have CV:=mkA (show ∀ w,Calls Tryz.prog 148 #[.string ⟨((dr t c).take (p - c)).toArray⟩] w fun x w'=>x=.returned (.string V)∧Below w.heap.size w w' from by rw [hlx];exact HV.out hbd)
   clear r0 r1 r2 C3 hsz hend hbd hlx W1
   have CW:=mkA (fun (w6:World) (h6:Stt w w2 gq [] w6)=>(show Calls Tryz.prog 147 #[.pointer (some ⟨gq,0,none⟩),.slice (some ⟨b,c,none⟩) (p - c) (cap - c)] w6 fun x w'=>x=.returned (.tuple #[.int .i64 ((p - c:Nat):Int),.nilIface])∧Go.Lib.IsBuffer 263 5 gq gq (Go.Lib.byteCells ((dr t c).take (p - c))) w'∧Below gq w6 w' from by
    have h:=write_chunk (cp:=cap - c) (HS.out.below h6.2.2).bytes h6.1 HBG.out c p HP.out.1 HP.out.2.1 (by decide) (Nat.le_trans HSM.out (by decide))
    rw [List.nil_append] at h
    exact h))
   obtain ⟨y1,y2,y3⟩:=QW.out
   have M1:=mkA True.intro
   have M2:=mkA True.intro
   have M3:=mkA True.intro
   go_wp2_with (first
    | (clear M1;go_at_call 129;refine C0.mono ?_;rintro x w4 ⟨rfl,hB⟩;have HT4:=mkA (HT.out.step hB);clear hB)
    | (clear M2;go_at_call 129;(with_reducible refine (C1.out _ HT4.out).mono ?_);rintro x w5 ⟨rfl,hB⟩;have HT5:=mkA (HT4.out.step hB);clear hB)
    | (clear M3;go_at_call 129;(with_reducible refine (C2.out _ HT5.out).mono ?_);rintro x w6 ⟨rfl,hB⟩;have HT6:=mkA (HT5.out.step hB);clear hB)
    | (go_at_call 147;(with_reducible refine (CW.out _ HT6.out).mono ?_);rintro x w7 ⟨rfl,hI,hB⟩;have HI7:=mkA hI;have HW7:=mkA (show Below w2.heap.size w2 w7 by have h1:=HT6.out.2.1.trans hB;rw [GQ.out] at h1;exact h1);clear hI hB)
    | (go_at_call 149;(with_reducible refine (Tryz.Buffer_String gq gq _ _ HI7.out).mono ?_);rintro x w8 ⟨rfl,nd,rfl⟩;have HW8:=mkA (pw_below_drewN HW7.out nd))
    | (go_at_call 148;(with_reducible refine (CV.out _).mono ?_);rintro x w9 ⟨rfl,hB⟩;have HW9:=mkA (below_step HW8.out hB);clear hB)
    | (go_at_call 128;(with_reducible refine (makeToken_walk 19 (p0:Int) _ _ _).mono ?_);rintro x w10 ⟨rfl,hB⟩;have HW10:=mkA (below_step HW9.out hB);clear hB;have BK10:=mkA (blk_below BK.out HW10.out);obtain ⟨hz0,hz1,hz2,hz3,hf0,hf1,hf2,hf3⟩:=tkz BK10.out))
   rw [HPZ.out]
   refine bodyPost_ret (results_ct rfl _ _ gb 63 #[.int .i64 19,.int .i64 p0,.int .i64 z,.string V] (0,0) _ rfl (by exact tkp BK10.out) Tryz.underlying63 rfl (by kernel_rfl)) rfl ?_
   have hfin:=below_step HB.out HW10.out
   exact ⟨⟨fun _=>rfl,fun h=>by rw [HBD.out] at h;cases h⟩,below_set (below_set (below_set (below_set hfin GE.out) GE.out) GE.out) GE.out⟩
  ·rw [r0] at C0
   rw [r1] at C1
   rw [r2] at C2
   have HLT:=mkA hlt
   have HQ:=mkA hq
   have q0:decide ((t.size:Int)≤(p:Int))=false:=decide_eq_false (by omega)
   have q1:¬ (t.size≤p):=by omega
   clear r0 r1 r2 C3 hlt hq
   obtain ⟨y1,y2,y3⟩:=QW.out
   have M1:=mkA True.intro
   have M2:=mkA True.intro
   have M3:=mkA True.intro
   rcases hcd with h1 | ⟨rfl,h1⟩
   all_goals
    go_wp2_with (first
     | (clear M1;go_at_call 129;refine C0.mono ?_;rintro x w4 ⟨rfl,hB⟩;have HT4:=mkA (HT.out.step hB);clear hB)
     | (clear M2;go_at_call 129;(with_reducible refine (C1.out _ HT4.out).mono ?_);rintro x w5 ⟨rfl,hB⟩;have HT5:=mkA (HT4.out.step hB);clear hB)
     | (clear M3;go_at_call 129;(with_reducible refine (C2.out _ HT5.out).mono ?_);rintro x w6 ⟨rfl,hB⟩;have HT6:=mkA (HT5.out.step hB);clear hB))
    clear q0 q1
    go_roundw
    case rel=>exact ⟨p+1,m+1,by rw [y1,HPP.out.1],congrArg (Value.int .i64) W1,rfl,⟨by have:=HP.out;omega,HLT.out,by have:=HP.out;omega⟩,⟨by rw [dr_take t c p 1 HP.out.1,← HPP.out.1];exact HQ.out⟩,HT6⟩
    case measure=>rw [y1,HPP.out.1,msr_int,msr_int,Int.toNat_natCast,Int.toNat_natCast];have:=HLT.out;omega
  ·rw [r0] at C0
   rw [r1] at C1
   rw [r2] at C2
   rw [r3] at C3
   have HLT:=mkA hlt
   have HQ:=mkA hq
   have q0:decide ((t.size:Int)≤(p:Int))=false:=decide_eq_false (by omega)
   have q1:¬ (t.size≤p):=by omega
   clear r0 r1 r2 r3 hlt hq
   obtain ⟨y1,y2,y3⟩:=QW.out
   have M1:=mkA True.intro
   have M2:=mkA True.intro
   have M3:=mkA True.intro
   rcases hcd with h1 | ⟨rfl,h1⟩ | ⟨rfl,rfl,h1⟩
   all_goals
    go_wp2_with (first
     | (clear M1;go_at_call 129;refine C0.mono ?_;rintro x w4 ⟨rfl,hB⟩;have HT4:=mkA (HT.out.step hB);clear hB)
     | (clear M2;go_at_call 129;(with_reducible refine (C1.out _ HT4.out).mono ?_);rintro x w5 ⟨rfl,hB⟩;have HT5:=mkA (HT4.out.step hB);clear hB)
     | (clear M3;go_at_call 129;(with_reducible refine (C2.out _ HT5.out).mono ?_);rintro x w6 ⟨rfl,hB⟩;have HT6:=mkA (HT5.out.step hB);clear hB)
     | (go_at_call 129;(with_reducible refine (C3.out _ HT6.out).mono ?_);rintro x w7 ⟨rfl,hB⟩;have HT7:=mkA (HT6.out.step hB);clear hB))
    clear q0 q1
    go_roundw
    case rel=>exact ⟨p+1,m+1,by rw [y1,HPP.out.1],congrArg (Value.int .i64) W1,rfl,⟨by have:=HP.out;omega,HLT.out,by have:=HP.out;omega⟩,⟨by rw [dr_take t c p 1 HP.out.1,← HPP.out.1];exact HQ.out⟩,HT7⟩
    case measure=>rw [y1,HPP.out.1,msr_int,msr_int,Int.toNat_natCast,Int.toNat_natCast];have:=HLT.out;omega
  ·rw [r0] at C0
   have HK:=mkA hk
   have HQ:=mkA hq
   have q0:decide ((t.size:Int)≤(p:Int))=false:=decide_eq_false (by omega)
   have q1:¬ (t.size≤p):=by omega
   clear r0 hk C1 C2 C3 hq
   have M1:=mkA True.intro
   rcases hc with hc | rfl | rfl | rfl
   all_goals
    go_wp2_with (first
     | (clear M1;go_at_call 129;refine C0.mono ?_;rintro x w4 ⟨rfl,hB⟩;have HT4:=mkA (HT.out.step hB);clear hB))
    clear q0 q1
    have e6:wrap64 ((p:Int)+(k:Int))=((p+k:Nat):Int):=by
     have h1:=HK.out;have h2:=HSM.out
     exact w_at (by omega) (by omega)
    go_roundw
    case rel=>exact ⟨p+k,m+1,congrArg (Value.int .i64) e6,congrArg (Value.int .i64) W1,rfl,⟨by have:=HP.out;omega,HK.out.2,by have:=HP.out;have:=HK.out;omega⟩,⟨by rw [dr_take t c p k HP.out.1];exact HQ.out⟩,HT4⟩
    case measure=>rw [e6,msr_int,msr_int,Int.toNat_natCast,Int.toNat_natCast];have:=HK.out;omega
  ·have HBD:=mkA hbd
   have HML:=mkA (show m≤t.size from Nat.le_trans HP.out.2.2 HP.out.2.1)
   clear hbd W1 C1 C2 C3
   rcases hbx with hp | ⟨c1,hlt,r0,g1,g2,g3,g4,g5⟩
   ·have q0:decide ((t.size:Int)≤(p:Int))=true:=decide_eq_true (by omega)
    have q1:(t.size≤p)=True:=eq_true (by omega)
    clear C0 hp
    go_wp2_with (first
     | (go_at_call 101;refine (synErr' (HS.out.below HT.out.2.2) m HML.out _ _ rfl).mono ?_;rintro x w9 ⟨⟨ge,rfl⟩,hB⟩;have HW9:=mkA (below_step (show Below w2.heap.size w2 _ from GQ.out ▸ HT.out.2.1) hB);clear hB;have BK9:=mkA (blk_below BK.out HW9.out);obtain ⟨hz0,hz1,hz2,hz3,hf0,hf1,hf2,hf3⟩:=tkz BK9.out))
    refine bodyPost_ret (results_ct rfl _ _ gb 63 #[.int .i64 0,.int .i64 0,.int .i64 0,.string ⟨#[]⟩] (0,0) _ rfl (by exact tkp BK9.out) Tryz.underlying63 rfl (by kernel_rfl)) rfl ?_
    exact ⟨⟨fun h=>(by rw [HBD.out] at h;cases h),fun _=>⟨ge,rfl⟩⟩,below_set (below_set (below_set (below_set (below_step HB.out HW9.out) GE.out) GE.out) GE.out) GE.out⟩
   ·rw [r0] at C0
    have q0:decide ((t.size:Int)≤(p:Int))=false:=decide_eq_false (by omega)
    have q1:¬ (t.size≤p):=by omega
    have M1:=mkA True.intro
    clear r0 hlt
    go_wp2_with (first
     | (clear M1;go_at_call 129;refine C0.mono ?_;rintro x w4 ⟨rfl,hB⟩;have HT4:=mkA (HT.out.step hB);clear hB)
     | (go_at_call 101;refine (synErr' (HS.out.below HT4.out.2.2) m HML.out _ _ rfl).mono ?_;rintro x w9 ⟨⟨ge,rfl⟩,hB⟩;have HW9:=mkA (below_step (show Below w2.heap.size w2 _ from GQ.out ▸ HT4.out.2.1) hB);clear hB;have BK9:=mkA (blk_below BK.out HW9.out);obtain ⟨hz0,hz1,hz2,hz3,hf0,hf1,hf2,hf3⟩:=tkz BK9.out))
    refine bodyPost_ret (results_ct rfl _ _ gb 63 #[.int .i64 0,.int .i64 0,.int .i64 0,.string ⟨#[]⟩] (0,0) _ rfl (by exact tkp BK9.out) Tryz.underlying63 rfl (by kernel_rfl)) rfl ?_
    exact ⟨⟨fun h=>(by rw [HBD.out] at h;cases h),fun _=>⟨ge,rfl⟩⟩,below_set (below_set (below_set (below_set (below_step HB.out HW9.out) GE.out) GE.out) GE.out) GE.out⟩
theorem readBlock_ok {w:World} {g b cap:Nat} {t:ByteArray} (h:Src w g b cap t) (p:Nat) (hp:p+3≤t.size) (X:List UInt8) (z:Nat) (hz:z≤t.size) (hx:Bk X (dr t (p+3)) (dr t z)) (V:ByteArray) (hV:BVal X V) :
 Calls Tryz.prog 132 #[.pointer (some ⟨g,0,none⟩),.int .i64 p] w fun e w'=>e=.returned (.tuple #[.agg #[.int .i64 19,.int .i64 p,.int .i64 z,.string V],.nilIface])∧Below w.heap.size w w' :=
 (readBlock_all h p hp false X z hz (.inl ⟨rfl,X,rfl,hx⟩) V (fun _=>hV)).mono fun e w' q=>⟨q.1.1 rfl,q.2⟩
theorem readBlock_bad {w:World} {g b cap:Nat} {t:ByteArray} (h:Src w g b cap t) (p:Nat) (hp:p+3≤t.size) (hx:Bb (dr t (p+3))) :
 Calls Tryz.prog 132 #[.pointer (some ⟨g,0,none⟩),.int .i64 p] w fun e w'=>(∃ ge:Nat,e=.returned (.tuple #[.agg #[.int .i64 0,.int .i64 0,.int .i64 0,.string ⟨#[]⟩],.iface 206 (.pointer (some ⟨ge,0,none⟩))]))∧Below w.heap.size w w' :=
 (readBlock_all h p hp true [] 0 (Nat.zero_le _) (.inr ⟨rfl,hx⟩) ⟨#[]⟩ (fun h=>by cases h)).mono fun e w' q=>⟨q.1.2 rfl,q.2⟩
end Go.Proofs.YthgcghpcikbnkaaGreatDoor.R
