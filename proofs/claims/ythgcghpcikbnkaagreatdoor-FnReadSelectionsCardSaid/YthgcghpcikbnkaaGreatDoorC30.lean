/- A part of the proof of the theorem of this claim: Lxq, Lxw, Lxt. No condition of its own. -/
import Derived.Test.YthgcghpcikbnkaaGreatDoorC29
import Derived.Test.YthgcghpcikbnkaaGreatDoorC14
import Derived.Test.YthgcghpcikbnkaaGreatDoorC28
set_option maxHeartbeats 16000000
set_option maxRecDepth 100000
namespace Go.Proofs.YthgcghpcikbnkaaGreatDoor.R
open Go.RowKit Go.Proofs.YthgcghpcikbnkaaGreatDoorW.PrintWords Go.Proofs.YthgcghpcikbnkaaGreatDoorW.PrintLast Go.Proofs.YthgcghpcikbnkaaGreatDoorW.PrintMore
set_option linter.unusedVariables false
set_option linter.unusedSimpArgs false
theorem dr_at (s:ByteArray) (i:Nat) (h:i < s.size):dr s i=s[i]'h :: dr s (i+1):=List.drop_eq_getElem_cons (by simpa using h)
theorem byte_of {s:ByteArray} {i:Nat} (h:i < s.size) (b:UInt8) (e:bt s i=(b.toNat:Int)):s[i]'h=b:=UInt8.toNat_inj.1 (by have:=bt_nat s i h;omega)
theorem nx_at {s:ByteArray} {i:Nat} (h:i < s.size):nx s i=((s[i]'h).toNat:Int):=by unfold nx;rw [if_pos h,bt_nat]
theorem ba_ext (s:ByteArray) (i k:Nat):s.extract i (i+k)=⟨((dr s i).take k).toArray⟩:=by
 apply ByteArray.ext
 apply Array.toList_inj.1
 rw [ByteArray.data_extract,Array.toList_extract,List.extract_eq_take_drop]
 show _=(dr s i).take k
 rw [show i+k - i=k from by omega]
 rfl
theorem ba_eta (s:ByteArray):(⟨s.data.toList.toArray⟩:ByteArray)=s:=by cases s;simp
def Qw (s:ByteArray) (p i:Nat) (x:List UInt8):Prop:=(∀ y e,Qt y (dr s i) e→Qt (x++y) (dr s p) e)∧(Qb (dr s i)→Qb (dr s p))
theorem qw_refl (s:ByteArray) (p:Nat):Qw s p p []:=⟨fun y e h=>h,fun h=>h⟩
theorem Qw.trans {s:ByteArray} {p i j:Nat} {x y:List UInt8} (h:Qw s p i x) (k:Qw s i j y):Qw s p j (x++y):=⟨fun z e q=>by rw [List.append_assoc];exact h.1 _ _ (k.1 _ _ q),fun q=>h.2 (k.2 q)⟩
theorem qw_plain {s:ByteArray} {i:Nat} (h:i < s.size) (hp:Pl (s[i]'h)):Qw s i (i+1) [s[i]'h]:=by
 unfold Qw
 rw [dr_at s i h]
 exact ⟨fun y e q=>.plain hp q,fun q=>.plain hp q⟩
theorem qw_many {s:ByteArray}:∀ (k i:Nat),i+k≤s.size→(∀ q:Nat,i≤q→q < i+k→128≤bt s q)→Qw s i (i+k) ((dr s i).take k):=by
 intro k
 induction k with
 | zero=>intro i _ _;exact qw_refl s i
 | succ k ih =>
   intro i hk hb
   have hi:i < s.size:=by omega
   have hp:Pl (s[i]'hi):=.inr (by have:=hb i (Nat.le_refl _) (by omega);rw [← bt_nat s i hi] at this;omega)
   have h:=(qw_plain hi hp).trans (ih (i+1) (by omega) (fun q h1 h2=>hb q (by omega) (by omega)))
   have e:(dr s i).take (k+1)=[s[i]'hi]++(dr s (i+1)).take k:=by rw [dr_at s i hi,List.take_succ_cons];rfl
   rw [e,show i+(k+1)=i+1+k from by omega]
   exact h
theorem es_of (c:UInt8):esI (c.toNat:Int)=es c:=by
 have k:∀ n:Fin 256,esI (n.val:Int)=es (UInt8.ofNat n.val):=by decide +kernel
 have h:=k ⟨c.toNat,c.toNat_lt⟩
 simpa using h
theorem qw_es1 {s:ByteArray} {i:Nat} {b:UInt8} (h:i < s.size) (h92:bt s i=92) (he:esI (nx s (i+1))=some b):i+2≤s.size∧Qw s i (i+2) [b]:=by
 have h1:i+1 < s.size:=nx_in s (i+1) (by intro e;rw [e,show esI 0=none from by decide] at he;cases he)
 rw [nx_at h1,es_of] at he
 refine ⟨h1,?_⟩
 unfold Qw
 rw [dr_at s i h,dr_at s (i+1) h1,byte_of h 92 h92]
 exact ⟨fun y e q=>.esc1 he q,fun q=>.esc1 he q⟩
theorem hxv_dg {c:Int} (h:0≤hxv c):Dg c∧hxv c=hx c:=by
 unfold hxv at *
 split at h
 ·rename_i hd;exact ⟨hd,if_pos hd⟩
 ·omega
theorem hxv_no {c:Int} (h:hxv c < 0):¬ Dg c:=by
 unfold hxv at h
 split at h
 ·rename_i hd;have:=hx_lo hd;omega
 ·assumption
theorem dg_in {s:ByteArray} {i:Nat} (h:Dg (nx s i)):i < s.size:=nx_in s i (by intro e;rw [e] at h;unfold Dg at h;omega)
theorem enc_eq {c:Int} (h0:0≤c) (h1:c < 65536) (hs:c < 55296∨57344≤c):(runesBytes [c]).data.toList=Go.Lib.encodeRune c:=by
 obtain ⟨n,rfl⟩:=Int.eq_ofNat_of_zero_le h0
 have hv:Utf8.valid (n:Int)=true:=by
  unfold Utf8.valid
  simp only [Bool.or_eq_true,Bool.and_eq_true,decide_eq_true_eq]
  omega
 have e:runesBytes [(n:Int)]=Utf8.encode (n:Int):=by
  unfold runesBytes
  simp only [List.foldl_cons,List.foldl_nil]
  apply ByteArray.ext
  rw [ByteArray.data_append]
  exact Array.empty_append
 rw [e]
 unfold Utf8.encode Go.Lib.encodeRune
 simp only [hv,if_true,Int.toNat_natCast]
 by_cases a1:n < 128
 ·rw [if_pos (by omega),Go.Lib.encodeRuneZ_one (by omega) (by omega)]
  rfl
 ·by_cases a2:n < 2048
  ·rw [if_neg (by omega),if_pos (by omega),Go.Lib.encodeRuneZ_two (by omega) (by omega)]
   simp only [List.map_cons,List.map_nil]
   rw [show ((192:Int)+(n:Int) / 64).toNat=192+n / 64 by omega,show ((128:Int)+(n:Int) % 64).toNat=128+n % 64 by omega]
  ·rw [if_neg (by omega),if_neg (by omega),if_pos (by omega),Go.Lib.encodeRuneZ_three (by omega)]
   simp only [List.map_cons,List.map_nil]
   rw [show ((224:Int)+(n:Int) / 4096).toNat=224+n / 4096 by omega,show ((128:Int)+(n:Int) / 64 % 64).toNat=128+n / 64 % 64 by omega,show ((128:Int)+(n:Int) % 64).toNat=128+n % 64 by omega]
theorem qw_esu {s:ByteArray} {i:Nat} (h:i < s.size) (h92:bt s i=92) (hu:nx s (i+1)=117) (hd:∀ j,j < 4→0≤hxv (nx s (i+2+j))) (hs:hn s (i+2) 4 < 55296∨57344≤hn s (i+2) 4):i+6≤s.size∧Qw s i (i+6) (runesBytes [hn s (i+2) 4]).data.toList:=by
 have h1:i+1 < s.size:=nx_in s (i+1) (by omega)
 obtain ⟨d0,e0_⟩:=hxv_dg (hd 0 (by omega))
 obtain ⟨d1,e1_⟩:=hxv_dg (hd 1 (by omega))
 obtain ⟨d2,e2_⟩:=hxv_dg (hd 2 (by omega))
 obtain ⟨d3,e3_⟩:=hxv_dg (hd 3 (by omega))
 have p0:=dg_in d0
 have p1:=dg_in d1
 have p2:=dg_in d2
 have p3:=dg_in d3
 have hu1:bt s (i+1:Nat)=117:=by rw [← hu];unfold nx;rw [if_pos h1]
 rw [nx_at p0] at d0 e0_
 rw [nx_at p1] at d1 e1_
 rw [nx_at p2] at d2 e2_
 rw [nx_at p3] at d3 e3_
 have hv:hn s (i+2) 4=ud (s[i+2+0]'p0) (s[i+2+1]'p1) (s[i+2+2]'p2) (s[i+2+3]'p3):=by
  unfold ud
  rw [uv_eq d0 d1 d2 d3]
  simp only [hn,nx_at p0,nx_at p1,nx_at p2,nx_at p3,e0_,e1_,e2_,e3_]
  omega
 have hl:0≤hn s (i+2) 4∧hn s (i+2) 4 < 65536:=by
  rw [hv];unfold ud;rw [uv_eq d0 d1 d2 d3]
  have:=hx_lo d0;have:=hx_lo d1;have:=hx_lo d2;have:=hx_lo d3
  omega
 refine ⟨p3,?_⟩
 rw [enc_eq hl.1 hl.2 hs,hv]
 unfold Qw
 rw [dr_at s i h,dr_at s (i+1) h1,dr_at s (i+2) p0,dr_at s (i+2+1) p1,dr_at s (i+2+2) p2,dr_at s (i+2+3) p3,byte_of h 92 h92,byte_of h1 117 hu1]
 exact ⟨fun y e q=>.escu ⟨d0,d1,d2,d3⟩ q,fun q=>.escu ⟨d0,d1,d2,d3⟩ q⟩
theorem dg4_nx {s:ByteArray} {p:Nat} (h:Dg4 (dr s p)) (j:Nat) (hj:j < 4):Dg (nx s (p+j)):=by
 generalize hr:dr s p=r at h
 match r,h,hr with
 | a :: b :: c :: d :: e,h,hr =>
   obtain ⟨q1,q2,q3⟩:=dr_cons s p _ _ hr
   obtain ⟨s1,s2,s3⟩:=dr_cons s (p+1) _ _ q3
   obtain ⟨u1,u2,u3⟩:=dr_cons s (p+1+1) _ _ s3
   obtain ⟨v1,v2,v3⟩:=dr_cons s (p+1+1+1) _ _ u3
   obtain ⟨h1,h2,h3,h4⟩:=h
   match j,hj with
   | 0,_=>unfold nx;rw [if_pos (by omega)];show Dg (bt s (p:Nat));rw [q2];exact h1
   | 1,_=>unfold nx;rw [if_pos (by omega)];show Dg (bt s (p+1:Nat));rw [s2];exact h2
   | 2,_=>unfold nx;rw [if_pos (by omega)];show Dg (bt s (p+1+1:Nat));rw [u2];exact h3
   | 3,_=>unfold nx;rw [if_pos (by omega)];show Dg (bt s (p+1+1+1:Nat));rw [v2];exact h4
   | (n+4),hj=>exact absurd hj (by omega)
theorem qb_esc {s:ByteArray} {i:Nat} (h:i < s.size) (h92:bt s i=92) (hn0:esI (nx s (i+1))=none) (hc:nx s (i+1)≠117∨∃ k,k < 4∧(∀ j,j < k→0≤hxv (nx s (i+2+j)))∧hxv (nx s (i+2+k)) < 0):Qb (dr s i):=by
 rw [dr_at s i h,byte_of h 92 h92]
 by_cases h1:i+1 < s.size
 ·rw [dr_at s (i+1) h1]
  rw [nx_at h1,es_of] at hn0
  by_cases hu:s[i+1]'h1=117
  ·rw [hu]
   refine .badu fun h4=>?_
   rcases hc with hc | ⟨k,k4,_,k2⟩
   ·exact hc (by rw [nx_at h1,hu];rfl)
   ·exact hxv_no k2 (dg4_nx h4 k k4)
  ·exact .bade hn0 hu
 ·have:dr s (i+1)=[]:=List.drop_eq_nil_of_le (by simp;omega)
  rw [this]
  exact .back
theorem qb_ctl {s:ByteArray} {i:Nat} (h:i < s.size) (h1:bt s i < 32) (h2:bt s i≠9):Qb (dr s i):=by
 rw [dr_at s i h]
 exact .ctl (by have:=bt_nat s i h;omega) (by have:=bt_nat s i h;omega)
theorem dr_out {s:ByteArray} {i:Nat} (h:s.size≤i):dr s i=[]:=List.drop_eq_nil_of_le (by simpa using h)
theorem qb_fin {s:ByteArray} {i:Nat} (h:s.size≤i):Qb (dr s i):=by rw [dr_out h];exact .fin
theorem qt_end {s:ByteArray} {i:Nat} (h:i < s.size) (h1:bt s i=34):Qt [] (dr s i) (dr s (i+1)):=by
 rw [dr_at s i h,byte_of h 34 h1];exact .done
def Bw (s:ByteArray) (p i:Nat) (x:List UInt8):Prop:=(∀ y e,Bk y (dr s i) e→Bk (x++y) (dr s p) e)∧(Bb (dr s i)→Bb (dr s p))
theorem bw_refl (s:ByteArray) (p:Nat):Bw s p p []:=⟨fun y e h=>h,fun h=>h⟩
theorem Bw.trans {s:ByteArray} {p i j:Nat} {x y:List UInt8} (h:Bw s p i x) (k:Bw s i j y):Bw s p j (x++y):=⟨fun z e q=>by rw [List.append_assoc];exact h.1 _ _ (k.1 _ _ q),fun q=>h.2 (k.2 q)⟩
theorem bw_byte {s:ByteArray} {i:Nat} (h:i < s.size) (h1:tri (dr s i)=false) (h2:etri (dr s i)=false) (hp:Bl (s[i]'h)):Bw s i (i+1) [s[i]'h]:=by
 unfold Bw
 rw [dr_at s i h] at *
 exact ⟨fun y e q=>.byte h1 h2 hp q,fun q=>.byte h1 h2 hp q⟩
theorem tri_take (l:List UInt8):tri l=true ↔ l.take 3=[34,34,34]:=by
 unfold tri
 split
 ·simp
 ·rename_i h
  refine ⟨fun h=>(by cases h),fun h2=>?_⟩
  match l,h,h2 with
  | a :: b :: c :: r,h,h2 =>
    simp only [List.take_succ_cons,List.take_zero,List.cons.injEq,and_true] at h2
    obtain ⟨rfl,rfl,rfl⟩:=h2
    exact absurd rfl (h r)
theorem etri_take (l:List UInt8):etri l=true ↔ l.take 4=[92,34,34,34]:=by
 unfold etri
 split
 ·simp
 ·rename_i h
  refine ⟨fun h=>(by cases h),fun h2=>?_⟩
  match l,h,h2 with
  | a :: b :: c :: d :: r,h,h2 =>
    simp only [List.take_succ_cons,List.take_zero,List.cons.injEq,and_true] at h2
    obtain ⟨rfl,rfl,rfl,rfl⟩:=h2
    exact absurd rfl (h r)
theorem stB_iff (s t:ByteArray) (i:Nat) (ht:0 < t.size):stB s i t=true ↔ (dr s i).take t.size=t.data.toList:=by
 unfold stB
 rw [Bool.and_eq_true,decide_eq_true_iff,beq_iff_eq,ByteArray.toList_eq,ByteArray.toList_eq,ba_ext]
 constructor
 ·intro h;exact h.2
 ·intro h
  refine ⟨?_,h⟩
  have hl:=congrArg List.length h
  have h3:(dr s i).length=s.size - i:=dr_end s i
  rw [List.length_take,h3,show t.data.toList.length=t.size from by simp] at hl
  omega
theorem stB_tri (s:ByteArray) (i:Nat):stB s i ⟨#[34,34,34]⟩=tri (dr s i):=by
 rw [Bool.eq_iff_iff,stB_iff _ _ _ (by decide),tri_take];rfl
theorem stB_etri (s:ByteArray) (i:Nat):stB s i ⟨#[92,34,34,34]⟩=etri (dr s i):=by
 rw [Bool.eq_iff_iff,stB_iff _ _ _ (by decide),etri_take];rfl
theorem tri_form {l:List UInt8} (h:tri l=true):∃ e,l=34 :: 34 :: 34 :: e:=by
 unfold tri at h
 split at h
 ·exact ⟨_,rfl⟩
 ·cases h
theorem etri_form {l:List UInt8} (h:etri l=true):∃ e,l=92 :: 34 :: 34 :: 34 :: e:=by
 unfold etri at h
 split at h
 ·exact ⟨_,rfl⟩
 ·cases h
theorem tri_head {s:ByteArray} {i:Nat} (h:tri (dr s i)=true):i+3≤s.size∧bt s i=34:=by
 obtain ⟨e,hr⟩:=tri_form h
 obtain ⟨q1,q2,q3⟩:=dr_cons s i _ _ hr
 obtain ⟨s1,s2,s3⟩:=dr_cons s (i+1) _ _ q3
 obtain ⟨u1,u2,u3⟩:=dr_cons s (i+1+1) _ _ s3
 exact ⟨by omega,q2⟩
theorem etri_head {s:ByteArray} {i:Nat} (h:etri (dr s i)=true):i+4≤s.size∧bt s i=92:=by
 obtain ⟨e,hr⟩:=etri_form h
 obtain ⟨q1,q2,q3⟩:=dr_cons s i _ _ hr
 obtain ⟨s1,s2,s3⟩:=dr_cons s (i+1) _ _ q3
 obtain ⟨u1,u2,u3⟩:=dr_cons s (i+1+1) _ _ s3
 obtain ⟨v1,v2,v3⟩:=dr_cons s (i+1+1+1) _ _ u3
 exact ⟨by omega,q2⟩
theorem tri_hi {s:ByteArray} {i:Nat} (h:128≤bt s i):tri (dr s i)=false∧etri (dr s i)=false:=by
 constructor
 ·cases e:tri (dr s i)
  ·rfl
  ·have:=(tri_head e).2;omega
 ·cases e:etri (dr s i)
  ·rfl
  ·have:=(etri_head e).2;omega
theorem bw_many {s:ByteArray}:∀ (k i:Nat),i+k≤s.size→(∀ q:Nat,i≤q→q < i+k→128≤bt s q)→Bw s i (i+k) ((dr s i).take k):=by
 intro k
 induction k with
 | zero=>intro i _ _;exact bw_refl s i
 | succ k ih =>
   intro i hk hb
   have hi:i < s.size:=by omega
   have h0:=hb i (Nat.le_refl _) (by omega)
   have hp:Bl (s[i]'hi):=.inl (by rw [← bt_nat s i hi] at h0;omega)
   have h:=(bw_byte hi (tri_hi h0).1 (tri_hi h0).2 hp).trans (ih (i+1) (by omega) (fun q h1 h2=>hb q (by omega) (by omega)))
   have e:(dr s i).take (k+1)=[s[i]'hi]++(dr s (i+1)).take k:=by rw [dr_at s i hi,List.take_succ_cons];rfl
   rw [e,show i+(k+1)=i+1+k from by omega]
   exact h
theorem bb_fin {s:ByteArray} {i:Nat} (h:s.size≤i):Bb (dr s i):=by rw [dr_out h];exact .fin
theorem bb_ctl {s:ByteArray} {i:Nat} (h:i < s.size) (h1:bt s i < 32) (h2:bt s i≠9∧bt s i≠10∧bt s i≠13):Bb (dr s i):=by
 rw [dr_at s i h]
 refine .ctl fun hb=>?_
 have:=bt_nat s i h
 unfold Bl at hb
 omega
theorem bk_end {s:ByteArray} {i:Nat} (h:tri (dr s i)=true):Bk [] (dr s i) (dr s (i+3)):=by
 obtain ⟨e,hr⟩:=tri_form h
 obtain ⟨q1,q2,q3⟩:=dr_cons s i _ _ hr
 obtain ⟨s1,s2,s3⟩:=dr_cons s (i+1) _ _ q3
 obtain ⟨u1,u2,u3⟩:=dr_cons s (i+1+1) _ _ s3
 rw [show i+3=i+1+1+1 from rfl,u3,hr]
 exact .done
theorem pt_quotes {s:ByteArray} {i:Nat} {c n:Int} (hi:i < s.size) (h:PtR s i c n) (hn:n≠0) (hq:bt s i≠34) (hb:bt s i≠92) (hl:bt s i≠10∧bt s i≠13) :
 ((c=9∨c=10∨c=13∨32≤c)∧∃ m:Nat,n=m∧1≤m∧i+m≤s.size∧Qw s i (i+m) ((dr s i).take m))∨(¬ (c=9∨c=10∨c=13∨32≤c)∧Qb (dr s i)):=by
 rcases h with h | ⟨h1,h2,h3⟩ | ⟨m,h1,h2,h3,h4,h5⟩
 ·exact absurd h hn
 ·by_cases hc:c=9∨c=10∨c=13∨32≤c
  ·refine .inl ⟨hc,1,by omega,Nat.le_refl _,hi,?_⟩
   have e:(dr s i).take 1=[s[i]'hi]:=by rw [dr_at s i hi,List.take_succ_cons,List.take_zero]
   rw [e]
   refine qw_plain hi ?_
   have:=bt_nat s i hi
   unfold Pl
   omega
  ·exact .inr ⟨hc,qb_ctl hi (by omega) (by omega)⟩
 ·exact .inl ⟨by omega,m,h1,by omega,h3,qw_many m i h3 h5⟩
theorem pt_block {s:ByteArray} {i:Nat} {c n:Int} (hi:i < s.size) (h:PtR s i c n) (hn:n≠0) (hq:tri (dr s i)=false) (hb:etri (dr s i)=false) :
 ((c=9∨c=10∨c=13∨32≤c)∧∃ m:Nat,n=m∧1≤m∧i+m≤s.size∧Bw s i (i+m) ((dr s i).take m))∨(¬ (c=9∨c=10∨c=13∨32≤c)∧Bb (dr s i)):=by
 rcases h with h | ⟨h1,h2,h3⟩ | ⟨m,h1,h2,h3,h4,h5⟩
 ·exact absurd h hn
 ·by_cases hc:c=9∨c=10∨c=13∨32≤c
  ·refine .inl ⟨hc,1,by omega,Nat.le_refl _,hi,?_⟩
   have e:(dr s i).take 1=[s[i]'hi]:=by rw [dr_at s i hi,List.take_succ_cons,List.take_zero]
   rw [e]
   refine bw_byte hi hq hb ?_
   have:=bt_nat s i hi
   unfold Bl
   omega
  ·exact .inr ⟨hc,bb_ctl hi (by omega) (by omega)⟩
 ·exact .inl ⟨by omega,m,h1,by omega,h3,bw_many m i h3 h5⟩
theorem tk_str {a z:Int} {v:ByteArray}:TkOk ⟨18,a,z,v⟩:=⟨(show (18:Int)≠1 by decide),fun _=>.inr (.inl rfl)⟩
theorem tk_blk {a z:Int} {v:ByteArray}:TkOk ⟨19,a,z,v⟩:=⟨(show (19:Int)≠1 by decide),fun _=>.inr (.inr rfl)⟩
theorem lexes_sc {BV:List UInt8→ByteArray→Prop} {s:ByteArray} {p q:Nat} (h:Sc s false p=Sc s false q) {l:List Tk} (k:Lexes BV s q l):Lexes BV s p l:=by
 cases k with
 | fin h1 h2=>exact .fin (h.trans h1) h2
 | tok h1 h2 h3 h4=>exact .tok (h.trans h1) h2 h3 h4
 | bad h1 h2 h3=>exact .bad (h.trans h1) h2 h3
def Tn (BV:List UInt8→ByteArray→Prop) (s:ByteArray) (t t':LS):Prop :=
 (t.un=true→t'.un=true)∧t.a≤t'.a∧(t'.bad=true∨t.a < t'.a) ∧
 (t'.un=true∨(t'.bad=true∧t'.out=t.out∧Lexes BV s t.a [])∨(t'.bad=false∧∃ ks,t'.out=t.out++ks∧∀ l,Lexes BV s t'.a l→Lexes BV s t.a (ks++l)))
theorem tn_of {BV:List UInt8→ByteArray→Prop} {s:ByteArray} {t t':LS} (h:TR BV s t t') (hs:Sc s false t.a=some t.a) (ha:t.a < s.size):Tn BV s t t':=by
 obtain ⟨h1,h2,h3,h4⟩:=h
 refine ⟨h1,h2,h3,?_⟩
 rcases h4 with h | ⟨h5,h6,h7⟩ | ⟨h5,k,h6,h7⟩
 ·exact .inl h
 ·exact .inr (.inl ⟨h5,h6,.bad hs ha h7⟩)
 ·exact .inr (.inr ⟨h5,[k],h7,fun l hl=>.tok hs ha h6 hl⟩)
theorem tn_skip {BV:List UInt8→ByteArray→Prop} {s:ByteArray} {t t':LS} (hu:t.un=true→t'.un=true) (ha:t.a < t'.a) (h:t'.un=true∨(t'.bad=false∧t'.out=t.out∧Sc s false t.a=Sc s false t'.a)):Tn BV s t t':=by
 refine ⟨hu,Nat.le_of_lt ha,.inr ha,?_⟩
 rcases h with h | ⟨h1,h2,h3⟩
 ·exact .inl h
 ·exact .inr (.inr ⟨h1,[],by rw [h2,List.append_nil],fun l hl=>lexes_sc h3 hl⟩)
abbrev eofT (s:ByteArray):Tk:=⟨1,s.size,s.size,e0⟩
def Lw (BV:List UInt8→ByteArray→Prop) (s:ByteArray) (t:LS):Prop :=
 t.un=true∨(t.bad=true∧Lexes BV s 0 t.out)∨(t.bad=false∧∀ l,Lexes BV s t.a l→Lexes BV s 0 (t.out++l))
theorem lw_zero {BV:List UInt8→ByteArray→Prop} (s:ByteArray):Lw BV s ⟨0,[],false,false⟩:=.inr (.inr ⟨rfl,fun l h=>h⟩)
theorem Lw.step {BV:List UInt8→ByteArray→Prop} {s:ByteArray} {t t':LS} (h:Lw BV s t) (hb:t.bad=false) (k:Tn BV s t t'):Lw BV s t':=by
 obtain ⟨k1,k2,k3,k4⟩:=k
 rcases h with h | ⟨h1,_⟩ | ⟨h1,h2⟩
 ·exact .inl (k1 h)
 ·rw [hb] at h1;cases h1
 ·rcases k4 with k | ⟨k5,k6,k7⟩ | ⟨k5,ks,k6,k7⟩
  ·exact .inl k
  ·exact .inr (.inl ⟨k5,by have:=h2 _ k7;rw [List.append_nil] at this;rw [k6];exact this⟩)
  ·exact .inr (.inr ⟨k5,fun l hl=>by rw [k6,List.append_assoc];exact h2 _ (k7 l hl)⟩)
theorem lw_end {BV:List UInt8→ByteArray→Prop} {s:ByteArray} {t:LS} (h:Lw BV s t) (hl:t.a≤s.size) (he:t.bad=true∨s.size≤t.a):t.un=true∨Lexes BV s 0 (t.out++(if t.bad=true then [] else [eofT s])):=by
 rcases h with h | ⟨h1,h2⟩ | ⟨h1,h2⟩
 ·exact .inl h
 ·refine .inr ?_
  rw [if_pos h1,List.append_nil];exact h2
 ·refine .inr ?_
  rw [if_neg (by rw [h1];decide)]
  refine h2 _ ?_
  have e:t.a=s.size:=by
   rcases he with he | he
   ·rw [h1] at he;cases he
   ·omega
  rw [e]
  exact .fin (sc_end s false) (Nat.le_refl _)
def Cw (s:ByteArray) (p i:Nat):Prop:=Sc s true p=Sc s true i
theorem cw_step {s:ByteArray} {p i:Nat} {c n:Int} (h:Cw s p i) (hi:i < s.size) (hl:bt s i≠10∧bt s i≠13) (hp:PtR s i c n) (hn:n≠0) :
 ∃ m:Nat,n=m∧1≤m∧i+m≤s.size∧(¬ (c=9∨c=10∨c=13∨32≤c)∨128≤c∨Cw s p (i+m)):=by
 rcases hp with h0 | ⟨h1,h2,h3⟩ | ⟨m,h1,h2,h3,h4,h5⟩
 ·exact absurd h0 hn
 ·refine ⟨1,h1,Nat.le_refl _,hi,?_⟩
  by_cases hc:c=9∨c=10∨c=13∨32≤c
  ·refine .inr (.inr ?_)
   unfold Cw at *
   rw [h,sc_t s i hi,if_neg (by omega),if_neg (by omega)]
  ·exact .inl hc
 ·exact ⟨m,h1,by omega,h3,.inr (.inl h4)⟩
theorem cw_end {s:ByteArray} {p i:Nat} (h:Cw s p i) (hi:i≤s.size) (he:s.size≤i∨bt s i=10∨bt s i=13):Sc s true p=Sc s false i:=by
 unfold Cw at h
 rw [h]
 rcases he with he | he
 ·have e:i=s.size:=by omega
  rw [e,sc_end,sc_end]
 ·by_cases h2:i < s.size
  ·exact sc_nl s i h2 he
  ·have e:i=s.size:=by omega
   rw [e,sc_end,sc_end]
theorem sc_hash {s:ByteArray} {p:Nat} (h:p < s.size) (hc:bt s p=35):Sc s false p=Sc s true p:=by
 rw [sc_f s p h,sc_t s p h,if_neg (by rw [hc];decide),if_pos hc,if_neg (by omega),if_neg (by omega)]
theorem sc_blank {s:ByteArray} {p:Nat} (h:p < s.size) (hc:isBl (bt s p)=true):Sc s false p=Sc s false (p+1):=by
 rw [sc_f s p h,if_pos hc]
theorem sc_self {s:ByteArray} {p:Nat} (h:p < s.size) (hc:isBl (bt s p)=false) (hh:bt s p≠35) (hb:bomAt s p=false):Sc s false p=some p:=by
 rw [sc_f s p h,if_neg (by rw [hc];decide),if_neg hh,if_neg (by rw [hb];decide)]
theorem stB_dots (s:ByteArray) (i:Nat):stB s i ⟨#[46,46,46]⟩=true ↔ (i+2 < s.size∧bt s i=46∧bt s (i+1:Nat)=46∧bt s (i+2:Nat)=46):=by
 rw [stB_iff _ _ _ (by decide)]
 constructor
 ·intro h
  have h:(dr s i).take 3=[46,46,46]:=h
  generalize hr:dr s i=r at h
  match r,h,hr with
  | a :: b :: c :: e,h,hr =>
    simp only [List.take_succ_cons,List.take_zero,List.cons.injEq,and_true] at h
    obtain ⟨rfl,rfl,rfl⟩:=h
    obtain ⟨q1,q2,q3⟩:=dr_cons s i _ _ hr
    obtain ⟨s1,s2,s3⟩:=dr_cons s (i+1) _ _ q3
    obtain ⟨u1,u2,u3⟩:=dr_cons s (i+1+1) _ _ s3
    exact ⟨u1,q2,s2,u2⟩
 ·rintro ⟨h1,h2,h3,h4⟩
  show (dr s i).take 3=[46,46,46]
  rw [dr_at s i (by omega),dr_at s (i+1) (by omega),dr_at s (i+2) h1,byte_of (by omega) 46 h2,byte_of (by omega) 46 h3,byte_of h1 46 h4]
  rfl
def TxR (C:LC) (t:LS) (w:World) (i:Nat) (o:ByteArray) (un:Bool) (wr:World):Prop :=
 LX C wr ⟨t.a,t.out,t.bad,un⟩∧Below C.B w wr∧(t.un=true→un=true)∧(un=true∨Qw C.s (t.a+1) i o.data.toList)∧t.a < i∧i≤C.s.size∧o.size≤i
def TxH (C:LC) (t:LS):Prop:=t.bad=false∧t.a < C.s.size∧bt C.s t.a=34∧tri (dr C.s t.a)=false
theorem TxR.lx {C:LC} {t:LS} {w:World} {i:Nat} {o:ByteArray} {un:Bool} {wr:World} (h:TxR C t w i o un wr):LX C wr ⟨t.a,t.out,t.bad,un⟩:=h.1
theorem TxR.sz {C:LC} {t:LS} {w:World} {i:Nat} {o:ByteArray} {un:Bool} {wr:World} (h:TxR C t w i o un wr):o.size≤i:=h.2.2.2.2.2.2
theorem TxR.lt {C:LC} {t:LS} {w:World} {i:Nat} {o:ByteArray} {un:Bool} {wr:World} (h:TxR C t w i o un wr):t.a < i:=h.2.2.2.2.1
theorem tx_fail {BV:List UInt8→ByteArray→Prop} {C:LC} {t:LS} {w wr w':World} {i:Nat} {o:ByteArray} {un un':Bool} (H:TxH C t) (h:TxR C t w i o un wr) (hun:un=true→un'=true) (hq:un'=true∨Qb (dr C.s i)) (hl:LX C w' ⟨t.a,t.out,true,un'⟩) (hb:Below C.B wr w'):LP BV C t w (.returned (.tuple #[])) w':=by
 obtain ⟨h1,h2,h3,h4,h5,h6⟩:=h
 refine ⟨rfl,_,hl,h2.trans hb,fun e=>hun (h3 e),Nat.le_refl _,.inl rfl,?_⟩
 cases un' with
 | true=>exact .inl rfl
 | false =>
   rcases hq with hq | hq
   ·cases hq
   rcases h4 with h4 | h4
   ·exact .inl (hun h4)
   ·exact .inr (.inl ⟨rfl,rfl,.str H.2.1 H.2.2.1 H.2.2.2 (h4.2 hq)⟩)
theorem tx_done {BV:List UInt8→ByteArray→Prop} {C:LC} {t:LS} {w wr w':World} {i:Nat} {o:ByteArray} {un:Bool} (H:TxH C t) (h:TxR C t w i o un wr) (hi:i < C.s.size) (h34:bt C.s i=34) (hl:LX C w' ⟨i+1,t.out++[⟨18,t.a,(i+1:Nat),o⟩],t.bad,un⟩) (hb:Below C.B wr w'):LP BV C t w (.returned (.tuple #[])) w':=by
 obtain ⟨h1,h2,h3,h4,h5,h6⟩:=h
 refine ⟨rfl,_,hl,h2.trans hb,fun e=>h3 e,by show t.a≤i+1;omega,.inr (by show t.a < i+1;omega),?_⟩
 rcases h4 with h4 | h4
 ·exact .inl h4
 ·have hk:=h4.1 _ _ (qt_end hi h34)
  rw [List.append_nil] at hk
  refine .inr (.inr ⟨H.1,_,.str H.2.1 H.2.2.1 H.2.2.2 hk hi,?_⟩)
  show t.out++_=t.out++_
  rw [ba_eta]
theorem tx_next {C:LC} {t:LS} {w wr w':World} {i j:Nat} {o v:ByteArray} {un un':Bool} (h:TxR C t w i o un wr) (hun:un=true→un'=true) (hj:i < j∧j≤C.s.size) (hs:v.size≤j - i) (hq:un'=true∨Qw C.s i j v.data.toList) (hl:LX C w' ⟨t.a,t.out,t.bad,un'⟩) (hb:Below C.B wr w'):TxR C t w j (o++v) un' w':=by
 obtain ⟨h1,h2,h3,h4,h5,h6,h7⟩:=h
 refine ⟨hl,h2.trans hb,fun e=>hun (h3 e),?_,by omega,hj.2,by rw [ByteArray.size_append];omega⟩
 rcases hq with hq | hq
 ·exact .inl hq
 rcases h4 with h4 | h4
 ·exact .inl (hun h4)
 ·refine .inr ?_
  rw [show (o++v).data.toList=o.data.toList++v.data.toList from by simp]
  exact h4.trans hq
theorem ext_list (s:ByteArray) (i m:Nat):(s.extract i (i+m)).data.toList=(dr s i).take m:=by rw [ba_ext]
theorem ltext_walk {BV:List UInt8→ByteArray→Prop} {C:LC} {w:World} {t:LS} (h:LX C w t) (H:TxH C t):Calls Tryz.prog 74 #[ptr C.gx] w (LP BV C t w):=by
 have HP:=mkA h
 have SZ:=mkA h.sz
 have HH:=mkA H
 have c1:=h.c.2.1
 have W1:wrap64 ((t.a:Int)+1)=((t.a+1:Nat):Int):=by have:=SZ.out;have:=h.le;exact (w64 (by omega) (by omega)).trans (by omega)
 obtain ⟨i1,h1⟩:∃ i1:Nat,i1=t.a+1:=⟨_,rfl⟩
 rw [← h1] at W1
 have H1:=mkA h1
 clear h H h1
 go_enter Tryz.func74,Tryz.ntmps74
 go_wp2
 go_loopw [2,3] (fun v2 v3 wr=>∃ (i:Nat) (o:ByteArray) (un:Bool),v2=.string o∧v3=.int .i64 i∧Aside0 (TxR C t w i o un wr)) (fun _ v3 _=>C.s.size - (intOf v3).toNat)
 case atStart=>exact ⟨i1,⟨#[]⟩,t.un,rfl,by first | rfl | exact congrArg (Value.int .i64) W1,⟨HP.out,Below.refl _ _,fun x=>x,.inr (by rw [H1.out];exact qw_refl _ _),by have:=H1.out;omega,by have:=H1.out;have:=HH.out.2.1;omega,Nat.zero_le _⟩⟩
 case round =>
  obtain ⟨i,o,un,rfl,rfl,HR⟩:=hrel
  clear c1 W1 H1
  have c0:=HR.out.lx.c.1
  by_cases hi:i < C.s.size
  case neg =>
   have q1:((i:Int) < (C.s.size:Int))=False:=eq_false (by omega)
   have q2:(i < C.s.size)=False:=eq_false hi
   have HE:=mkA (Nat.le_of_not_lt hi)
   clear hi
   go_wp2_with (first
    | (go_at_call 75;(with_reducible refine (lfail_walk HR.out.lx).mono ?_);rintro e w_ ⟨rfl,hP,hF⟩;have HP2:=mkA hP;have HF2:=mkA hF;clear hP hF))
   go_end0
   exact tx_fail HH.out HR.out (fun x=>x) (.inr (qb_fin HE.out)) HP2.out HF2.out
  case pos =>
   have q1:((i:Int) < (C.s.size:Int))=True:=eq_true (by omega)
   have q2:(i < C.s.size)=True:=eq_true hi
   have hbt:=bt_nat C.s i hi
   obtain ⟨b,hbv⟩:∃ b,b=bt C.s i:=⟨_,rfl⟩
   rw [← hbv] at hbt
   have HB:=mkA hbv
   have HI:=mkA hi
   have W2:wrap64 ((i:Int)+1)=((i+1:Nat):Int):=by have:=SZ.out;exact (w64 (by omega) (by omega)).trans (by omega)
   obtain ⟨j1,hj1⟩:∃ j1:Nat,j1=i+1:=⟨_,rfl⟩
   rw [← hj1] at W2
   have HJ1:=mkA hj1
   clear hbv hj1
   by_cases b34:b=34
   case pos =>
    have p1:(b == 34)=true:=beq_iff_eq.2 b34
    have H34:=mkA (show bt C.s i=34 from HB.out.symm.trans b34)
    clear b34
    go_wp2_with (first
     | (go_at_call 67;(with_reducible refine (add_walk HR.out.lx 18 j1 o (by have:=HJ1.out;have:=HR.out.lt;exact (show t.a < j1 by omega)) (by have:=HJ1.out;have:=HI.out;omega) tk_str).mono ?_);rintro e w_ ⟨rfl,hP,hF⟩;have HP2:=mkA hP;have HF2:=mkA hF;clear hP hF))
    go_end0
    exact tx_done HH.out HR.out HI.out H34.out (by rw [← HJ1.out];exact HP2.out) HF2.out
   case neg =>
   have p34:(b == 34)=false:=beq_eq_false_iff_ne.mpr b34
   have H34:=mkA (show bt C.s i≠34 by rw [← HB.out];exact b34)
   clear b34
   by_cases bnl:b=10∨b=13
   case pos =>
    have HQ:=mkA (show Qb (dr C.s i) from qb_ctl HI.out (by have:=HB.out;omega) (by have:=HB.out;omega))
    have bnl2:(b == 10)=true∨((b == 10)=false∧(b == 13)=true):=by
     rcases bnl with h | h
     ·exact .inl (by rw [h];rfl)
     ·exact .inr ⟨by rw [h];rfl,by rw [h];rfl⟩
    clear bnl
    rcases bnl2 with p1 | ⟨p1,p2⟩
    all_goals
     go_wp2_with (first
      | (go_at_call 75;(with_reducible refine (lfail_walk HR.out.lx).mono ?_);rintro e w_ ⟨rfl,hP,hF⟩;have HP2:=mkA hP;have HF2:=mkA hF;clear hP hF))
     go_end0
     exact tx_fail HH.out HR.out (fun x=>x) (.inr HQ.out) HP2.out HF2.out
   case neg =>
   have p10:(b == 10)=false:=beq_eq_false_iff_ne.mpr (fun h=>bnl (.inl h))
   have p13:(b == 13)=false:=beq_eq_false_iff_ne.mpr (fun h=>bnl (.inr h))
   have HNL:=mkA (show bt C.s i≠10∧bt C.s i≠13 by rw [← HB.out];omega)
   clear bnl
   by_cases b92:b=92
   case pos =>
    have p1:(b == 92)=true:=beq_iff_eq.2 b92
    have H92:=mkA (show bt C.s i=92 from HB.out.symm.trans b92)
    clear b92
    go_upto_region 17 with (first
     | (go_at_call 95;(with_reducible refine (escape_walk HR.out.lx i HI.out).mono ?_);rintro e w1 ⟨v,n,un1,rfl,hP,hF,hu,hr⟩;have HP1:=mkA hP;have HF1:=mkA hF;have HU1:=mkA hu;have HR1:=mkA hr;clear hP hF hu hr))
    have hr:=HR1.out
    rcases hr with ⟨hn,hr⟩ | ⟨hn,bb,hr,hv⟩ | ⟨hn,hu,hd,hv,hs⟩
    ·subst hn
     have HQ:=mkA (show un1=true∨Qb (dr C.s i) from hr.imp id (fun x=>qb_esc HI.out H92.out x.1 x.2))
     clear hr
     go_wp2_with (first
      | (go_at_call 75;(with_reducible refine (lfail_walk HP1.out).mono ?_);rintro e w_ ⟨rfl,hP,hF⟩;have HP2:=mkA hP;have HF2:=mkA hF;clear hP hF))
     go_end0
     exact tx_fail HH.out HR.out HU1.out HQ.out HP2.out (HF1.out.trans HF2.out)
    ·subst hn
     obtain ⟨hz,hq⟩:=qw_es1 HI.out H92.out hr
     have HQ:=mkA hq
     have HZ:=mkA hz
     have HV:=mkA hv
     have W3:wrap64 ((i:Int)+2)=((i+2:Nat):Int):=by have:=SZ.out;exact (w64 (by omega) (by omega)).trans (by omega)
     obtain ⟨j2,hj2⟩:∃ j2:Nat,j2=i+2:=⟨_,rfl⟩
     rw [← hj2] at W3
     have HJ2:=mkA hj2
     have hvs:v.size=1:=by rw [hv];rfl
     have HVS:=mkA (show v.size≤j2 - i by omega)
     have z1:(9223372036854775807 < o.size+v.size)=False:=eq_false (by have:=HR.out.sz;have:=HI.out;have:=SZ.out;omega)
     clear hr hz hq hv hj2 hvs
     go_wp2
     go_roundw
     case rel=>exact ⟨j2,o++v,un1,rfl,congrArg (Value.int .i64) W3,⟨tx_next HR.out HU1.out (by have:=HJ2.out;have:=HZ.out;omega) HVS.out (.inr (by rw [HJ2.out,HV.out];exact HQ.out)) HP1.out HF1.out⟩⟩
     case measure=>rw [W3];have:=HJ2.out;have:=HI.out;simp only [intOf];omega
    ·subst hn
     obtain ⟨hz,hq⟩:=qw_esu HI.out H92.out hu hd hs
     have HQ:=mkA hq
     have HZ:=mkA hz
     have HV:=mkA hv
     have W3:wrap64 ((i:Int)+6)=((i+6:Nat):Int):=by have:=SZ.out;exact (w64 (by omega) (by omega)).trans (by omega)
     obtain ⟨j2,hj2⟩:∃ j2:Nat,j2=i+6:=⟨_,rfl⟩
     rw [← hj2] at W3
     have HJ2:=mkA hj2
     have hvs:v.size≤4:=by rw [hv];exact runesBytes_size_le _
     have HVS:=mkA (show v.size≤j2 - i by omega)
     have z1:(9223372036854775807 < o.size+v.size)=False:=eq_false (by have:=HR.out.sz;have:=HI.out;have:=SZ.out;omega)
     clear hu hd hs hz hq hv hj2 hvs
     go_wp2
     go_roundw
     case rel=>exact ⟨j2,o++v,un1,rfl,congrArg (Value.int .i64) W3,⟨tx_next HR.out HU1.out (by have:=HJ2.out;have:=HZ.out;omega) HVS.out (.inr (by rw [HJ2.out,HV.out];exact HQ.out)) HP1.out HF1.out⟩⟩
     case measure=>rw [W3];have:=HJ2.out;have:=HI.out;simp only [intOf];omega
   case neg =>
    have p92:(b == 92)=false:=beq_eq_false_iff_ne.mpr b92
    have H92:=mkA (show bt C.s i≠92 by rw [← HB.out];exact b92)
    clear b92
    have HPt:=mkA (ptF_ok C.s i)
    have HP0:=mkA (point_d C.s i HI.out SZ.out wr)
    obtain ⟨c,hc⟩:∃ c,c=(ptF C.s i).1:=⟨_,rfl⟩
    obtain ⟨n,hn⟩:∃ n,n=(ptF C.s i).2:=⟨_,rfl⟩
    rw [← hc,← hn] at HPt HP0
    have HS0:=mkA (source_q c wr)
    obtain ⟨is,his⟩:∃ is,is=decide (c=9∨c=10∨c=13∨32≤c):=⟨_,rfl⟩
    obtain ⟨su,hsu⟩:∃ su,su=decide (c≤65535):=⟨_,rfl⟩
    rw [← his,← hsu] at HS0
    have HIS:=mkA his
    clear hc hn his hsu
    go_upto_region 6 with (first
     | (go_at_call 33;(with_reducible refine HP0.out.mono ?_);rintro e w_ ⟨rfl,hw_⟩;subst w_)
     | (go_at_call 91;(with_reducible refine HS0.out.mono ?_);rintro e w_ ⟨rfl,hw_⟩;subst w_))
    have c4:=HR.out.lx.c.2.2.2
    have f4:=HR.out.lx.fz 4
    clear W2 hbt
    by_cases hn:n=0
    ·subst hn
     cases un
     all_goals
      go_wp2_with (first
       | (go_at_call 75;(with_reducible refine (lfail_walk (HR.out.lx.un true).1).mono ?_);rintro e w_ ⟨rfl,hP,hF⟩;have HP2:=mkA hP;have HF2:=mkA hF;clear hP hF))
      go_end0
      exact tx_fail HH.out HR.out (fun _=>rfl) (.inl rfl) HP2.out ((HR.out.lx.un true).2.trans HF2.out)
    ·have hq:=pt_quotes HI.out HPt.out hn H34.out H92.out HNL.out
     have p0:(n == 0)=false:=beq_eq_false_iff_ne.mpr hn
     rcases hq with ⟨hc,m,hm,hm1,hm2,hq⟩ | ⟨hc,hq⟩
     ·have e1:is=true:=by rw [HIS.out];exact decide_eq_true hc
      subst e1
      subst hm
      have HQ:=mkA hq
      have HM:=mkA (And.intro hm1 hm2)
      have W3:wrap64 ((i:Int)+(m:Int))=((i+m:Nat):Int):=by have:=SZ.out;exact (w64 (by omega) (by omega)).trans (by omega)
      obtain ⟨j2,hj2⟩:∃ j2:Nat,j2=i+m:=⟨_,rfl⟩
      rw [← hj2] at W3
      have HJ2:=mkA hj2
      have s1:((i:Int)≤(j2:Int))=True:=eq_true (by omega)
      have s2:((j2:Int)≤(C.s.size:Int))=True:=eq_true (by omega)
      have s3:(i≤j2)=True:=eq_true (by omega)
      have s4:(j2≤C.s.size)=True:=eq_true (by omega)
      clear hc hm1 hm2 hq hj2 hn
      have HX:=mkA (show (C.s.extract i j2).data.toList=(dr C.s i).take m by rw [HJ2.out];exact ext_list _ _ _)
      have HXS:=mkA (show (C.s.extract i j2).size≤j2 - i by rw [ByteArray.size_extract];omega)
      have z1:(9223372036854775807 < o.size+(C.s.extract i j2).size)=False:=eq_false (by have:=HR.out.sz;have:=HI.out;have:=SZ.out;have:=HXS.out;have:=HJ2.out;have:=HM.out;omega)
      have z2:(9223372036854775807 < o.size+(j2 - i))=False:=eq_false (by have:=HR.out.sz;have:=HI.out;have:=SZ.out;have:=HJ2.out;have:=HM.out;omega)
      cases un <;> cases su
      all_goals
       go_wp2
       go_roundw
       case rel=>first
        | exact ⟨j2,o++C.s.extract i j2,true,rfl,congrArg (Value.int .i64) W3,⟨tx_next HR.out (fun _=>rfl) (by have:=HJ2.out;have:=HM.out;omega) HXS.out (.inl rfl) (HR.out.lx.un true).1 (HR.out.lx.un true).2⟩⟩
        | exact ⟨j2,o++C.s.extract i j2,false,rfl,congrArg (Value.int .i64) W3,⟨tx_next HR.out (fun x=>x) (by have:=HJ2.out;have:=HM.out;omega) HXS.out (.inr (by rw [HX.out,HJ2.out];exact HQ.out)) (HR.out.lx.un false).1 (HR.out.lx.un false).2⟩⟩
       case measure=>rw [W3];have:=HJ2.out;have:=HI.out;have:=HM.out;simp only [intOf];omega
     ·have e1:is=false:=by rw [HIS.out];exact decide_eq_false hc
      subst e1
      have HQ:=mkA hq
      clear hc hq hn
      cases un
      all_goals
       go_wp2_with (first
        | (go_at_call 75;(with_reducible refine (lfail_walk (HR.out.lx.un _).1).mono ?_);rintro e w_ ⟨rfl,hP,hF⟩;have HP2:=mkA hP;have HF2:=mkA hF;clear hP hF))
       go_end0
       exact tx_fail HH.out HR.out (fun x=>x) (.inr HQ.out) HP2.out ((HR.out.lx.un _).2.trans HF2.out)
end Go.Proofs.YthgcghpcikbnkaaGreatDoor.R
