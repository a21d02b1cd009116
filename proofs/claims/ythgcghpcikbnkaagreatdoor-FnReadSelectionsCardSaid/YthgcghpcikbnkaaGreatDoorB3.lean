/- A part of the proof of the theorem of this claim: PFnReadVariablesx0, Lx, Sst, Spl, Mem, Tka. No condition of its own. -/
import Derived.Test.YthgcghpcikbnkaaGreatDoorProg
import Derived.Laws.StructEq
import Derived.Lib.RuneBytes
import Derived.Laws.AppendOwn
import Derived.Test.YthgcghpcikbnkaaGreatDoorB1
import Derived.Test.YthgcghpcikbnkaaGreatDoorB2
import Derived.Test.YthgcghpcikbnkaaGreatDoorB0
set_option maxHeartbeats 16000000
set_option maxRecDepth 100000
namespace Go.Proofs.YthgcghpcikbnkaaGreatDoor.PFnReadVariables
open Go.RowKit Go.Proofs.YthgcghpcikbnkaaGreatDoorW.PrintWords Go.Proofs.YthgcghpcikbnkaaGreatDoorW.PrintLast Go.Proofs.YthgcghpcikbnkaaGreatDoorW.PrintMore
attribute [local go_sem] max2_int min2_int max_two min_two max_three min_three max_four min_four
set_option linter.unusedVariables false
set_option linter.unusedSimpArgs false
theorem info9:(Tryz.prog.info? 9).map (fun i=>(i.zero,i.size,i.bytes))=some (some (.string ⟨#[]⟩),1,16):=by kernel_rfl
theorem info246:(Tryz.prog.info? 246).map (fun i=>(i.zero,i.size,i.bytes))=some (some (.slice none 0 0),1,24):=by kernel_rfl

structure S53 where
 f0:Int
 f1:ByteArray
 f2:Int
 f3:Int
structure S55 where
 f0:Int
 f1:ByteArray
 f2:ByteArray
 f3:ByteArray
 f4:Int
 f5:Int
end Go.Proofs.YthgcghpcikbnkaaGreatDoor.PFnReadVariables
namespace Go.Proofs.YthgcghpcikbnkaaGreatDoor.R
open Go.RowKit Go.Proofs.YthgcghpcikbnkaaGreatDoorW.PrintWords Go.Proofs.YthgcghpcikbnkaaGreatDoorW.PrintLast Go.Proofs.YthgcghpcikbnkaaGreatDoorW.PrintMore
set_option linter.unusedVariables false
set_option linter.unusedSimpArgs false
theorem mkA {p:Prop} (h:p):Aside0 p:=⟨h⟩
theorem bt_lo (s:ByteArray) (i:Int):0≤bt s i∧bt s i < 256:=by
 unfold bt
 split
 ·have:=(s[i.toNat]).toNat_lt;omega
 ·omega
theorem w64 {x:Int} (h:-9223372036854775808≤x) (h':x≤9223372036854775807):wrap64 x=x:=by unfold wrap64;omega
abbrev bomB:ByteArray:=⟨#[239,187,191]⟩
def isBl (c:Int):Bool:=c == 32 || c == 9 || c == 10 || c == 13 || c == 44
def bomAt (s:ByteArray) (i:Nat):Bool:=decide (i+3≤s.size) && ((s.extract i (i+3)).toList == bomB.toList)
def scn (s:ByteArray):Nat→Bool→Nat→Option Nat
 | 0,_,_=>none
 | f+1,false,i=>if i < s.size then (if isBl (bt s i)=true then scn s f false (i+1) else if bt s i=35 then scn s f true (i+1) else if bomAt s i=true then none else some i) else some i
 | f+1,true,i=>if i < s.size then (if bt s i=10∨bt s i=13 then scn s f false (i+1) else if 128≤bt s i∨(bt s i < 32∧bt s i≠9) then none else scn s f true (i+1)) else some i
def Sc (s:ByteArray) (b:Bool) (i:Nat):Option Nat:=scn s (s.size+1 - i) b i
theorem sc_end (s:ByteArray) (b:Bool):Sc s b s.size=some s.size:=by
 unfold Sc;rw [show s.size+1 - s.size=0+1 from by omega];cases b <;> simp [scn]
theorem sc_f (s:ByteArray) (i:Nat) (h:i < s.size):Sc s false i=if isBl (bt s i)=true then Sc s false (i+1) else if bt s i=35 then Sc s true (i+1) else if bomAt s i=true then none else some i:=by
 unfold Sc;rw [show s.size+1 - i=(s.size+1 - (i+1))+1 from by omega];simp only [scn,if_pos h]
theorem sc_t (s:ByteArray) (i:Nat) (h:i < s.size):Sc s true i=if bt s i=10∨bt s i=13 then Sc s false (i+1) else if 128≤bt s i∨(bt s i < 32∧bt s i≠9) then none else Sc s true (i+1):=by
 unfold Sc;rw [show s.size+1 - i=(s.size+1 - (i+1))+1 from by omega];simp only [scn,if_pos h]
theorem sc_nl (s:ByteArray) (i:Nat) (h:i < s.size) (hn:bt s i=10∨bt s i=13):Sc s true i=Sc s false i:=by
 rw [sc_f s i h,sc_t s i h,if_pos hn,if_pos]
 rcases hn with e | e <;> rw [e] <;> decide
def nx (s:ByteArray) (i:Nat):Int:=if i < s.size then bt s i else 0
def isD (c:Int):Bool:=decide (48≤c) && decide (c≤57)
def dgf (s:ByteArray):Nat→Nat→Nat
 | 0,i=>i
 | f+1,i=>if isD (nx s i)=true then dgf s f (i+1) else i
def dg (s:ByteArray) (i:Nat):Nat:=dgf s (s.size - i) i
theorem nx_end (s:ByteArray) (i:Nat) (h:s.size≤i):nx s i=0:=by unfold nx;rw [if_neg (by omega)]
theorem nx_lo (s:ByteArray) (i:Nat):0≤nx s i∧nx s i < 256:=by
 unfold nx
 split
 ·exact bt_lo s i
 ·omega
theorem nx_in (s:ByteArray) (i:Nat) (h:nx s i≠0):i < s.size:=by
 unfold nx at h
 split at h
 ·assumption
 ·exact absurd rfl h
theorem dg_no (s:ByteArray) (i:Nat) (h:isD (nx s i)=false):dg s i=i:=by
 unfold dg
 cases s.size - i with
 | zero=>rfl
 | succ f=>simp [dgf,h]
theorem dg_yes (s:ByteArray) (i:Nat) (h:isD (nx s i)=true):dg s i=dg s (i+1):=by
 have hi:i < s.size:=nx_in s i (by intro e;rw [e] at h;cases h)
 unfold dg
 rw [show s.size - i=(s.size - (i+1))+1 from by omega]
 simp [dgf,h]
theorem dg_ge (s:ByteArray) (i:Nat):i≤dg s i:=by
 unfold dg
 generalize s.size - i=f
 induction f generalizing i with
 | zero=>exact Nat.le_refl _
 | succ f ih=>unfold dgf;split;exact Nat.le_trans (Nat.le_succ i) (ih (i+1));exact Nat.le_refl _
theorem dg_le (s:ByteArray) (i:Nat) (h:i≤s.size):dg s i≤s.size:=by
 unfold dg
 generalize hf:s.size - i=f
 induction f generalizing i with
 | zero=>exact h
 | succ f ih=>unfold dgf;split;exact ih (i+1) (by omega) (by omega);exact h
theorem dg_gt (s:ByteArray) (i:Nat) (h:isD (nx s i)=true):i < dg s i:=by
 rw [dg_yes s i h];exact dg_ge s (i+1)
def expo (s:ByteArray) (kind:Int) (p:Nat):Option (Int × Nat) :=
 if nx s p=101∨nx s p=69 then
  (if nx s (p+1)=43∨nx s (p+1)=45 then (if dg s (p+2)=p+2 then none else some (17,dg s (p+2))) else (if dg s (p+1)=p+1 then none else some (17,dg s (p+1))))
 else some (kind,p)
def frac (s:ByteArray) (p:Nat):Option (Int × Nat) :=
 if nx s p=46 then (if dg s (p+1)=p+1 then none else expo s 17 (dg s (p+1))) else expo s 16 p
def num1 (s:ByteArray) (a:Nat):Option (Int × Nat):=if dg s a=a∨(nx s a=48∧a+1 < dg s a) then none else frac s (dg s a)
theorem num1_zero (s:ByteArray) (a:Nat) (h:nx s a=48) (h1:isD (nx s (a+1))=false):num1 s a=frac s (a+1):=by
 have e:dg s a=a+1:=by rw [dg_yes s a (by rw [h];rfl),dg_no s (a+1) h1]
 unfold num1;rw [e,if_neg (by omega)]
theorem num1_zerr (s:ByteArray) (a:Nat) (h:nx s a=48) (h1:isD (nx s (a+1))=true):num1 s a=none:=by
 have e:dg s a=dg s (a+1):=dg_yes s a (by rw [h];rfl)
 have:=dg_gt s (a+1) h1
 unfold num1;rw [if_pos (.inr ⟨h,by omega⟩)]
theorem num1_dig (s:ByteArray) (a:Nat) (h:nx s a≠48) (h1:isD (nx s a)=true):num1 s a=frac s (dg s a):=by
 have:=dg_gt s a h1
 unfold num1;rw [if_neg (by omega)]
theorem num1_no (s:ByteArray) (a:Nat) (h1:isD (nx s a)=false):num1 s a=none:=by
 unfold num1;rw [if_pos (.inl (dg_no s a h1))]
theorem frac_no (s:ByteArray) (p:Nat) (h:nx s p≠46):frac s p=expo s 16 p:=by unfold frac;rw [if_neg h]
theorem frac_err (s:ByteArray) (p:Nat) (h:nx s p=46) (h1:isD (nx s (p+1))=false):frac s p=none:=by unfold frac;rw [if_pos h,if_pos (dg_no s _ h1)]
theorem frac_dig (s:ByteArray) (p:Nat) (h:nx s p=46) (h1:isD (nx s (p+1))=true):frac s p=expo s 17 (dg s (p+1)):=by
 have:=dg_gt s _ h1
 unfold frac;rw [if_pos h,if_neg (by omega)]
theorem expo_no (s:ByteArray) (K:Int) (p:Nat) (h:nx s p≠101) (h':nx s p≠69):expo s K p=some (K,p):=by unfold expo;rw [if_neg (by omega)]
theorem expo_sno (s:ByteArray) (K:Int) (p:Nat) (h:nx s p=101∨nx s p=69) (h2:nx s (p+1)=43∨nx s (p+1)=45) (h1:isD (nx s (p+2))=false):expo s K p=none:=by
 unfold expo;rw [if_pos h,if_pos h2,if_pos (dg_no s _ h1)]
theorem expo_syes (s:ByteArray) (K:Int) (p:Nat) (h:nx s p=101∨nx s p=69) (h2:nx s (p+1)=43∨nx s (p+1)=45) (h1:isD (nx s (p+2))=true):expo s K p=some (17,dg s (p+2)):=by
 have:=dg_gt s _ h1
 unfold expo;rw [if_pos h,if_pos h2,if_neg (by omega)]
theorem expo_nno (s:ByteArray) (K:Int) (p:Nat) (h:nx s p=101∨nx s p=69) (h2:¬ (nx s (p+1)=43∨nx s (p+1)=45)) (h1:isD (nx s (p+1))=false):expo s K p=none:=by
 unfold expo;rw [if_pos h,if_neg h2,if_pos (dg_no s _ h1)]
theorem expo_nyes (s:ByteArray) (K:Int) (p:Nat) (h:nx s p=101∨nx s p=69) (h2:¬ (nx s (p+1)=43∨nx s (p+1)=45)) (h1:isD (nx s (p+1))=true):expo s K p=some (17,dg s (p+1)):=by
 have:=dg_gt s _ h1
 unfold expo;rw [if_pos h,if_neg h2,if_neg (by omega)]
def isB (c:Int):Bool:=(decide (97≤c) && decide (c≤122)) || (decide (65≤c) && decide (c≤90)) || c == 95
def isN (c:Int):Bool:=isB c || isD c
def nmf (s:ByteArray):Nat→Nat→Nat
 | 0,i=>i
 | f+1,i=>if isN (nx s i)=true then nmf s f (i+1) else i
def nm (s:ByteArray) (i:Nat):Nat:=nmf s (s.size - i) i
theorem nm_no (s:ByteArray) (i:Nat) (h:isN (nx s i)=false):nm s i=i:=by
 unfold nm
 cases s.size - i with
 | zero=>rfl
 | succ f=>simp [nmf,h]
theorem nm_yes (s:ByteArray) (i:Nat) (h:isN (nx s i)=true):nm s i=nm s (i+1):=by
 have hi:i < s.size:=nx_in s i (by intro e;rw [e] at h;cases h)
 unfold nm
 rw [show s.size - i=(s.size - (i+1))+1 from by omega]
 simp [nmf,h]
theorem nm_ge (s:ByteArray) (i:Nat):i≤nm s i:=by
 unfold nm
 generalize s.size - i=f
 induction f generalizing i with
 | zero=>exact Nat.le_refl _
 | succ f ih=>unfold nmf;split;exact Nat.le_trans (Nat.le_succ i) (ih (i+1));exact Nat.le_refl _
theorem nm_le (s:ByteArray) (i:Nat) (h:i≤s.size):nm s i≤s.size:=by
 unfold nm
 generalize hf:s.size - i=f
 induction f generalizing i with
 | zero=>exact h
 | succ f ih=>unfold nmf;split;exact ih (i+1) (by omega) (by omega);exact h
def sg (c:Int):Int :=
 if c=33 then 2 else if c=36 then 3 else if c=40 then 4 else if c=41 then 5 else if c=58 then 7 else if c=61 then 8 else if c=64 then 9 else if c=91 then 10 else if c=93 then 11 else if c=123 then 12 else if c=124 then 13 else if c=125 then 14 else if c=38 then 20 else 0
def dr (t:ByteArray) (p:Nat):List UInt8:=t.data.toList.drop p
def Dg (a:Int):Prop:=(48≤a∧a≤57)∨(97≤a∧a≤102)∨(65≤a∧a≤70)
def hx (a:Int):Int:=if a < 58 then a - 48 else if a < 71 then a - 55 else a - 87
def uv (a b c d:Int):Int:=wrap32 (Go.bits .or .i64 (Go.bits .or .i64 (Go.bits .or .i64 (wrap64 (hx a * 4096)) (wrap64 (hx b * 256))) (wrap64 (hx c * 16))) (hx d))
def Pl (b:UInt8):Prop:=b.toNat=9∨(32≤b.toNat∧b.toNat≠34∧b.toNat≠92)
def ud (a b c d:UInt8):Int:=uv (a.toNat:Int) (b.toNat:Int) (c.toNat:Int) (d.toNat:Int)
def es (c:UInt8):Option UInt8:=if c=34 then some 34 else if c=92 then some 92 else if c=47 then some 47 else if c=98 then some 8 else if c=102 then some 12 else if c=110 then some 10 else if c=114 then some 13 else if c=116 then some 9 else none
inductive Qt:List UInt8→List UInt8→List UInt8→Prop
 | done {e:List UInt8}:Qt [] (34 :: e) e
 | plain {b:UInt8} {x r e:List UInt8}:Pl b→Qt x r e→Qt (b :: x) (b :: r) e
 | esc1 {c b:UInt8} {x r e:List UInt8}:es c=some b→Qt x r e→Qt (b :: x) (92 :: c :: r) e
 | escu {a b c d:UInt8} {x r e:List UInt8}:(Dg a.toNat∧Dg b.toNat∧Dg c.toNat∧Dg d.toNat)→Qt x r e→Qt (Go.Lib.encodeRune (ud a b c d)++x) (92 :: 117 :: a :: b :: c :: d :: r) e
def Dg4:List UInt8→Prop
 | a :: b :: c :: d :: _=>Dg a.toNat∧Dg b.toNat∧Dg c.toNat∧Dg d.toNat
 | _=>False
inductive Qb:List UInt8→Prop
 | fin:Qb []
 | ctl {b:UInt8} {r:List UInt8}:b.toNat < 32→b.toNat≠9→Qb (b :: r)
 | plain {b:UInt8} {r:List UInt8}:Pl b→Qb r→Qb (b :: r)
 | esc1 {c b:UInt8} {r:List UInt8}:es c=some b→Qb r→Qb (92 :: c :: r)
 | escu {a b c d:UInt8} {r:List UInt8}:(Dg a.toNat∧Dg b.toNat∧Dg c.toNat∧Dg d.toNat)→Qb r→Qb (92 :: 117 :: a :: b :: c :: d :: r)
 | back:Qb [92]
 | bade {c:UInt8} {r:List UInt8}:es c=none→c≠117→Qb (92 :: c :: r)
 | badu {r:List UInt8}:¬ Dg4 r→Qb (92 :: 117 :: r)
def tri:List UInt8→Bool
 | 34 :: 34 :: 34 :: _=>true
 | _=>false
def etri:List UInt8→Bool
 | 92 :: 34 :: 34 :: 34 :: _=>true
 | _=>false
def Bl (b:UInt8):Prop:=32≤b.toNat∨b.toNat=9∨b.toNat=10∨b.toNat=13
inductive Bk:List UInt8→List UInt8→List UInt8→Prop
 | done {e:List UInt8}:Bk [] (34 :: 34 :: 34 :: e) e
 | byte {b:UInt8} {x r e:List UInt8}:tri (b :: r)=false→etri (b :: r)=false→Bl b→Bk x r e→Bk (b :: x) (b :: r) e
inductive Bb:List UInt8→Prop
 | fin:Bb []
 | ctl {b:UInt8} {r:List UInt8}:¬ Bl b→Bb (b :: r)
 | byte {b:UInt8} {r:List UInt8}:tri (b :: r)=false→etri (b :: r)=false→Bl b→Bb r→Bb (b :: r)
def numAt (s:ByteArray) (p:Nat):Option (Int × Nat):=num1 s (if nx s p=45 then p+1 else p)
inductive Tok (BV:List UInt8→ByteArray→Prop) (s:ByteArray) (p:Nat):Tk→Nat→Prop
 | sign {k:Int}:p < s.size→sg (bt s p)=k→k≠0→Tok BV s p ⟨k,p,(p+1:Nat),e0⟩ (p+1)
 | spread:p+2 < s.size→bt s p=46→bt s (p+1:Nat)=46→bt s (p+2:Nat)=46→Tok BV s p ⟨6,p,(p+3:Nat),e0⟩ (p+3)
 | name:p < s.size→isB (bt s p)=true→Tok BV s p ⟨15,p,(nm s (p+1):Nat),s.extract p (nm s (p+1))⟩ (nm s (p+1))
 | numb {k:Int} {z:Nat}:p < s.size→(bt s p=45∨isD (bt s p)=true)→numAt s p=some (k,z)→Tok BV s p ⟨k,p,(z:Nat),s.extract p z⟩ z
 | str {x:List UInt8} {z:Nat}:p < s.size→bt s p=34→tri (dr s p)=false→Qt x (dr s (p+1)) (dr s z)→z≤s.size→Tok BV s p ⟨18,p,(z:Nat),⟨x.toArray⟩⟩ z
 | block {x:List UInt8} {v:ByteArray} {z:Nat}:p < s.size→tri (dr s p)=true→Bk x (dr s (p+3)) (dr s z)→z≤s.size→BV x v→Tok BV s p ⟨19,p,(z:Nat),v⟩ z
inductive TokBad (s:ByteArray) (p:Nat):Prop
 | numb:p < s.size→(bt s p=45∨isD (bt s p)=true)→numAt s p=none→TokBad s p
 | str:p < s.size→bt s p=34→tri (dr s p)=false→Qb (dr s (p+1))→TokBad s p
 | block:p < s.size→tri (dr s p)=true→Bb (dr s (p+3))→TokBad s p
 | dot:p < s.size→bt s p=46→¬ (p+2 < s.size∧bt s (p+1:Nat)=46∧bt s (p+2:Nat)=46)→TokBad s p
 | other:p < s.size→sg (bt s p)=0→isB (bt s p)=false→bt s p≠45→isD (bt s p)=false→bt s p≠34→bt s p≠46→TokBad s p
inductive Lexes (BV:List UInt8→ByteArray→Prop) (s:ByteArray):Nat→List Tk→Prop
 | fin {p q:Nat}:Sc s false p=some q→s.size≤q→Lexes BV s p [⟨1,s.size,s.size,e0⟩]
 | tok {p q z:Nat} {t:Tk} {l:List Tk}:Sc s false p=some q→q < s.size→Tok BV s q t z→Lexes BV s z l→Lexes BV s p (t :: l)
 | bad {p q:Nat}:Sc s false p=some q→q < s.size→TokBad s q→Lexes BV s p []
structure St where
 a:Nat
 d:Int
 bad:Bool
 un:Bool
def kd (L:List Tk) (s:St):Int:=match L[s.a]? with
 | none=>1
 | some t=>t.k
def vl (L:List Tk) (s:St):ByteArray:=match L[s.a]? with
 | none=>e0
 | some t=>t.v
def St.fail (s:St):St:=⟨s.a,s.d,true,s.un⟩
def St.nx (s:St):St:=⟨s.a+1,s.d,s.bad,s.un⟩
def St.unk (s:St) (b:Bool):St:=⟨s.a,s.d,s.bad,s.un || b⟩
def takenF (L:List Tk) (k:Int) (s:St):Bool × St:=if s.bad=false∧kd L s=k then (true,s.nx) else (false,s)
def mustF (L:List Tk) (k:Int) (s:St):St:=if s.bad=false∧kd L s=k then s.nx else s.fail
def nameF (L:List Tk) (s:St):ByteArray × St:=if s.bad=false∧kd L s=15 then (vl L s,s.nx) else (e0,s.fail)
def enterF (s:St):St:=if wrap64 (s.d+1) > 60 then ⟨s.a,wrap64 (s.d+1),true,true⟩ else ⟨s.a,wrap64 (s.d+1),s.bad,s.un⟩
def leaveF (s:St):St:=⟨s.a,wrap64 (s.d - 1),s.bad,s.un⟩
def someF (L:List Tk) (k:Int) (s:St):St:=if s.bad=false∧kd L s=k then ⟨s.a - 1,s.d,true,s.un⟩ else s
def isOn (L:List Tk) (s:St):Bool:=decide (kd L s=15∧vl L s=bOn)
def textF (L:List Tk) (s:St):St:=s.unk (kd L s == 18 || kd L s == 19)
abbrev RS:=List Row × St
def loopF (L:List Tk) (item:St→Option RS) (cl:Int):Nat→St→Option RS
 | 0,_=>none
 | n+1,s=>if s.bad=true then some ([],s) else match takenF L cl s with
   | (true,s1)=>some ([],s1)
   | (false,s1)=>(item s1).bind fun x=>(loopF L item cl n x.2).bind fun y=>some (x.1++y.1,y.2)
def loop1F (L:List Tk) (item:St→Option RS) (cl:Int) (n:Nat) (s:St):Option RS :=
 if s.bad=true then some ([],s) else (item s).bind fun x=>(loopF L item cl (n - 1) x.2).bind fun y=>some (x.1++y.1,y.2)
def nvF (L:List Tk) (k:Int) (rec:St→Option RS) (s:St):Option RS :=
 (rec (mustF L 7 (nameF L s).2)).bind fun y=>some (nd k (nameF L s).1 e0 e0 0 y.1,y.2)
def hereF (L:List Tk) (c:Bool) (rec:St→Option RS) (n:Nat) (s:St):Option RS :=
 if L.length≤s.a then some ([],s.fail)
 else if kd L s=3 then (if c=true then some ([],s.fail) else some (nd 11 (nameF L s.nx).1 e0 e0 0 [],(nameF L s.nx).2))
 else if kd L s=16 then some (nd 12 e0 e0 (vl L s) 0 [],s.nx)
 else if kd L s=17 then some (nd 13 e0 e0 (vl L s) 0 [],s.nx)
 else if kd L s=18 then some (nd 14 e0 e0 (vl L s) 0 [],s.nx)
 else if kd L s=19 then some (nd 14 e0 e0 (vl L s) 1 [],s.nx)
 else if kd L s=15 then
  (if vl L s=bTrue then some (nd 15 e0 e0 e0 1 [],s.nx)
   else if vl L s=bFalse then some (nd 15 e0 e0 e0 0 [],s.nx)
   else if vl L s=bNull then some ([],(s.nx.unk true).fail)
   else some (nd 16 (vl L s) e0 e0 0 [],s.nx))
 else if kd L s=10 then (loopF L rec 11 n s.nx).bind fun x=>some (nd 17 e0 e0 e0 0 x.1,x.2)
 else if kd L s=12 then (loopF L (nvF L 19 rec) 14 n s.nx).bind fun x=>some (nd 18 e0 e0 e0 0 x.1,x.2)
 else some ([],s.fail)
def valueF (L:List Tk) (c:Bool):Nat→St→Option RS
 | 0,_=>none
 | f+1,s=>if (enterF s).bad=true then some ([],enterF s) else (hereF L c (valueF L c f) f (enterF s)).bind fun x=>some (x.1,leaveF x.2)
def argsF (L:List Tk) (f:Nat) (s:St):Option RS:=match takenF L 4 s with
 | (false,s1)=>some ([],s1)
 | (true,s1)=>loop1F L (nvF L 9 (valueF L false f)) 5 f (someF L 5 s1)
def dirsF (L:List Tk) (f:Nat):Nat→St→Option RS
 | 0,_=>none
 | n+1,s=>if s.bad=true then some ([],s) else match takenF L 9 s with
   | (false,s1)=>some ([],s1)
   | (true,s1)=>(argsF L f (nameF L s1).2).bind fun y=>(dirsF L f n y.2).bind fun z=>some (nd 10 (nameF L s1).1 e0 e0 0 y.1++z.1,z.2)
def setF (L:List Tk) (sel:St→Option RS) (n:Nat) (s:St):Option RS :=
 if (enterF s).bad=true then some ([],enterF s) else (loop1F L sel 14 n (someF L 14 (mustF L 12 (enterF s)))).bind fun x=>some (nd 5 e0 e0 e0 0 x.1,leaveF x.2)
def condF (L:List Tk) (s:St):ByteArray × St:=if isOn L s=true then nameF L s.nx else (e0,s)
def aliasF (L:List Tk) (s:St):(ByteArray × ByteArray) × St:=match takenF L 7 (nameF L s).2 with
 | (true,s2)=>(((nameF L s2).1,(nameF L s).1),(nameF L s2).2)
 | (false,s2)=>(((nameF L s).1,e0),s2)
def subF (L:List Tk) (sel:St→Option RS) (n:Nat) (s:St):Option RS:=if s.bad=false∧kd L s=12 then setF L sel n s else some ([],s)
def selF (L:List Tk):Nat→St→Option RS
 | 0,_=>none
 | f+1,s=>match takenF L 6 s with
   | (true,s1)=>if kd L s1=15∧isOn L s1=false then (dirsF L f f (nameF L s1).2).bind fun y=>some (nd 7 (nameF L s1).1 e0 e0 0 y.1,y.2)
     else (dirsF L f f (condF L (textF L s1)).2).bind fun y=>(setF L (selF L f) f y.2).bind fun z=>some (nd 8 e0 e0 (condF L (textF L s1)).1 0 (y.1++z.1),z.2)
   | (false,s1)=>(argsF L f (aliasF L s1).2).bind fun a=>(dirsF L f f a.2).bind fun d =>
     (subF L (selF L f) f d.2).bind fun z=>some (nd 6 (aliasF L s1).1.1 (aliasF L s1).1.2 e0 0 (a.1++d.1++z.1),z.2)
structure Tl (L tl:List Tk):Prop where
 ks:∀ t ∈ L,t.k≠1
 on:∀ t ∈ L,t.v=bOn→t.k=15∨t.k=18∨t.k=19
 end_:tl=[]∨∃ t,tl=[t]∧t.k=1∧t.v=e0
def er (x:Row):Row:=(x.1,x.2.1,x.2.2.1,x.2.2.2.1,(if x.1=15 then x.2.2.2.2.1 else 0),x.2.2.2.2.2)
def ers (r:List Row):List Row:=r.map er
@[simp] theorem ers_nil:ers []=[]:=rfl
@[simp] theorem ers_app (a b:List Row):ers (a++b)=ers a++ers b:=List.map_append
theorem ers_nd (k:Int) (nm al tx:ByteArray) (fl:Int) (kids:List Row) (h:k=15∨fl=0):ers (nd k nm al tx fl kids)=nd k nm al tx fl (ers kids):=by
 simp only [ers,nd,List.map_cons,er,List.length_map]
 rcases h with rfl | rfl
 ·rfl
 ·split <;> rfl
section
variable {L tl:List Tk}
def rem (L tl:List Tk) (s:St):List Tk:=L.drop s.a++tl
structure Lv (L tl:List Tk) (s:St):Prop where
 b:s.bad=false
 u:s.un=false
 le:s.a≤L.length
 no:tl=[]→s.a < L.length
 d0:0≤s.d
 d1:s.d≤60
def Dd (L tl:List Tk) (s:St):Prop:=s.bad=true∨(tl=[]∧L.length≤s.a)
structure Mn (L:List Tk) (s s':St):Prop where
 b:s.bad=true→s'.bad=true
 u:s.un=true→s'.un=true
 le:s'.a≤L.length
 up:s.a≤s'.a
theorem Mn.refl {s:St} (h:s.a≤L.length):Mn L s s:=⟨id,id,h,Nat.le_refl _⟩
theorem Mn.trans {a b c:St} (h:Mn L a b) (k:Mn L b c):Mn L a c:=⟨fun x=>k.b (h.b x),fun x=>k.u (h.u x),k.le,Nat.le_trans h.up k.up⟩
def Pg (s s':St):Prop:=s'.bad=true∨s.a < s'.a
theorem Dd.mn {s s':St} (h:Dd L tl s) (m:Mn L s s'):Dd L tl s':=by
 rcases h with h | ⟨h1,h2⟩
 ·exact .inl (m.b h)
 ·exact .inr ⟨h1,Nat.le_trans h2 m.up⟩
def Rg {α β:Type} (L tl:List Tk) (em:β→α) (res:O (α × List Tk)) (x:β × St) (d:Int):Prop :=
 x.2.un=true∨(Dd L tl x.2∧res=.bad)∨(Lv L tl x.2∧x.2.d=d∧res=.ok (em x.1,rem L tl x.2))
abbrev Rl (L tl:List Tk) (res:O (List Row × List Tk)) (x:RS) (d:Int):Prop:=Rg L tl ers res x d
def Rs (L tl:List Tk) (res:O (List Tk)) (s:St) (d:Int):Prop :=
 s.un=true∨(Dd L tl s∧res=.bad)∨(Lv L tl s∧s.d=d∧res=.ok (rem L tl s))
theorem lv_of {s:St} (hb:s.bad=false) (hu:s.un=false) (hle:s.a≤L.length) (h0:0≤s.d) (h1:s.d≤60):Lv L tl s∨Dd L tl s:=by
 by_cases h:tl=[]∧L.length≤s.a
 ·exact .inr (.inr h)
 ·exact .inl ⟨hb,hu,hle,fun e=>by by_cases h2:s.a < L.length;exact h2;exact absurd ⟨e,by omega⟩ h,h0,h1⟩
theorem rem_in {s:St} (h:s.a < L.length):rem L tl s=L[s.a] :: rem L tl s.nx:=by
 unfold rem St.nx
 rw [List.drop_eq_getElem_cons h];rfl
theorem rem_end {s:St} (h:L.length≤s.a):rem L tl s=tl:=by
 unfold rem;rw [List.drop_eq_nil_of_le h];rfl
theorem kd_in {s:St} (h:s.a < L.length):kd L s=(L[s.a]).k∧vl L s=(L[s.a]).v:=by
 unfold kd vl;rw [List.getElem?_eq_getElem h];exact ⟨rfl,rfl⟩
theorem kd_end {s:St} (h:L.length≤s.a):kd L s=1∧vl L s=e0:=by
 unfold kd vl;rw [List.getElem?_eq_none h];exact ⟨rfl,rfl⟩
theorem hk_rem (T:Tl L tl) {s:St} (h:Lv L tl s):hk (rem L tl s)=kd L s∧hv (rem L tl s)=vl L s:=by
 by_cases hl:s.a < L.length
 ·rw [rem_in hl,(kd_in hl).1,(kd_in hl).2];exact ⟨rfl,rfl⟩
 ·have hl':L.length≤s.a:=by omega
  rw [rem_end hl',(kd_end hl').1,(kd_end hl').2]
  rcases T.end_ with e | ⟨t,rfl,h1,h2⟩
  ·exact absurd (h.no e) hl
  ·exact ⟨h1,h2⟩
theorem kd_lt {s:St} (h:kd L s≠1):s.a < L.length:=by
 by_cases hl:s.a < L.length
 ·exact hl
 ·exact absurd (kd_end (by omega)).1 h
theorem adv_rs (T:Tl L tl) {s:St} (h:Lv L tl s) (hk1:kd L s≠1):Rs L tl (adv (rem L tl s)) s.nx s.d:=by
 have hl:=kd_lt hk1
 have h1:(L[s.a]).k≠1:=T.ks _ (List.getElem_mem hl)
 rw [rem_in hl]
 rcases lv_of (tl:=tl) (s:=s.nx) h.b h.u (by show s.a+1≤L.length;omega) h.d0 h.d1 with hv | hd
 ·refine .inr (.inr ⟨hv,rfl,?_⟩)
  have hne:rem L tl s.nx≠[]:=by
   unfold rem
   intro e
   obtain ⟨e1,e2⟩:=List.append_eq_nil_iff.1 e
   have:=hv.no e2
   have h3:=List.drop_eq_nil_iff.1 e1
   omega
  cases e:rem L tl s.nx with
  | nil=>exact absurd e hne
  | cons u r=>simp only [adv,if_neg h1]
 ·refine .inr (.inl ⟨hd,?_⟩)
  have he:rem L tl s.nx=[]:=by
   rcases hd with hb | ⟨e1,e2⟩
   ·rw [show s.nx.bad=s.bad from rfl,h.b] at hb;cases hb
   ·rw [rem_end e2,e1]
  rw [he];simp only [adv,if_neg h1]
theorem mn_nx {s:St} (h:s.a < L.length):Mn L s s.nx:=⟨id,id,h,Nat.le_succ _⟩
theorem mn_fail {s:St} (h:s.a≤L.length):Mn L s s.fail:=⟨fun _=>rfl,id,h,Nat.le_refl _⟩
theorem mn_unk {s:St} (b:Bool) (h:s.a≤L.length):Mn L s (s.unk b):=⟨id,fun e=>by show (s.un || b)=true;rw [e];rfl,h,Nat.le_refl _⟩
theorem must_mn (k:Int) (hk1:k≠1) {s:St} (h:s.a≤L.length):Mn L s (mustF L k s):=by
 unfold mustF
 split
 ·rename_i e;exact mn_nx (kd_lt (by rw [e.2];exact hk1))
 ·exact mn_fail h
theorem name_mn {s:St} (h:s.a≤L.length):Mn L s (nameF L s).2:=by
 unfold nameF
 split
 ·rename_i e;exact mn_nx (kd_lt (by rw [e.2];decide))
 ·exact mn_fail h
theorem name_pg {s:St}:Pg s (nameF L s).2:=by
 unfold nameF
 split
 ·exact .inr (Nat.lt_succ_self _)
 ·exact .inl rfl
theorem some_mn (k:Int) {s s0:St} (h:Mn L s0 s) (hp:s.bad=true∨s0.a < s.a):Mn L s0 (someF L k s):=by
 unfold someF
 split
 ·rename_i c
  rcases hp with hp | hp
  ·rw [hp] at c;cases c.1
  ·exact ⟨fun _=>rfl,h.u,by show s.a - 1≤_;have:=h.le;omega,by show s0.a≤s.a - 1;omega⟩
 ·exact h
theorem enter_mn {s:St} (h:s.a≤L.length):Mn L s (enterF s):=by
 unfold enterF
 split
 ·exact ⟨fun _=>rfl,fun _=>rfl,h,Nat.le_refl _⟩
 ·exact ⟨id,id,h,Nat.le_refl _⟩
theorem leave_mn {s:St} (h:s.a≤L.length):Mn L s (leaveF s):=⟨id,id,h,Nat.le_refl _⟩
theorem Pg.mn {a b c:St} (h:Pg a b) (m:Mn L b c):Pg a c:=h.imp m.b (fun h=>Nat.lt_of_lt_of_le h m.up)
theorem Mn.pg {a b c:St} (m:Mn L a b) (h:Pg b c):Pg a c:=h.imp id (fun h=>Nat.lt_of_le_of_lt m.up h)
theorem must_rs (T:Tl L tl) (k:Int) (hk1:k≠1) {s:St} (h:Lv L tl s):Rs L tl (must k (rem L tl s)) (mustF L k s) s.d:=by
 unfold must mustF
 rw [(hk_rem T h).1]
 by_cases e:kd L s=k
 ·rw [if_pos e,if_pos ⟨h.b,e⟩];exact adv_rs T h (by rw [e];exact hk1)
 ·rw [if_neg e,if_neg (fun x=>e x.2)];exact .inr (.inl ⟨.inl rfl,rfl⟩)
abbrev Rn (L tl:List Tk) (res:O (ByteArray × List Tk)) (x:ByteArray × St) (d:Int):Prop:=Rg L tl id res x d
theorem name_rn (T:Tl L tl) {s:St} (h:Lv L tl s):Rn L tl (pName (rem L tl s)) (nameF L s) s.d:=by
 unfold pName nameF
 rw [(hk_rem T h).1]
 by_cases e:kd L s=15
 ·rw [if_pos e,if_pos ⟨h.b,e⟩]
  rcases adv_rs T h (by rw [e];decide) with a | ⟨a,b⟩ | ⟨a,c,b⟩
  ·exact .inl a
  ·exact .inr (.inl ⟨a,by rw [b];rfl⟩)
  ·exact .inr (.inr ⟨a,c,by rw [b,(hk_rem T h).2];rfl⟩)
 ·rw [if_neg e,if_neg (fun x=>e x.2)];exact .inr (.inl ⟨.inl rfl,rfl⟩)
theorem enter_lv {s:St} (h:Lv L tl s):(enterF s).un=true∧(enterF s).bad=true∨Lv L tl (enterF s)∧(enterF s).d=s.d+1∧rem L tl (enterF s)=rem L tl s∧(enterF s).a=s.a:=by
 have e:wrap64 (s.d+1)=s.d+1:=w64 (by have:=h.d0;omega) (by have:=h.d1;omega)
 unfold enterF
 rw [e]
 by_cases c:s.d+1 > 60
 ·rw [if_pos c];exact .inl ⟨rfl,rfl⟩
 ·rw [if_neg c];exact .inr ⟨⟨h.b,h.u,h.le,h.no,by show 0≤s.d+1;have:=h.d0;omega,by show s.d+1≤60;omega⟩,rfl,rfl,rfl⟩
theorem leave_lv {s:St} {d:Int} (h:Lv L tl s) (hd:s.d=d+1) (h0:0≤d):Lv L tl (leaveF s)∧(leaveF s).d=d∧rem L tl (leaveF s)=rem L tl s:=by
 have e:wrap64 (s.d - 1)=d:=(w64 (by omega) (by have:=h.d1;omega)).trans (by omega)
 refine ⟨⟨h.b,h.u,h.le,h.no,?_,?_⟩,e,rfl⟩
 ·show 0≤wrap64 (s.d - 1);rw [e];exact h0
 ·show wrap64 (s.d - 1)≤60;rw [e];have:=h.d1;omega
theorem leave_rl {res:O (List Row × List Tk)} {x:RS} {d:Int} (h:Rl L tl res x (d+1)) (h0:0≤d):Rl L tl res (x.1,leaveF x.2) d:=by
 rcases h with a | ⟨a,b⟩ | ⟨a,c,b⟩
 ·exact .inl a
 ·exact .inr (.inl ⟨a,b⟩)
 ·obtain ⟨p,q,r⟩:=leave_lv a c h0
  exact .inr (.inr ⟨p,q,by rw [r];exact b⟩)
theorem rg_bind {α β γ δ:Type} {em:β→α} {em2:δ→γ} {res:O (α × List Tk)} {f:α × List Tk→O (γ × List Tk)} {x:β × St} {y:δ × St} {d d':Int} (h:Rg L tl em res x d') (m:Mn L x.2 y.2) (k:Lv L tl x.2→x.2.d=d'→Rg L tl em2 (f (em x.1,rem L tl x.2)) y d):Rg L tl em2 (res.bind f) y d:=by
 rcases h with a | ⟨a,b⟩ | ⟨a,c,b⟩
 ·exact .inl (m.u a)
 ·exact .inr (.inl ⟨a.mn m,by rw [b];rfl⟩)
 ·rw [b];exact k a c
theorem rs_bind {γ δ:Type} {em2:δ→γ} {res:O (List Tk)} {f:List Tk→O (γ × List Tk)} {s:St} {y:δ × St} {d d':Int} (h:Rs L tl res s d') (m:Mn L s y.2) (k:Lv L tl s→s.d=d'→Rg L tl em2 (f (rem L tl s)) y d):Rg L tl em2 (res.bind f) y d:=by
 rcases h with a | ⟨a,b⟩ | ⟨a,c,b⟩
 ·exact .inl (m.u a)
 ·exact .inr (.inl ⟨a.mn m,by rw [b];rfl⟩)
 ·rw [b];exact k a c
theorem rg_ok {α β:Type} {em:β→α} {a:α} {x:β × St} {d:Int} (h:Lv L tl x.2) (hd:x.2.d=d) (he:a=em x.1):Rg L tl em (.ok (a,rem L tl x.2)) x d:=.inr (.inr ⟨h,hd,by rw [he]⟩)
def Gd (L tl:List Tk) (F:St→Option RS) (p:List Tk→O (List Row × List Tk)) (m:Nat):Prop :=
 ∀ s,s.a≤L.length→L.length - s.a+1 < m→∃ x,F s=some x∧Mn L s x.2∧Pg s x.2∧(Lv L tl s→Rl L tl (p (rem L tl s)) x s.d)
def Gm (L tl:List Tk) (F:St→Option RS) (p:List Tk→O (List Row × List Tk)) (m:Nat):Prop :=
 ∀ s,s.a≤L.length→L.length - s.a+1 < m→∃ x,F s=some x∧Mn L s x.2∧(Lv L tl s→Rl L tl (p (rem L tl s)) x s.d)
theorem Gd.m {F:St→Option RS} {p:List Tk→O (List Row × List Tk)} {m:Nat} (h:Gd L tl F p m):Gm L tl F p m:=fun s h1 h2=>by
 obtain ⟨x,a,b,c,d⟩:=h s h1 h2;exact ⟨x,a,b,d⟩
theorem taken_cases (T:Tl L tl) (k:Int) (hk1:k≠1) (s:St) (hs:s.a≤L.length):(takenF L k s=(true,s.nx)∧s.bad=false∧kd L s=k∧s.a < L.length)∨(takenF L k s=(false,s)∧(s.bad=true∨kd L s≠k)):=by
 unfold takenF
 by_cases c:s.bad=false∧kd L s=k
 ·rw [if_pos c];exact .inl ⟨rfl,c.1,c.2,kd_lt (by rw [c.2];exact hk1)⟩
 ·rw [if_neg c]
  refine .inr ⟨rfl,?_⟩
  cases e:s.bad with
  | true=>exact .inl rfl
  | false=>exact .inr (fun h=>c ⟨e,h⟩)
theorem loop_ok (T:Tl L tl) {item:St→Option RS} {p:List Tk→O (List Row × List Tk)} {m:Nat} (hi:Gd L tl item p m) (cl:Int) (hc:cl≠1):∀ n s,s.a≤L.length→L.length - s.a+1 < n→L.length - s.a+1 < m→∃ x,loopF L item cl n s=some x∧Mn L s x.2∧(Lv L tl s→Rl L tl (many p cl n (rem L tl s)) x s.d):=by
 intro n
 induction n with
 | zero=>intro s h1 h2;omega
 | succ n ih =>
   intro s h1 h2 h3
   unfold loopF
   by_cases hb:s.bad=true
   ·rw [if_pos hb]
    exact ⟨_,rfl,.refl h1,fun l=>by rw [l.b] at hb;cases hb⟩
   ·rw [if_neg hb]
    rcases taken_cases T cl hc s h1 with ⟨e,e1,e2,e3⟩ | ⟨e,e1⟩
    ·rw [e]
     refine ⟨_,rfl,mn_nx e3,fun l=>?_⟩
     unfold many
     rw [(hk_rem T l).1,if_pos e2]
     exact rs_bind (adv_rs T l (by rw [e2];exact hc)) (.refl e3) fun l2 hd=>rg_ok (x:=([],s.nx)) l2 hd rfl
    ·rw [e]
     obtain ⟨x,x1,x2,x3,x4⟩:=hi s h1 h3
     have hk:kd L s≠cl:=e1.resolve_left hb
     have hy:∃ y,loopF L item cl n x.2=some y∧Mn L x.2 y.2∧(Lv L tl x.2→Rl L tl (many p cl n (rem L tl x.2)) y x.2.d):=by
      rcases x3 with x3 | x3
      ·cases n with
       | zero=>omega
       | succ n =>
         unfold loopF
         rw [if_pos x3]
         exact ⟨_,rfl,.refl x2.le,fun l=>by rw [l.b] at x3;cases x3⟩
      ·exact ih x.2 x2.le (by have:=x2.le;omega) (by have:=x2.le;omega)
     obtain ⟨y,y1,y2,y3⟩:=hy
     refine ⟨(x.1++y.1,y.2),by show (item s).bind _=_;rw [x1];show (loopF L item cl n x.2).bind _=_;rw [y1];rfl,x2.trans y2,fun l=>?_⟩
     unfold many
     rw [(hk_rem T l).1,if_neg hk]
     refine rg_bind (x4 l) (y:=(x.1++y.1,y.2)) y2 fun l2 hd=>?_
     rw [← hd]
     refine rg_bind (y3 l2) (y:=(x.1++y.1,y.2)) (.refl y2.le) fun l3 hd3=>rg_ok (x:=(x.1++y.1,y.2)) l3 hd3 (by simp)
theorem loop1_ok (T:Tl L tl) {item:St→Option RS} {p:List Tk→O (List Row × List Tk)} {m:Nat} (hi:Gd L tl item p m) (op cl:Int) (ho:op≠1) (hc:cl≠1) (n:Nat) (s0:St) (h1:s0.a < L.length) (hk0:kd L s0=op) (h2:L.length - s0.a < n) (h3:L.length - s0.a < m):∃ x,loop1F L item cl n (someF L cl s0.nx)=some x∧Mn L s0 x.2∧Pg s0 x.2∧(Lv L tl s0→Rl L tl (some1 p op cl n (rem L tl s0)) x s0.d):=by
 have hm:Mn L s0 (someF L cl s0.nx):=some_mn cl (mn_nx h1) (.inr (Nat.lt_succ_self _))
 have hmust:Lv L tl s0→must op (rem L tl s0)=adv (rem L tl s0):=fun l=>by unfold must;rw [(hk_rem T l).1,if_pos hk0]
 unfold loop1F
 by_cases hb:(someF L cl s0.nx).bad=true
 ·rw [if_pos hb]
  refine ⟨_,rfl,hm,.inl hb,fun l=>?_⟩
  unfold some1
  rw [hmust l]
  rcases adv_rs T l (by rw [hk0];exact ho) with a | ⟨a,b⟩ | ⟨a,c,b⟩
  ·refine .inl ?_
   show (someF L cl s0.nx).un=true
   unfold someF
   split <;> exact a
  ·exact .inr (.inl ⟨.inl hb,by rw [b];rfl⟩)
  ·refine .inr (.inl ⟨.inl hb,?_⟩)
   rw [b]
   show (if hk (rem L tl s0.nx)=cl then _ else _)=_
   rw [(hk_rem T a).1,if_pos]
   unfold someF at hb
   by_cases hk:kd L s0.nx=cl
   ·exact hk
   ·rw [if_neg (fun h=>hk h.2),a.b] at hb;cases hb
 ·rw [if_neg hb]
  have hs:someF L cl s0.nx=s0.nx∧kd L s0.nx≠cl:=by
   unfold someF at hb ⊢
   by_cases h:s0.nx.bad=false∧kd L s0.nx=cl
   ·rw [if_pos h] at hb;exact absurd rfl hb
   ·rw [if_neg h] at hb ⊢
    refine ⟨rfl,fun hk=>h ⟨?_,hk⟩⟩
    cases e:s0.nx.bad with
    | false=>rfl
    | true=>exact absurd e hb
  rw [hs.1] at hm ⊢
  have hmn:Mn L s0 s0.nx:=hm
  obtain ⟨x,x1,x2,x3,x4⟩:=hi s0.nx hmn.le (by show L.length - (s0.a+1)+1 < m;omega)
  obtain ⟨n,rfl⟩:∃ q,n=q+1:=⟨n - 1,by omega⟩
  obtain ⟨y,y1,y2,y3⟩:∃ y,loopF L item cl n x.2=some y∧Mn L x.2 y.2∧(Lv L tl x.2→Rl L tl (many p cl n (rem L tl x.2)) y x.2.d):=by
   have hle:=x2.le
   have hu2:s0.a+1≤x.2.a:=x2.up
   rcases x3 with x3 | x3
   ·cases n with
    | zero=>omega
    | succ n =>
      unfold loopF
      rw [if_pos x3]
      exact ⟨_,rfl,.refl x2.le,fun l=>by rw [l.b] at x3;cases x3⟩
   ·have x3':s0.a+1 < x.2.a:=x3
    exact loop_ok T hi cl hc n x.2 hle (by omega) (by omega)
  rw [x1]
  refine ⟨(x.1++y.1,y.2),by show (loopF L item cl n x.2).bind _=_;rw [y1];rfl,hmn.trans (x2.trans y2),Pg.mn (.inr (Nat.lt_succ_self _)) (x2.trans y2),fun l=>?_⟩
  unfold some1
  rw [hmust l]
  refine rs_bind (adv_rs T l (by rw [hk0];exact ho)) (y:=(x.1++y.1,y.2)) (x2.trans y2) fun l2 hd=>?_
  rw [(hk_rem T l2).1,if_neg hs.2]
  unfold many
  rw [(hk_rem T l2).1,if_neg hs.2,← hd]
  refine rg_bind (x4 l2) (y:=(x.1++y.1,y.2)) y2 fun l3 hd3=>?_
  rw [← hd3]
  exact rg_bind (y3 l3) (y:=(x.1++y.1,y.2)) (.refl y2.le) fun l4 hd4=>rg_ok (x:=(x.1++y.1,y.2)) l4 hd4 (by simp)
end
section
variable {P:Program} {ops:Array Oper} {rest:List Oper} {o:Oper} {a:Act} {Q:Exit→Act→World→Prop}
theorem bxe {W:World} {cs:Array Value} {t:TypeId} (hr:(execOp a.eval o).run P W=.ok (.value (.pointer (some ⟨W.heap.size,0,none⟩))) (W.alloc (.cells cs t (0,0))))
 (h:∀ g,g=W.heap.size→∀ w1,w1.heap[g]?=some (.cells cs t (0,0))→Below W.heap.size W w1→wpList P ops Q rest (a.put o.dst (.pointer (some ⟨g,0,none⟩))) w1) (hg:o.guard=none:=by rfl):wpList P ops Q (o :: rest) a W :=
 Kd.event_run hg hr (h _ rfl _ (blk_new W _) (below_alloc (Below.refl _ _) _))
theorem bxz {W:World} (hr:(execOp a.eval o).run P W=.ok (.value (.pointer (some ⟨W.heap.size,0,none⟩))) (W.alloc (.cells #[.int .i64 0,.int .i64 0,.int .i64 0,.string ⟨#[]⟩] 63 (0,0))))
 (h:∀ g,g=W.heap.size→∀ w1,w1.heap[g]?=some (.cells #[.int .i64 0,.int .i64 0,.int .i64 0,.string ⟨#[]⟩] 63 (0,0))→Below W.heap.size W w1→wpList P ops Q rest (a.put o.dst (.pointer (some ⟨g,0,none⟩))) w1) (hg:o.guard=none:=by rfl):wpList P ops Q (o :: rest) a W:=bxe hr h hg
end
structure Fr (x y:Nat) (w w':World):Prop where
 os:w'.os=w.os
 tape:w'.tape=w.tape
 output:w'.output=w.output
 size:w.heap.size≤w'.heap.size
 block:∀ k,k < w.heap.size→k≠x→k≠y→w'.heap[k]?=w.heap[k]?
theorem Fr.refl (x y:Nat) (w:World):Fr x y w w:=⟨rfl,rfl,rfl,Nat.le_refl _,fun _ _ _ _=>rfl⟩
theorem Fr.trans {x y:Nat} {a b c:World} (h:Fr x y a b) (k:Fr x y b c):Fr x y a c :=
 ⟨k.os.trans h.os,k.tape.trans h.tape,k.output.trans h.output,Nat.le_trans h.size k.size,fun i hi hx hy=>(k.block i (Nat.lt_of_lt_of_le hi h.size) hx hy).trans (h.block i hi hx hy)⟩
theorem Fr.of {x y:Nat} {w w':World} (h:Below w.heap.size w w'):Fr x y w w':=⟨h.os,h.tape,h.output,h.size,fun k hk _ _=>h.block k hk⟩
theorem Fr.step {x y:Nat} {w w1 w2:World} (h:Fr x y w w1) (k:Below w1.heap.size w1 w2):Fr x y w w2:=h.trans (.of k)
theorem Fr.alloc {x y:Nat} {w w1:World} (h:Fr x y w w1) (o:Obj):Fr x y w (w1.alloc o):=h.step (below_alloc (Below.refl _ _) o)
theorem Fr.drew {x y:Nat} {w w1:World} (h:Fr x y w w1):Fr x y w w1.drew:=⟨h.os,h.tape,h.output,h.size,h.block⟩
theorem Fr.drewN {x y:Nat} {w w1:World} (h:Fr x y w w1) (n:Nat):Fr x y w (w1.drewN n):=⟨h.os,h.tape,h.output,h.size,h.block⟩
theorem Fr.put {x y:Nat} {w w1:World} (h:Fr x y w w1) {p:Addr} (hp:p.block=x∨p.block=y∨w.heap.size≤p.block) (u:Value):Fr x y w (w1.setCell p u) :=
 ⟨h.os,h.tape,h.output,Nat.le_trans h.size (by simp [World.setCell]),fun i hi hx hy=>(Below.heap_setCell _ _ _ _ (by rcases hp with e | e | e <;> omega)).trans (h.block i hi hx hy)⟩
theorem Fr.blk {x y:Nat} {w w':World} (h:Fr x y w w') {g:Nat} {o:Obj} (hb:w.heap[g]?=some o) (hx:g≠x) (hy:g≠y):w'.heap[g]?=some o:=(h.block g (blk_lt hb) hx hy).trans hb
theorem Fr.below {x y B:Nat} {w w':World} (h:Fr x y w w') (hx:B≤x) (hy:B≤y) (hB:B≤w.heap.size):Below B w w' :=
 ⟨h.os,h.tape,h.output,h.size,fun k hk=>h.block k (by omega) (by omega) (by omega)⟩
theorem Fr.p4 {x y:Nat} {w w1:World} {g:Nat} {a b c d:Value} (h:Fr x y w w1) (hp:g=x∨g=y∨w.heap.size≤g):Fr x y w ((((w1.setCell ⟨g,0,none⟩ a).setCell ⟨g,1,none⟩ b).setCell ⟨g,2,none⟩ c).setCell ⟨g,3,none⟩ d) :=
 (((h.put (p:=⟨g,_,none⟩) hp _).put (p:=⟨g,_,none⟩) hp _).put (p:=⟨g,_,none⟩) hp _).put (p:=⟨g,_,none⟩) hp _
theorem tkz {w:World} {g:Nat} (h:w.heap[g]?=some (.cells #[.int .i64 0,.int .i64 0,.int .i64 0,.string ⟨#[]⟩] 63 (0,0))):w.cell? ⟨g,0,none⟩=some (.int .i64 0)∧w.cell? ⟨g,1,none⟩=some (.int .i64 0)∧w.cell? ⟨g,2,none⟩=some (.int .i64 0)∧w.cell? ⟨g,3,none⟩=some (.string ⟨#[]⟩)∧w.frozen? ⟨g,0,none⟩=false∧w.frozen? ⟨g,1,none⟩=false∧w.frozen? ⟨g,2,none⟩=false∧w.frozen? ⟨g,3,none⟩=false :=
 ⟨(blk_cell h 0).trans rfl,(blk_cell h 1).trans rfl,(blk_cell h 2).trans rfl,(blk_cell h 3).trans rfl,blk_frozen h 0,blk_frozen h 1,blk_frozen h 2,blk_frozen h 3⟩
theorem tks {w:World} {g:Nat} {a b c d:Value} {ty:TypeId} (h:w.heap[g]?=some (.cells #[a,b,c,d] ty (0,0))):w.cell? ⟨g,0,none⟩=some a∧w.cell? ⟨g,1,none⟩=some b∧w.cell? ⟨g,2,none⟩=some c∧w.cell? ⟨g,3,none⟩=some d :=
 ⟨(blk_cell h 0).trans rfl,(blk_cell h 1).trans rfl,(blk_cell h 2).trans rfl,(blk_cell h 3).trans rfl⟩
theorem tkp {w:World} {g:Nat} {a b c d:Value} (h:w.heap[g]?=some (.cells #[.int .i64 0,.int .i64 0,.int .i64 0,.string ⟨#[]⟩] 63 (0,0))):((((w.setCell ⟨g,0,none⟩ a).setCell ⟨g,1,none⟩ b).setCell ⟨g,2,none⟩ c).setCell ⟨g,3,none⟩ d).heap[g]?=some (.cells #[a,b,c,d] 63 (0,0)) :=
 blk_put (cs:=#[a,b,c,.string ⟨#[]⟩]) (blk_put (cs:=#[a,b,.int .i64 0,.string ⟨#[]⟩]) (blk_put (cs:=#[a,.int .i64 0,.int .i64 0,.string ⟨#[]⟩]) (blk_put (cs:=#[.int .i64 0,.int .i64 0,.int .i64 0,.string ⟨#[]⟩]) h 0 _ rfl) 1 _ rfl) 2 _ rfl) 3 _ rfl
abbrev Ok:=Nat→Prop
def Keeps (ok ok':Ok) (w w':World):Prop:=∀ (g:Nat) (o:Obj),ok g→w.heap[g]?=some o→ok' g∧w'.heap[g]?=some o
theorem Keeps.refl (ok:Ok) (w:World):Keeps ok ok w w:=fun _ _ h h2=>⟨h,h2⟩
theorem Keeps.trans {o1 o2 o3:Ok} {a b c:World} (h:Keeps o1 o2 a b) (k:Keeps o2 o3 b c):Keeps o1 o3 a c:=fun g o hg hb=>k g o (h g o hg hb).1 (h g o hg hb).2
abbrev from_ (n:Nat):Ok:=fun g=>n≤g
theorem Fr.keeps {x y m n:Nat} {w w':World} (hf:Fr x y w w') (hx:x < m) (hy:y < m) (hn:n≤m):Keeps (from_ m) (from_ n) w w':=fun g o hg hb=>⟨Nat.le_trans hn hg,hf.blk hb (Nat.ne_of_gt (Nat.lt_of_lt_of_le hx hg)) (Nat.ne_of_gt (Nat.lt_of_lt_of_le hy hg))⟩
theorem keeps_below {ok ok':Ok} {w w':World} (hb:Below w.heap.size w w') (h:∀ g,ok g→ok' g):Keeps ok ok' w w':=fun g o hg h1=>⟨h g hg,blk_below h1 hb⟩
def At (ok:Ok) (w:World) (g:Nat) (cs:Array Value) (t:TypeId):Prop:=ok g∧w.heap[g]?=some (.cells cs t (0,0))
theorem At.fr {ok ok':Ok} {w w':World} {g:Nat} {cs:Array Value} {t:TypeId} (h:At ok w g cs t) (hf:Keeps ok ok' w w'):At ok' w' g cs t :=
 hf g _ h.1 h.2
def Own (ok:Ok) (w:World) (e:TypeId) (v:Value) (n:Nat) (xs:List Value):Prop:=w.ownsRow 0 e 1 v n xs∧∀ b,v.ownBlock=some b→ok b
theorem Own.fr {ok ok':Ok} {w w':World} {e:TypeId} {n:Nat} {v:Value} {xs:List Value} (h:Own ok w e v n xs) (hf:Keeps ok ok' w w'):Own ok' w' e v n xs:=by
 obtain ⟨⟨h1,h2⟩,h3⟩:=h
 rcases h2 with ⟨rfl,h2⟩ | ⟨g,cap,cur,rfl,hg,hh,r⟩
 ·exact ⟨⟨h1,.inl ⟨rfl,h2⟩⟩,fun b hb=>by simp [Value.ownBlock] at hb⟩
 ·have hk:=hf g _ (h3 g rfl) hh
  exact ⟨⟨h1,.inr ⟨g,cap,cur,rfl,hg,hk.2,r⟩⟩,fun b hb=>by simp [Value.ownBlock] at hb;rw [← hb];exact hk.1⟩
abbrev ptr (g:Nat):Value:=.pointer (some ⟨g,0,none⟩)
def LocA (ok:Ok) (w:World) (p:Value):Prop:=∃ (g:Nat) (a z:Int) (s:Value),p=ptr g∧At ok w g #[.int .i64 a,.int .i64 z,s] 120
def NameA (ok:Ok) (w:World) (p:Value) (v:ByteArray):Prop:=∃ (g:Nat) (k:ByteArray) (l:Value),p=ptr g∧At ok w g #[.string k,l,.string v] 118
inductive Many (X:Value→List Row→Prop):List Value→List Row→Prop
 | nil:Many X [] []
 | cons {v:Value} {l:List Value} {a b:List Row}:X v a→Many X l b→Many X (v :: l) (a++b)
theorem Many.mono {X Y:Value→List Row→Prop} (h:∀ v r,X v r→Y v r) {l:List Value} {r:List Row} (m:Many X l r):Many Y l r:=by
 induction m with
 | nil=>exact .nil
 | cons a _ ih=>exact .cons (h _ _ a) ih
theorem Many.snoc {X:Value→List Row→Prop} {l:List Value} {r:List Row} (m:Many X l r) {v:Value} {b:List Row} (h:X v b):Many X (l++[v]) (r++b):=by
 induction m with
 | nil=>simpa using Many.cons h Many.nil
 | cons a _ ih=>rw [List.append_assoc];exact .cons a ih
def SlA (ok:Ok) (w:World) (e:TypeId) (X:Value→List Row→Prop) (sl:Value) (r:List Row):Prop:=∃ (n:Nat) (xs:List Value),n≤1000000∧Own ok w e sl n xs∧Many X xs r
theorem SlA.fr {ok ok':Ok} {w w':World} {e:TypeId} {X Y:Value→List Row→Prop} {sl:Value} {r:List Row} (h:SlA ok w e X sl r) (hf:Keeps ok ok' w w') (hm:∀ v r,X v r→Y v r):SlA ok' w' e Y sl r:=by
 obtain ⟨n,xs,h0,h1,h2⟩:=h
 exact ⟨n,xs,h0,h1.fr hf,h2.mono hm⟩
def FldA (ok:Ok) (w:World) (X:Value→List Row→Prop) (p:Value) (r:List Row):Prop :=
 ∃ (g:Nat) (k v:ByteArray) (n l x:Value) (b:List Row),p=ptr g∧At ok w g #[.string k,n,l,x] 151∧LocA ok w l∧NameA ok w n v∧X x b∧r=nd 19 v e0 e0 0 b
inductive ValS (ok:Ok) (w:World) (X:Value→List Row→Prop):Value→List Row→Prop
 | var {g:Nat} {k v:ByteArray} {l n:Value}:At ok w g #[.string k,l,n] 83→LocA ok w l→NameA ok w n v→ValS ok w X (.iface 73 (ptr g)) (nd 11 v e0 e0 0 [])
 | int {g:Nat} {k v:ByteArray} {l:Value}:At ok w g #[.string k,l,.string v] 131→LocA ok w l→ValS ok w X (.iface 130 (ptr g)) (nd 12 e0 e0 v 0 [])
 | flt {g:Nat} {k v:ByteArray} {l:Value}:At ok w g #[.string k,l,.string v] 133→LocA ok w l→ValS ok w X (.iface 132 (ptr g)) (nd 13 e0 e0 v 0 [])
 | str {g:Nat} {k v:ByteArray} {l:Value}:At ok w g #[.string k,l,.string v] 135→LocA ok w l→ValS ok w X (.iface 134 (ptr g)) (nd 14 e0 e0 v 0 [])
 | boo {g:Nat} {k:ByteArray} {l:Value} {b:Bool}:At ok w g #[.string k,l,.bool b] 138→LocA ok w l→ValS ok w X (.iface 136 (ptr g)) (nd 15 e0 e0 e0 (if b=true then 1 else 0) [])
 | enm {g:Nat} {k v:ByteArray} {l:Value}:At ok w g #[.string k,l,.string v] 140→LocA ok w l→ValS ok w X (.iface 139 (ptr g)) (nd 16 v e0 e0 0 [])
 | lst {g:Nat} {k:ByteArray} {l sl:Value} {r:List Row}:At ok w g #[.string k,l,sl] 144→LocA ok w l→SlA ok w 77 X sl r→ValS ok w X (.iface 141 (ptr g)) (nd 17 e0 e0 e0 0 r)
 | obj {g:Nat} {k:ByteArray} {l sl:Value} {r:List Row}:At ok w g #[.string k,l,sl] 148→LocA ok w l→SlA ok w 149 (FldA ok w X) sl r→ValS ok w X (.iface 145 (ptr g)) (nd 18 e0 e0 e0 0 r)
def ValA (ok:Ok) (w:World):Nat→Value→List Row→Prop
 | 0=>fun _ _=>False
 | n+1=>ValS ok w (ValA ok w n)
inductive TypS (ok:Ok) (w:World) (X:Value→List Row→Prop):Value→List Row→Prop
 | named {g:Nat} {k v:ByteArray} {l n:Value}:At ok w g #[.string k,l,n] 123→LocA ok w l→NameA ok w n v→TypS ok w X (.iface 122 (ptr g)) (nd 20 v e0 e0 0 [])
 | lst {g:Nat} {k:ByteArray} {l t:Value} {r:List Row}:At ok w g #[.string k,l,t] 127→LocA ok w l→X t r→TypS ok w X (.iface 125 (ptr g)) (nd 21 e0 e0 e0 0 r)
 | non {g:Nat} {k:ByteArray} {l t:Value} {r:List Row}:At ok w g #[.string k,l,t] 129→LocA ok w l→X t r→TypS ok w X (.iface 128 (ptr g)) (nd 22 e0 e0 e0 0 r)
def TypA (ok:Ok) (w:World):Nat→Value→List Row→Prop
 | 0=>fun _ _=>False
 | n+1=>TypS ok w (TypA ok w n)
theorem LocA.fr {ok ok':Ok} {w w':World} {p:Value} (h:LocA ok w p) (hf:Keeps ok ok' w w'):LocA ok' w' p:=by
 obtain ⟨g,a,z,s,h1,h2⟩:=h;exact ⟨g,a,z,s,h1,h2.fr hf⟩
theorem NameA.fr {ok ok':Ok} {w w':World} {p:Value} {v:ByteArray} (h:NameA ok w p v) (hf:Keeps ok ok' w w'):NameA ok' w' p v:=by
 obtain ⟨g,k,l,h1,h2⟩:=h;exact ⟨g,k,l,h1,h2.fr hf⟩
theorem FldA.fr {ok ok':Ok} {w w':World} {X Y:Value→List Row→Prop} {p:Value} {r:List Row} (h:FldA ok w X p r) (hf:Keeps ok ok' w w') (hm:∀ v r,X v r→Y v r):FldA ok' w' Y p r:=by
 obtain ⟨g,k,v,n,l,z,b,h1,h2,h3,h4,h5,h6⟩:=h
 exact ⟨g,k,v,n,l,z,b,h1,h2.fr hf,h3.fr hf,h4.fr hf,hm _ _ h5,h6⟩
theorem ValS.fr {ok ok':Ok} {w w':World} {X Y:Value→List Row→Prop} {p:Value} {r:List Row} (h:ValS ok w X p r) (hf:Keeps ok ok' w w') (hm:∀ v r,X v r→Y v r):ValS ok' w' Y p r:=by
 cases h with
 | var a b c=>exact .var (a.fr hf) (b.fr hf) (c.fr hf)
 | int a b=>exact .int (a.fr hf) (b.fr hf)
 | flt a b=>exact .flt (a.fr hf) (b.fr hf)
 | str a b=>exact .str (a.fr hf) (b.fr hf)
 | boo a b=>exact .boo (a.fr hf) (b.fr hf)
 | enm a b=>exact .enm (a.fr hf) (b.fr hf)
 | lst a b c=>exact .lst (a.fr hf) (b.fr hf) (c.fr hf hm)
 | obj a b c=>exact .obj (a.fr hf) (b.fr hf) (c.fr hf (fun v r h=>h.fr hf hm))
theorem ValA.fr {ok ok':Ok} {w w':World} (hf:Keeps ok ok' w w'):∀ (n:Nat) (p:Value) (r:List Row),ValA ok w n p r→ValA ok' w' n p r:=by
 intro n
 induction n with
 | zero=>intro p r h;exact h
 | succ n ih=>intro p r h;exact ValS.fr h hf ih
theorem ValA.up {ok:Ok} {w:World}:∀ (n:Nat) (p:Value) (r:List Row),ValA ok w n p r→ValA ok w (n+1) p r:=by
 intro n
 induction n with
 | zero=>intro p r h;exact h.elim
 | succ n ih=>intro p r h;exact ValS.fr h (Keeps.refl _ _) ih
theorem TypS.fr {ok ok':Ok} {w w':World} {X Y:Value→List Row→Prop} {p:Value} {r:List Row} (h:TypS ok w X p r) (hf:Keeps ok ok' w w') (hm:∀ v r,X v r→Y v r):TypS ok' w' Y p r:=by
 cases h with
 | named a b c=>exact .named (a.fr hf) (b.fr hf) (c.fr hf)
 | lst a b c=>exact .lst (a.fr hf) (b.fr hf) (hm _ _ c)
 | non a b c=>exact .non (a.fr hf) (b.fr hf) (hm _ _ c)
theorem TypA.fr {ok ok':Ok} {w w':World} (hf:Keeps ok ok' w w'):∀ (n:Nat) (p:Value) (r:List Row),TypA ok w n p r→TypA ok' w' n p r:=by
 intro n
 induction n with
 | zero=>intro p r h;exact h
 | succ n ih=>intro p r h;exact TypS.fr h hf ih
def rv (x:Row):List Value:=[.int .i64 x.1,.string x.2.1,.string x.2.2.1,.string x.2.2.2.1,.int .i64 x.2.2.2.2.1,.int .i64 x.2.2.2.2.2]
def flat (r:List Row):List Value:=r.flatMap rv
theorem flat_len (r:List Row):(flat r).length=r.length * 6:=by
 induction r with
 | nil=>rfl
 | cons x r ih=>simp only [flat,List.flatMap_cons,List.length_append,List.length_cons] at ih ⊢;rw [ih];simp [rv];omega
theorem flat_app (a b:List Row):flat (a++b)=flat a++flat b:=List.flatMap_append
theorem flat_set (a kids:List Row) (k:Int) (nm al tx:ByteArray) (fl:Int):(flat ((a++[(k,nm,al,tx,fl,0)])++kids)).set (a.length * 6+5) (.int .i64 ((kids.length:Int)+1))=flat (a++nd k nm al tx fl kids):=by
 rw [List.append_assoc,flat_app,flat_app,List.set_append_right _ _ (by rw [flat_len];omega),flat_len,show a.length * 6+5 - a.length * 6=5 from by omega,flat_app a (nd k nm al tx fl kids)]
 rfl
structure TF (B:Nat) (w w':World):Prop where
 low:Below B w w'
 typ:∀ (g:Nat) (cs:Array Value) (t:TypeId),w.heap[g]?=some (.cells cs t (0,0))→t≠55→t≠121→t≠38→w'.heap[g]?=some (.cells cs t (0,0))
theorem TF.refl (B:Nat) (w:World):TF B w w:=⟨Below.refl _ _,fun _ _ _ h _ _ _=>h⟩
theorem TF.trans {B:Nat} {a b c:World} (h:TF B a b) (k:TF B b c):TF B a c:=⟨h.low.trans k.low,fun g cs t h1 h2 h3 h4=>k.typ g cs t (h.typ g cs t h1 h2 h3 h4) h2 h3 h4⟩
theorem TF.of {B:Nat} {w w':World} (hB:B≤w.heap.size) (h:Below w.heap.size w w'):TF B w w':=⟨h.mono hB,fun g cs t h1 _ _ _=>blk_below h1 h⟩
theorem TF.step {B:Nat} {w w1 w2:World} (h:TF B w w1) (hB:B≤w1.heap.size) (k:Below w1.heap.size w1 w2):TF B w w2:=h.trans (.of hB k)
theorem TF.big {B:Nat} {w w':World} (h:TF B w w') (hB:B≤w.heap.size):B≤w'.heap.size:=Nat.le_trans hB h.low.size
theorem TF.drewN {B:Nat} {w w1:World} (h:TF B w w1) (n:Nat):TF B w (w1.drewN n):=⟨pw_below_drewN h.low n,h.typ⟩
theorem TF.put {B:Nat} {w w1:World} (h:TF B w w1) {p:Addr} (hp:B≤p.block) {cs:Array Value} {t:TypeId} (hb:w1.heap[p.block]?=some (.cells cs t (0,0))) (ht:t=55∨t=121∨t=38) (u:Value):TF B w (w1.setCell p u) :=
 ⟨h.low.setCell hp _,fun g c2 t2 h1 h2 h3 h4=>by
  have h5:=h.typ g c2 t2 h1 h2 h3 h4
  refine blk_far h5 (fun e=>?_) u
  rw [e,hb] at h5
  injection h5 with h5;injection h5 with h6 h7 h8
  rcases ht with rfl | rfl | rfl
  ·exact h2 h7.symm
  ·exact h3 h7.symm
  ·exact h4 h7.symm⟩
theorem own_typ {w w':World} {base:Nat} {e:TypeId} {s n:Nat} {v:Value} {xs:List Value} (h:w.ownsRow base e s v n xs) (hk:∀ (g:Nat) (cs:Array Value),w.heap[g]?=some (.cells cs e (0,0))→w'.heap[g]?=some (.cells cs e (0,0))):w'.ownsRow base e s v n xs:=by
 refine ⟨h.1,?_⟩
 rcases h.2 with h2 | ⟨g,cap,cur,hv,hg,hh,r⟩
 ·exact .inl h2
 ·exact .inr ⟨g,cap,cur,hv,hg,hk _ _ hh,r⟩
theorem own_ty {w:World} {base:Nat} {e t:TypeId} {s n g:Nat} {v:Value} {xs:List Value} {cs:Array Value} (h:w.ownsRow base e s v n xs) (hv:v.ownBlock=some g) (hb:w.heap[g]?=some (.cells cs t (0,0))):t=e:=by
 obtain ⟨_,⟨rfl,_⟩ | ⟨g',cap,cur,rfl,hg,hh,_⟩⟩:=h
 ·simp [Value.ownBlock] at hv
 ·simp [Value.ownBlock] at hv
  subst hv
  rw [hb] at hh
  injection hh with hh
  injection hh with h1 h2 h3
theorem grown_typ {w w1:World} {base:Nat} {e t:TypeId} {s n g:Nat} {v:Value} {xs:List Value} {cs:Array Value} (h:w.ownsRow base e s v n xs) (hg:w.grownBy w1 v.ownBlock) (hb:w.heap[g]?=some (.cells cs t (0,0))) (hne:t≠e):w1.heap[g]?=some (.cells cs t (0,0)) :=
 (hg.block g (blk_lt hb) (fun hv=>hne (own_ty h hv.symm hb))).trans hb
theorem TF.grown {B:Nat} {w w1 w2:World} (h:TF B w w1) {e:TypeId} {s n:Nat} {v:Value} {xs:List Value} (ho:w1.ownsRow B e s v n xs) (he:e=55∨e=121∨e=38) (hB:B≤w1.heap.size) (hg:w1.grownBy w2 v.ownBlock):TF B w w2 :=
 ⟨pw_below_grown h.low _ hB hg (fun k hk=>(World.ownsRow.lt ho k hk).1),fun g c2 t2 h1 h2 h3 h4=>grown_typ ho hg (h.typ g c2 t2 h1 h2 h3 h4) (fun e'=>by rcases he with rfl | rfl | rfl;exact h2 e';exact h3 e';exact h4 e')⟩
structure TK (B gt:Nat) (w:World) (rows:List Row):Prop where
 lo:B≤gt
 ex:∃ (A:Option Addr) (cp:Nat) (A2:Option Addr) (cp2:Nat) (xs:List Value),w.heap[gt]?=some (.cells #[.slice A rows.length cp,.slice A2 rows.length cp2,.bool false] 38 (0,0))∧w.ownsRow B 55 6 (.slice A rows.length cp) rows.length (flat rows)∧w.ownsRow B 121 2 (.slice A2 rows.length cp2) rows.length xs
theorem TK.step {B gt:Nat} {w w':World} {rows:List Row} (h:TK B gt w rows) (hb:Below w.heap.size w w'):TK B gt w' rows:=by
 obtain ⟨h0,A,cp,A2,cp2,xs,h1,h2,h3⟩:=h
 exact ⟨h0,A,cp,A2,cp2,xs,blk_below h1 hb,own_typ h2 (fun g cs h=>blk_below h hb),own_typ h3 (fun g cs h=>blk_below h hb)⟩
def TP (B gt:Nat) (w:World) (rows:List Row) (e:Ending) (w':World):Prop:=e=.returned (.tuple #[])∧TK B gt w' rows∧TF B w w'
def Wi (B gt:Nat) (w:World) (f:Value) (kids:List Row):Prop :=
 (f=.nilFunc∧kids=[])∨∃ (n:Nat) (cs:Array Value),f=.func (.func n) #[] cs∧(∀ w:World,Sem.run Tryz.prog (callFunc n cs) w=.ok (.enter n cs) w)∧∀ (w1:World) (rows:List Row),TF B w w1→TK B gt w1 rows→rows.length+kids.length≤1000000→Calls Tryz.prog n cs w1 (TP B gt w1 (rows++kids))
abbrev to_ (n:Nat):Ok:=fun g=>g < n
theorem TF.keeps {B:Nat} {w w':World} (h:TF B w w'):Keeps (to_ B) (to_ B) w w':=fun g o hg hb=>⟨hg,(h.low.block g hg).trans hb⟩
theorem keeps_to {n:Nat} {w:World}:Keeps (from_ n) (to_ w.heap.size) w w:=fun g o hg hb=>⟨blk_lt hb,hb⟩
end Go.Proofs.YthgcghpcikbnkaaGreatDoor.R
