/- A part of the proof of the theorem of this claim: Gr, Bnd. No condition of its own. -/
set_option maxHeartbeats 16000000
set_option maxRecDepth 100000
namespace Go.Proofs.YthgcghpcikbnkaaGreatDoor.R
set_option linter.unusedVariables false
structure Tk where
 k:Int
 a:Int
 z:Int
 v:ByteArray
inductive O (α:Type) where
 | out
 | bad
 | ok (a:α)
def O.bind {α β:Type} (x:O α) (f:α→O β):O β:=match x with
 | .out=>.out
 | .bad=>.bad
 | .ok a=>f a
@[simp] theorem O.bind_ok {α β:Type} (a:α) (f:α→O β):(O.ok a).bind f=f a:=rfl
@[simp] theorem O.bind_bad {α β:Type} (f:α→O β):(O.bad:O α).bind f=.bad:=rfl
@[simp] theorem O.bind_out {α β:Type} (f:α→O β):(O.out:O α).bind f=.out:=rfl
abbrev Row:=Int × ByteArray × ByteArray × ByteArray × Int × Int
abbrev e0:ByteArray:=⟨#[]⟩
def nd (k:Int) (nm al tx:ByteArray) (fl:Int) (kids:List Row):List Row:=(k,nm,al,tx,fl,(kids.length:Int)+1) :: kids
def hk:List Tk→Int
 | []=>0
 | t :: _=>t.k
def hv:List Tk→ByteArray
 | []=>e0
 | t :: _=>t.v
def adv:List Tk→O (List Tk)
 | []=>.bad
 | t :: r=>if t.k=1 then .ok (t :: r) else match r with
   | []=>.bad
   | u :: r=>.ok (u :: r)
def must (k:Int) (l:List Tk):O (List Tk):=if hk l=k then adv l else .bad
def pName (l:List Tk):O (ByteArray × List Tk):=if hk l=15 then (adv l).bind fun r=>.ok (hv l,r) else .bad
def many (item:List Tk→O (List Row × List Tk)) (cl:Int):Nat→List Tk→O (List Row × List Tk)
 | 0,_=>.out
 | f+1,l=>if hk l=cl then (adv l).bind fun r=>.ok ([],r) else (item l).bind fun x=>(many item cl f x.2).bind fun y=>.ok (x.1++y.1,y.2)
def some1 (item:List Tk→O (List Row × List Tk)) (op cl:Int) (f:Nat) (l:List Tk):O (List Row × List Tk) :=
 (must op l).bind fun r=>if hk r=cl then .bad else many item cl f r
abbrev bTrue:ByteArray:=⟨#[116,114,117,101]⟩
abbrev bFalse:ByteArray:=⟨#[102,97,108,115,101]⟩
abbrev bNull:ByteArray:=⟨#[110,117,108,108]⟩
abbrev bOn:ByteArray:=⟨#[111,110]⟩
def pNV (k:Int) (val:List Tk→O (List Row × List Tk)) (l:List Tk):O (List Row × List Tk) :=
 (pName l).bind fun n=>(must 7 n.2).bind fun r=>(val r).bind fun x=>.ok (nd k n.1 e0 e0 0 x.1,x.2)
def one (x:List Row) (l:List Tk):O (List Row × List Tk):=(adv l).bind fun r=>.ok (x,r)
def pVar (l:List Tk):O (ByteArray × List Tk):=(must 3 l).bind fun r=>pName r
def pVal:Nat→Bool→List Tk→O (List Row × List Tk)
 | 0,_,_=>.out
 | f+1,c,l =>
   if hk l=10 then (adv l).bind fun r=>(many (pVal f c) 11 f r).bind fun x=>.ok (nd 17 e0 e0 e0 0 x.1,x.2)
   else if hk l=12 then (adv l).bind fun r=>(many (pNV 19 (pVal f c)) 14 f r).bind fun x=>.ok (nd 18 e0 e0 e0 0 x.1,x.2)
   else if hk l=16 then one (nd 12 e0 e0 (hv l) 0 []) l
   else if hk l=17 then one (nd 13 e0 e0 (hv l) 0 []) l
   else if hk l=18∨hk l=19 then one (nd 14 e0 e0 (hv l) 0 []) l
   else if hk l=15 then (if hv l=bTrue then one (nd 15 e0 e0 e0 1 []) l else if hv l=bFalse then one (nd 15 e0 e0 e0 0 []) l else if hv l=bNull then .bad else one (nd 16 (hv l) e0 e0 0 []) l)
   else if hk l=3∧c=false then (pVar l).bind fun n=>.ok (nd 11 n.1 e0 e0 0 [],n.2)
   else .bad
def pArgs (f:Nat) (l:List Tk):O (List Row × List Tk):=if hk l=4 then some1 (pNV 9 (pVal f false)) 4 5 f l else .ok ([],l)
def pDir (f:Nat) (l:List Tk):O (List Row × List Tk) :=
 (must 9 l).bind fun r=>(pName r).bind fun n=>(pArgs f n.2).bind fun x=>.ok (nd 10 n.1 e0 e0 0 x.1,x.2)
def pDirs (g:Nat):Nat→List Tk→O (List Row × List Tk)
 | 0,_=>.out
 | f+1,l=>if hk l=9 then (pDir g l).bind fun x=>(pDirs g f x.2).bind fun y=>.ok (x.1++y.1,y.2) else .ok ([],l)
def pSet (sel:List Tk→O (List Row × List Tk)) (f:Nat) (l:List Tk):O (List Row × List Tk) :=
 (some1 sel 12 14 f l).bind fun x=>.ok (nd 5 e0 e0 e0 0 x.1,x.2)
def pSel:Nat→List Tk→O (List Row × List Tk)
 | 0,_=>.out
 | f+1,l =>
   if hk l=6 then (adv l).bind fun r =>
    if hk r=15∧hv r≠bOn then (pName r).bind fun n=>(pDirs f f n.2).bind fun x=>.ok (nd 7 n.1 e0 e0 0 x.1,x.2)
    else (if hv r=bOn then (adv r).bind fun r=>pName r else .ok (e0,r)).bind fun n=>(pDirs f f n.2).bind fun x=>(pSet (pSel f) f x.2).bind fun y=>.ok (nd 8 e0 e0 n.1 0 (x.1++y.1),y.2)
   else (pName l).bind fun n=>(if hk n.2=7 then (adv n.2).bind fun r=>(pName r).bind fun m=>.ok (m.1,n.1,m.2) else .ok (n.1,e0,n.2)).bind fun m =>
    (pArgs f m.2.2).bind fun a=>(pDirs f f a.2).bind fun d=>(if hk d.2=12 then pSet (pSel f) f d.2 else .ok ([],d.2)).bind fun y=>.ok (nd 6 m.1 m.2.1 e0 0 (a.1++d.1++y.1),y.2)
end Go.Proofs.YthgcghpcikbnkaaGreatDoor.R
namespace Go.Proofs.YthgcghpcikbnkaaGreatDoor.R
set_option linter.unusedVariables false
set_option linter.unusedSimpArgs false
theorem bok {α β:Type} {x:O α} {f:α→O β} {b:β} (h:x.bind f=.ok b):∃ a,x=.ok a∧f a=.ok b:=by
 cases x with
 | out=>rw [O.bind_out] at h;cases h
 | bad=>rw [O.bind_bad] at h;cases h
 | ok a=>exact ⟨a,rfl,h⟩
def Fits (it:List Tk→O (List Row × List Tk)):Prop:=∀ l rows r,it l=.ok (rows,r)→rows.length+r.length≤l.length
theorem adv_le {l r:List Tk} (h:adv l=.ok r):hk l≠1→r.length+1≤l.length:=by
 intro hk1
 cases l with
 | nil=>cases h
 | cons t l =>
   have ht:t.k≠1:=hk1
   simp only [adv,if_neg ht] at h
   cases l with
   | nil=>cases h
   | cons u l=>cases h;exact Nat.le_refl _
theorem must_le {k:Int} {l r:List Tk} (h:must k l=.ok r) (hk1:k≠1):r.length+1≤l.length:=by
 unfold must at h
 split at h
 ·rename_i e;exact adv_le h (by rw [e];exact hk1)
 ·cases h
theorem pName_le {l:List Tk} {n:ByteArray} {r:List Tk} (h:pName l=.ok (n,r)):r.length+1≤l.length:=by
 unfold pName at h
 split at h
 ·rename_i e
  obtain ⟨a,h1,h2⟩:=bok h
  cases h2
  exact adv_le h1 (by rw [e];decide)
 ·cases h
theorem many_le {it:List Tk→O (List Row × List Tk)} (hi:Fits it) {cl:Int} (hc:cl≠1):∀ (f:Nat) (l:List Tk) (rows:List Row) (r:List Tk),many it cl f l=.ok (rows,r)→rows.length+r.length+1≤l.length:=by
 intro f
 induction f with
 | zero=>intro l rows r h;cases h
 | succ f ih =>
   intro l rows r h
   unfold many at h
   split at h
   ·rename_i e
    obtain ⟨a,h1,h2⟩:=bok h
    cases h2
    have:=adv_le h1 (by rw [e];exact hc)
    simp only [List.length_nil];omega
   ·obtain ⟨⟨a,l1⟩,h1,h2⟩:=bok h
    obtain ⟨⟨b,l2⟩,h3,h4⟩:=bok h2
    cases h4
    have:=hi _ _ _ h1
    have:=ih _ _ _ h3
    simp only [List.length_append] at *;omega
theorem some1_le {it:List Tk→O (List Row × List Tk)} (hi:Fits it) {op cl:Int} (ho:op≠1) (hc:cl≠1) {f:Nat} {l:List Tk} {rows:List Row} {r:List Tk} (h:some1 it op cl f l=.ok (rows,r)):rows.length+r.length+2≤l.length:=by
 obtain ⟨a,h1,h2⟩:=bok h
 split at h2
 ·cases h2
 ·have:=must_le h1 ho
  have:=many_le hi hc _ _ _ _ h2
  omega
theorem nd_len (k:Int) (nm al tx:ByteArray) (fl:Int) (kids:List Row):(nd k nm al tx fl kids).length=kids.length+1:=rfl
theorem pNV_fits {k:Int} {val:List Tk→O (List Row × List Tk)} (hv:Fits val):Fits (pNV k val):=by
 intro l rows r h
 obtain ⟨⟨n,l1⟩,h1,h2⟩:=bok h
 obtain ⟨l2,h3,h4⟩:=bok h2
 obtain ⟨⟨x,l3⟩,h5,h6⟩:=bok h4
 cases h6
 have:=pName_le h1
 have:=must_le h3 (by decide)
 have:=hv _ _ _ h5
 rw [nd_len];simp only at *;omega
theorem one_le {x:List Row} {l:List Tk} {rows:List Row} {r:List Tk} (h:one x l=.ok (rows,r)) (hk1:hk l≠1):rows=x∧r.length+1≤l.length:=by
 obtain ⟨a,h1,h2⟩:=bok h
 cases h2
 exact ⟨rfl,adv_le h1 hk1⟩
theorem pVar_le {l:List Tk} {n:ByteArray} {r:List Tk} (h:pVar l=.ok (n,r)):r.length+2≤l.length:=by
 obtain ⟨a,h1,h2⟩:=bok h
 have:=must_le h1 (by decide)
 have:=pName_le h2
 omega
theorem pVal_fits (c:Bool):∀ f,Fits (pVal f c):=by
 intro f
 induction f with
 | zero=>intro l rows r h;cases h
 | succ f ih =>
   intro l rows r h
   have leaf:∀ (x:List Row),x.length=1→hk l≠1→one x l=.ok (rows,r)→rows.length+r.length≤l.length:=by
    intro x hx h1 h2
    obtain ⟨rfl,h3⟩:=one_le h2 h1
    omega
   unfold pVal at h
   split at h
   ·rename_i e
    obtain ⟨a,h1,h2⟩:=bok h
    obtain ⟨⟨b,l1⟩,h3,h4⟩:=bok h2
    cases h4
    have:=adv_le h1 (by rw [e];decide)
    have:=many_le ih (by decide) _ _ _ _ h3
    rw [nd_len];simp only at *;omega
   split at h
   ·rename_i e
    obtain ⟨a,h1,h2⟩:=bok h
    obtain ⟨⟨b,l1⟩,h3,h4⟩:=bok h2
    cases h4
    have:=adv_le h1 (by rw [e];decide)
    have:=many_le (pNV_fits ih) (by decide) _ _ _ _ h3
    rw [nd_len];simp only at *;omega
   split at h
   ·rename_i e;exact leaf _ rfl (by rw [e];decide) h
   split at h
   ·rename_i e;exact leaf _ rfl (by rw [e];decide) h
   split at h
   ·rename_i e;exact leaf _ rfl (by rcases e with e | e <;> rw [e] <;> decide) h
   split at h
   ·rename_i e
    have hk1:hk l≠1:=by rw [e];decide
    repeat' split at h
    ·exact leaf _ rfl hk1 h
    ·exact leaf _ rfl hk1 h
    ·cases h
    ·exact leaf _ rfl hk1 h
   split at h
   ·obtain ⟨⟨n,l1⟩,h1,h2⟩:=bok h
    cases h2
    have:=pVar_le h1
    rw [nd_len];simp only [List.length_nil] at *;omega
   ·cases h
theorem opt_fits {it:List Tk→O (List Row × List Tk)} (hi:Fits it) {op cl:Int} (ho:op≠1) (hc:cl≠1) {f:Nat}:Fits fun l=>if hk l=op then some1 it op cl f l else .ok ([],l):=by
 intro l rows r h
 simp only at h
 split at h
 ·have:=some1_le hi ho hc h;omega
 ·cases h;simp
theorem pArgs_fits (f:Nat):Fits (pArgs f):=opt_fits (pNV_fits (pVal_fits false f)) (by decide) (by decide)
theorem pDir_fits (f:Nat):Fits (pDir f):=by
 intro l rows r h
 obtain ⟨l1,h1,h2⟩:=bok h
 obtain ⟨⟨n,l2⟩,h3,h4⟩:=bok h2
 obtain ⟨⟨x,l3⟩,h5,h6⟩:=bok h4
 cases h6
 have:=must_le h1 (by decide)
 have:=pName_le h3
 have:=pArgs_fits f _ _ _ h5
 rw [nd_len];simp only at *;omega
theorem pDirs_fits (g:Nat):∀ f,Fits (pDirs g f):=by
 intro f
 induction f with
 | zero=>intro l rows r h;cases h
 | succ f ih =>
   intro l rows r h
   unfold pDirs at h
   split at h
   ·obtain ⟨⟨a,l1⟩,h1,h2⟩:=bok h
    obtain ⟨⟨b,l2⟩,h3,h4⟩:=bok h2
    cases h4
    have:=pDir_fits g _ _ _ h1
    have:=ih _ _ _ h3
    simp only [List.length_append] at *;omega
   ·cases h;simp
theorem pSet_fits {sel:List Tk→O (List Row × List Tk)} (hs:Fits sel) (f:Nat):Fits (pSet sel f):=by
 intro l rows r h
 obtain ⟨⟨a,l1⟩,h1,h2⟩:=bok h
 cases h2
 have:=some1_le hs (by decide) (by decide) h1
 rw [nd_len];simp only at *;omega
theorem pSel_fits:∀ f,Fits (pSel f):=by
 intro f
 induction f with
 | zero=>intro l rows r h;cases h
 | succ f ih =>
   intro l rows r h
   unfold pSel at h
   split at h
   ·rename_i e
    obtain ⟨l0,h0,h1⟩:=bok h
    have:=adv_le h0 (by rw [e];decide)
    split at h1
    ·obtain ⟨⟨n,l1⟩,h2,h3⟩:=bok h1
     obtain ⟨⟨x,l2⟩,h4,h5⟩:=bok h3
     cases h5
     have:=pName_le h2
     have:=pDirs_fits f f _ _ _ h4
     rw [nd_len];simp only at *;omega
    ·obtain ⟨⟨n,l1⟩,h2,h3⟩:=bok h1
     obtain ⟨⟨x,l2⟩,h4,h5⟩:=bok h3
     obtain ⟨⟨y,l3⟩,h6,h7⟩:=bok h5
     cases h7
     have hn:l1.length≤l0.length:=by
      split at h2
      ·rename_i hv
       obtain ⟨l9,h8,h9⟩:=bok h2
       have:=pName_le h9
       by_cases hk1:hk l0=1
       ·cases l0 with
        | nil=>cases h8
        | cons t q =>
          have ht:t.k=1:=hk1
          simp only [adv,if_pos ht] at h8
          cases h8
          omega
       ·have:=adv_le h8 hk1;omega
      ·cases h2;exact Nat.le_refl _
     have:=pDirs_fits f f _ _ _ h4
     have:=pSet_fits ih f _ _ _ h6
     rw [nd_len,List.length_append];simp only at *;omega
   ·obtain ⟨⟨n,l1⟩,h1,h2⟩:=bok h
    obtain ⟨⟨m,al,l2⟩,h3,h4⟩:=bok h2
    obtain ⟨⟨a,l3⟩,h5,h6⟩:=bok h4
    obtain ⟨⟨d,l4⟩,h7,h8⟩:=bok h6
    obtain ⟨⟨y,l5⟩,h9,h10⟩:=bok h8
    cases h10
    have:=pName_le h1
    have hm:l2.length≤l1.length:=by
     split at h3
     ·rename_i e
      obtain ⟨l9,h11,h12⟩:=bok h3
      obtain ⟨⟨m2,l10⟩,h13,h14⟩:=bok h12
      cases h14
      have:=adv_le h11 (by simp only at e;rw [e];decide)
      have:=pName_le h13
      simp only at *;omega
     ·cases h3;exact Nat.le_refl _
    have:=pArgs_fits f _ _ _ h5
    have:=pDirs_fits f f _ _ _ h7
    have hy:y.length+l5.length≤l4.length:=by
     split at h9
     ·exact pSet_fits ih f _ _ _ h9
     ·cases h9;simp
    rw [nd_len];simp only [List.length_append] at *;omega
end Go.Proofs.YthgcghpcikbnkaaGreatDoor.R
