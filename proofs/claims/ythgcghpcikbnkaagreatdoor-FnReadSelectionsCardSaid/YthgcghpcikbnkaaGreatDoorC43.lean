/- A part of the proof of the theorem of this claim: Srd, Sut, Sam, Lwv, Srs, Lws. No condition of its own. -/
import Derived.Test.YthgcghpcikbnkaaGreatDoorC32
import Derived.Test.YthgcghpcikbnkaaGreatDoorC33
import Derived.Test.YthgcghpcikbnkaaGreatDoorC35
import Derived.Test.YthgcghpcikbnkaaGreatDoorC11
import Derived.Test.YthgcghpcikbnkaaGreatDoorC27
import Derived.Test.YthgcghpcikbnkaaGreatDoorB4
import Derived.Test.YthgcghpcikbnkaaGreatDoorC41
import Derived.Test.YthgcghpcikbnkaaGreatDoorC42
import Derived.Test.YthgcghpcikbnkaaGreatDoorC37
set_option maxHeartbeats 16000000
set_option maxRecDepth 100000
namespace Go.Proofs.YthgcghpcikbnkaaGreatDoor.R
open Go.RowKit Go.Proofs.YthgcghpcikbnkaaGreatDoorW.PrintWords Go.Proofs.YthgcghpcikbnkaaGreatDoorW.PrintLast Go.Proofs.YthgcghpcikbnkaaGreatDoorW.PrintMore
set_option linter.unusedVariables false
set_option linter.unusedSimpArgs false
theorem results_tmp4 {fn:Func} {t u v x:Tmp} (h:fn.results=#[.tmp t,.tmp u,.tmp v,.tmp x]) (tmps:Array Value) (P:Program) (w:World) :
 (results fn tmps).run P w=.ok (.tuple #[tmps.getD t undef,tmps.getD u undef,tmps.getD v undef,tmps.getD x undef]) w:=by
 simp [results,h]
abbrev tlOf (s:ByteArray) (ok:Bool):List Tk:=if ok=true then [eofT s] else []
theorem tl_of {s:ByteArray} {out:List Tk} (ok:Bool) (h:∀ x ∈ out,TkOk x):Tl out (tlOf s ok):=by
 refine ⟨fun t ht=>(h t ht).1,fun t ht=>(h t ht).2,?_⟩
 cases ok
 ·exact .inl rfl
 ·exact .inr ⟨_,rfl,rfl,rfl⟩
abbrev s00:St:=⟨0,0,false,false⟩
theorem rd_pure {s:ByteArray} {out:List Tk} {ok:Bool} {P:List Tk→O (List Row × List Tk)} {x:RS} (hun:x.2.un=false) (hx:Lv out (tlOf s ok) s00→Rl out (tlOf s ok) (P (rem out (tlOf s ok) s00)) x 0) :
 ((x.2.bad=true∨(ok=false∧out.length≤x.2.a))→front (out++tlOf s ok) (P (out++tlOf s ok))=.bad) ∧
 ((x.2.bad=false∧(ok=true∨x.2.a < out.length))→front (out++tlOf s ok) (P (out++tlOf s ok))=.ok (ers x.1,rem out (tlOf s ok) x.2)):=by
 by_cases hl:out++tlOf s ok=[]
 ·have h1:=List.append_eq_nil_iff.1 hl
  refine ⟨fun _=>by rw [hl];rfl,fun h=>?_⟩
  rcases h.2 with h2 | h2
  ·rw [h2] at h1;exact absurd h1.2 (by simp)
  ·rw [h1.1] at h2;exact absurd h2 (by simp)
 ·have lv:Lv out (tlOf s ok) s00:=by
   refine ⟨rfl,rfl,Nat.zero_le _,fun e=>?_,by decide,by decide⟩
   rw [e,List.append_nil] at hl
   exact List.length_pos_iff.2 hl
  have hf:front (out++tlOf s ok) (P (out++tlOf s ok))=P (out++tlOf s ok):=by
   cases hq:out++tlOf s ok with
   | nil=>exact absurd hq hl
   | cons a b=>rfl
  rw [hf]
  have hr:rem out (tlOf s ok) s00=out++tlOf s ok:=rfl
  rw [hr] at hx
  rcases hx lv with h | ⟨h1,h2⟩ | ⟨h1,_,h2⟩
  ·rw [hun] at h;cases h
  ·refine ⟨fun _=>h2,fun h=>?_⟩
   rcases h1 with h1 | ⟨h1,h3⟩
   ·rw [h.1] at h1;cases h1
   ·rcases h.2 with h4 | h4
    ·rw [h4] at h1;cases h1
    ·omega
  ·refine ⟨fun h=>?_,fun _=>h2⟩
   rcases h with h | ⟨h3,h4⟩
   ·rw [h1.b] at h;cases h
   ·have:=h1.no (by rw [h3];rfl)
    omega
def ReadP (s:ByteArray) (P:List Tk→O (List Row × List Tk)) (w:World) (e:Ending) (w':World):Prop:=∃ (rows:List Row) (A:Option Addr) (n cp:Nat) (next:Int) (ok sure:Bool),e=.returned (.tuple #[.slice A n cp,.int .i64 next,.bool ok,.bool sure])∧Below w.heap.size w w'∧(sure=true→∃ l,Lexes BVal s 0 l∧l.length≤2001∧((ok=false∧front l (P l)=.bad)∨(ok=true∧∃ rest,n=rows.length∧rows.length≤900000∧w'.ownsRow w.heap.size 55 6 (.slice A n cp) n (flat rows)∧front l (P l)=.ok (ers rows,rest)∧(next < 0∨∃ t r,rest=t :: r∧next=t.a))))
structure RdH (s:ByteArray) (P:List Tk→O (List Row × List Tk)) (w w3:World) (out:List Tk) (ok sure:Bool) (r:List Row) (s':St) (A:Option Addr) (cp:Nat):Prop where
 lx:sure=true→Lexes BVal s 0 (out++tlOf s ok)
 ln:out.length≤2000
 hx:Lv out (tlOf s ok) s00→Rl out (tlOf s ok) (P (rem out (tlOf s ok) s00)) (r,s') 0
 hr:r.length≤900000
 bw:Below w.heap.size w w3
 ow:w3.ownsRow w.heap.size 55 6 (.slice A r.length cp) r.length (flat r)
theorem RdH.no {s:ByteArray} {P:List Tk→O (List Row × List Tk)} {w w3:World} {out:List Tk} {ok sure su:Bool} {r:List Row} {s':St} {A:Option Addr} {cp:Nat} (h:RdH s P w w3 out ok sure r s' A cp) (hsu:su=true→sure=true∧s'.un=false) (hb:s'.bad=true∨(ok=false∧out.length≤s'.a)) (n:Nat):ReadP s P w (.returned (.tuple #[.slice none 0 0,.int .i64 0,.bool false,.bool su])) (w3.drewN n):=by
 refine ⟨[],none,0,0,0,false,su,rfl,pw_below_drewN h.bw n,fun e=>?_⟩
 obtain ⟨h1,h2⟩:=hsu e
 refine ⟨_,h.lx h1,?_,.inl ⟨rfl,(rd_pure (x:=(r,s')) h2 h.hx).1 hb⟩⟩
 have:=h.ln
 rw [List.length_append]
 cases ok
 ·show out.length+0≤2001;omega
 ·show out.length+1≤2001;omega
theorem RdH.yes {s:ByteArray} {P:List Tk→O (List Row × List Tk)} {w w3:World} {out:List Tk} {ok sure su:Bool} {r:List Row} {s':St} {A:Option Addr} {cp:Nat} (h:RdH s P w w3 out ok sure r s' A cp) (hsu:su=true→sure=true∧s'.un=false) (hb:s'.bad=false∧(ok=true∨s'.a < out.length)) (n:Nat) {next:Int} (hn:next < 0∨∃ h:s'.a < out.length,next=(out[s'.a]).a):ReadP s P w (.returned (.tuple #[.slice A r.length cp,.int .i64 next,.bool true,.bool su])) (w3.drewN n):=by
 refine ⟨r,A,r.length,cp,next,true,su,rfl,pw_below_drewN h.bw n,fun e=>?_⟩
 obtain ⟨h1,h2⟩:=hsu e
 refine ⟨_,h.lx h1,?_,.inr ⟨rfl,_,rfl,h.hr,own_typ h.ow (fun g cs x=>x),(rd_pure (x:=(r,s')) h2 h.hx).2 hb,?_⟩⟩
 ·have:=h.ln
  rw [List.length_append]
  cases ok
  ·show out.length+0≤2001;omega
  ·show out.length+1≤2001;omega
 ·rcases hn with hn | ⟨h3,h4⟩
  ·exact .inl hn
  ·refine .inr ⟨out[s'.a],out.drop (s'.a+1)++tlOf s ok,?_,h4⟩
   show out.drop s'.a++tlOf s ok=_
   rw [List.drop_eq_getElem_cons h3];rfl
def BoQ (w:World) (e:Ending) (w':World):Prop:=∃ b:Bool,e=.returned (.bool b)∧w'=w
theorem utf8_q (s:ByteArray) (hs:s.size≤2000) (w:World):Calls Tryz.prog 15 #[.string s] w (BoQ w):=by
 have HS:=mkA hs
 clear hs
 go_enter Tryz.func15,Tryz.ntmps15
 go_wp2
 go_loop [3] (fun v3=>∃ p:Nat,v3=.int .i64 p∧Aside0 (p≤s.size)) (fun v3=>s.size - (intOf v3).toNat)
 case atStart=>exact ⟨0,rfl,⟨Nat.zero_le _⟩⟩
 case round =>
  obtain ⟨p,rfl,HR⟩:=hrel
  by_cases hp:p < s.size
  case neg =>
   have q1:((p:Int) < (s.size:Int))=False:=eq_false (by omega)
   have q2:(p < s.size)=False:=eq_false hp
   clear hp
   go_wp2
   go_ret
   exact ⟨_,rfl,rfl⟩
  case pos =>
   have q1:((p:Int) < (s.size:Int))=True:=eq_true (by omega)
   have q2:(p < s.size)=True:=eq_true hp
   have HPt:=mkA (ptF_ok s p)
   have HP0:=mkA (point_d s p hp HS.out w)
   obtain ⟨c,hc⟩:∃ c,c=(ptF s p).1:=⟨_,rfl⟩
   obtain ⟨n,hn⟩:∃ n,n=(ptF s p).2:=⟨_,rfl⟩
   rw [← hc,← hn] at HPt HP0
   have HPP:=mkA hp
   clear hc hn hp
   by_cases hn:n=0
   case pos =>
    subst hn
    go_wp2_with (first
     | (go_at_call 33;(with_reducible refine HP0.out.mono ?_);rintro e w_ ⟨rfl,hw_⟩;subst w_))
    go_ret
    exact ⟨_,rfl,rfl⟩
   case neg =>
    have p0:(n == 0)=false:=beq_eq_false_iff_ne.mpr hn
    obtain ⟨m,hm,hm1,hm2⟩:∃ m:Nat,n=m∧1≤m∧p+m≤s.size:=by
     rcases HPt.out with h | ⟨h,_,_⟩ | ⟨m,h1,h2,h3,_⟩
     ·exact absurd h hn
     ·exact ⟨1,h,Nat.le_refl _,HPP.out⟩
     ·exact ⟨m,h1,by omega,h3⟩
    subst hm
    have W:wrap64 ((p:Int)+(m:Int))=((p+m:Nat):Int):=by have:=HS.out;exact (w64 (by omega) (by omega)).trans (by omega)
    obtain ⟨j,hj⟩:∃ j:Nat,j=p+m:=⟨_,rfl⟩
    rw [← hj] at W
    have HJ:=mkA (show p < j∧j≤s.size by omega)
    clear hn hm1 hm2 hj
    go_wp2_with (first
     | (go_at_call 33;(with_reducible refine HP0.out.mono ?_);rintro e w_ ⟨rfl,hw_⟩;subst w_))
    go_round
    case rel=>exact ⟨j,congrArg (Value.int .i64) W,⟨HJ.out.2⟩⟩
    case measure=>rw [W];have:=HJ.out;simp only [intOf];omega
theorem short_q (s:ByteArray) (hs:s.size≤2000) (w:World):Calls Tryz.prog 8 #[.string s] w (BoQ w):=by
 have CU:=mkA (utf8_q s hs w)
 have q1:((s.size:Int)≤2000)=True:=eq_true (by omega)
 have q2:(s.size≤2000)=True:=eq_true hs
 clear hs
 go_enter Tryz.func8,Tryz.ntmps8
 go_wp2_with (first
  | (go_at_call 15;(with_reducible refine CU.out.mono ?_);rintro e w_ ⟨b,rfl,hw_⟩;subst w_))
 go_ret
 exact ⟨_,rfl,rfl⟩
theorem short_no (s:ByteArray) (hs:2000 < s.size) (w:World):Calls Tryz.prog 8 #[.string s] w (Qv (.bool false) w):=by
 have q1:((s.size:Int)≤2000)=False:=eq_false (by omega)
 have q2:(s.size≤2000)=False:=eq_false (by omega)
 clear hs
 go_enter Tryz.func8,Tryz.ntmps8
 go_wp2
 go_ret
 exact ⟨rfl,rfl⟩
theorem flat_at (l:List Row) (i:Nat) (h:i < l.length) (j:Nat) (hj:j < 6):(flat l)[i * 6+j]?=(rv l[i])[j]?:=by
 induction l generalizing i with
 | nil=>cases h
 | cons x r ih =>
   cases i with
   | zero =>
     show (rv x++flat r)[0 * 6+j]?=_
     rw [List.getElem?_append_left (by simp [rv];omega)]
     rw [Nat.zero_mul,Nat.zero_add];rfl
   | succ i =>
     show (rv x++flat r)[(i+1) * 6+j]?=_
     rw [List.getElem?_append_right (by simp [rv];omega),show (i+1) * 6+j - (rv x).length=i * 6+j from by simp [rv];omega]
     exact ih i (by simpa using h)
def RwC (w:World) (g o:Nat) (x:Row):Prop:=w.cell? ⟨g,o,none⟩=some (.int .i64 x.1)∧w.cell? ⟨g,o+1,none⟩=some (.string x.2.1)∧w.cell? ⟨g,o+2,none⟩=some (.string x.2.2.1)∧w.cell? ⟨g,o+3,none⟩=some (.string x.2.2.2.1)∧w.cell? ⟨g,o+4,none⟩=some (.int .i64 x.2.2.2.2.1)∧w.cell? ⟨g,o+5,none⟩=some (.int .i64 x.2.2.2.2.2)
theorem RwC.below {w w':World} {g o:Nat} {x:Row} (h:RwC w g o x) (hb:Below w.heap.size w w'):RwC w' g o x:=by
 have k:∀ a v,w.cell? a=some v→w'.cell? a=some v:=fun a v e=>(hb.cell (World.block_lt_of_cell? w _ e)).trans e
 exact ⟨k _ _ h.1,k _ _ h.2.1,k _ _ h.2.2.1,k _ _ h.2.2.2.1,k _ _ h.2.2.2.2.1,k _ _ h.2.2.2.2.2⟩
theorem rw_at {w:World} {b n c:Nat} {A:Option Addr} {rows:List Row} (ho:w.ownsRow b 55 6 (.slice A n c) n (flat rows)) (hn:n=rows.length) (i:Nat) (h:i < rows.length):∃ g:Nat,A=some ⟨g,0,none⟩∧RwC w g (i * 6) rows[i]:=by
 rcases ho.2 with ⟨_,e⟩ | ⟨g,cap,cur,e,_,hg,_⟩
 ·omega
 ·injection e with e1 e2 e3
  refine ⟨g,e1,?_⟩
  have key:∀ j,j < 6→∀ u,(rv rows[i])[j]?=some u→w.cell? ⟨g,i * 6+j,none⟩=some u:=fun j hj u hu=>by
   have h5:=World.ownsRow.cells ho (g:=g) (by rw [e1];rfl) (i * 6+j) u (by rw [flat_at _ _ h _ hj];exact hu)
   rw [show (⟨g,0,none⟩:Addr).add (i * 6+j)=⟨g,i * 6+j,none⟩ from by unfold Addr.add;split <;> simp_all] at h5
   exact h5
  exact ⟨key 0 (by decide) _ rfl,key 1 (by decide) _ rfl,key 2 (by decide) _ rfl,key 3 (by decide) _ rfl,key 4 (by decide) _ rfl,key 5 (by decide) _ rfl⟩
theorem same_walk {w:World} {rows:List Row} {b1 b2 n ca cb:Nat} {A B:Option Addr} (hn:n=rows.length) (ha:w.ownsRow b1 55 6 (.slice A n ca) n (flat (ers rows))) (hb:w.ownsRow b2 55 6 (.slice B n cb) n (flat rows)) (hl:rows.length≤900000) :
 Calls Tryz.prog 10 #[.slice A n ca,.slice B n cb] w fun e w'=>e=.returned (.bool true)∧Below w.heap.size w w':=by
 have HA:=mkA ha
 have HB:=mkA hb
 have HN:=mkA hn
 have HL:=mkA hl
 clear ha hb hn hl
 go_enter Tryz.func10,Tryz.ntmps10
 go_wp2
 go_loopw [5] (fun v5 wr=>∃ (j:Nat),v5=.int .i64 j∧Aside0 (j≤n)∧Aside0 (Below w.heap.size w wr)) (fun v5 _=>n - (intOf v5).toNat)
 case atStart=>exact ⟨0,rfl,⟨Nat.zero_le _⟩,⟨Below.refl _ _⟩⟩
 case round =>
  obtain ⟨j,rfl,HJ,HBr⟩:=hrel
  by_cases hj:j < n
  case neg =>
   have q1:((j:Int) < (n:Int))=False:=eq_false (by omega)
   have q2:(j < n)=False:=eq_false hj
   clear hj
   go_wp2
   go_ret
   exact ⟨rfl,HBr.out⟩
  case pos =>
   have q1:((j:Int) < (n:Int))=True:=eq_true (by omega)
   have q2:(j < n)=True:=eq_true hj
   have hjr:j < rows.length:=by rw [← HN.out];exact hj
   obtain ⟨ga,hA,ra⟩:=rw_at HA.out (by rw [HN.out];simp [ers]) j (by simpa [ers] using hjr)
   obtain ⟨gb,hB,rb⟩:=rw_at HB.out HN.out j hjr
   subst hA
   subst hB
   have he:(ers rows)[j]'(by simpa [ers] using hjr)=er (rows[j]):=by simp [ers]
   rw [he] at ra
   have HAj:=mkA (ra.below HBr.out)
   have HBj:=mkA (rb.below HBr.out)
   generalize rows[j]=rw_ at HAj HBj
   obtain ⟨k,nm,al,tx,fb,sz⟩:=rw_
   obtain ⟨fa,hfa⟩:∃ fa,fa=(if k=15 then fb else 0):=⟨_,rfl⟩
   have HFA:=mkA hfa
   have HAj:Aside0 (RwC wr ga (j * 6) (k,nm,al,tx,fa,sz)):=⟨by rw [hfa];exact HAj.out⟩
   have W1:wrap64 ((j:Int)+1)=((j+1:Nat):Int):=by have:=HL.out;exact (w64 (by omega) (by omega)).trans (by omega)
   obtain ⟨j1,hj1⟩:∃ j1:Nat,j1=j+1:=⟨_,rfl⟩
   rw [← hj1] at W1
   have HJ1:=mkA (show j1=j+1∧j1≤n by omega)
   clear hj hjr ra rb he hfa hj1
   have ga0:wr.cell? ⟨ga,j * 6,none⟩=some (.int .i64 k):=HAj.out.1
   have ga0':∀ o,(wr.alloc o).cell? ⟨ga,j * 6,none⟩=some (.int .i64 k):=fun o=>((below_alloc (Below.refl wr.heap.size wr) o).cell (World.block_lt_of_cell? wr _ ga0)).trans ga0
   have ga0'':∀ o o',((wr.alloc o).alloc o').cell? ⟨ga,j * 6,none⟩=some (.int .i64 k):=fun o o'=>((below_alloc (below_alloc (Below.refl wr.heap.size wr) o) o').cell (World.block_lt_of_cell? wr _ ga0)).trans ga0
   have ga1:wr.cell? ⟨ga,j * 6+1,none⟩=some (.string nm):=HAj.out.2.1
   have ga1':∀ o,(wr.alloc o).cell? ⟨ga,j * 6+1,none⟩=some (.string nm):=fun o=>((below_alloc (Below.refl wr.heap.size wr) o).cell (World.block_lt_of_cell? wr _ ga1)).trans ga1
   have ga1'':∀ o o',((wr.alloc o).alloc o').cell? ⟨ga,j * 6+1,none⟩=some (.string nm):=fun o o'=>((below_alloc (below_alloc (Below.refl wr.heap.size wr) o) o').cell (World.block_lt_of_cell? wr _ ga1)).trans ga1
   have ga2:wr.cell? ⟨ga,j * 6+2,none⟩=some (.string al):=HAj.out.2.2.1
   have ga2':∀ o,(wr.alloc o).cell? ⟨ga,j * 6+2,none⟩=some (.string al):=fun o=>((below_alloc (Below.refl wr.heap.size wr) o).cell (World.block_lt_of_cell? wr _ ga2)).trans ga2
   have ga2'':∀ o o',((wr.alloc o).alloc o').cell? ⟨ga,j * 6+2,none⟩=some (.string al):=fun o o'=>((below_alloc (below_alloc (Below.refl wr.heap.size wr) o) o').cell (World.block_lt_of_cell? wr _ ga2)).trans ga2
   have ga3:wr.cell? ⟨ga,j * 6+3,none⟩=some (.string tx):=HAj.out.2.2.2.1
   have ga3':∀ o,(wr.alloc o).cell? ⟨ga,j * 6+3,none⟩=some (.string tx):=fun o=>((below_alloc (Below.refl wr.heap.size wr) o).cell (World.block_lt_of_cell? wr _ ga3)).trans ga3
   have ga3'':∀ o o',((wr.alloc o).alloc o').cell? ⟨ga,j * 6+3,none⟩=some (.string tx):=fun o o'=>((below_alloc (below_alloc (Below.refl wr.heap.size wr) o) o').cell (World.block_lt_of_cell? wr _ ga3)).trans ga3
   have ga4:wr.cell? ⟨ga,j * 6+4,none⟩=some (.int .i64 fa):=HAj.out.2.2.2.2.1
   have ga4':∀ o,(wr.alloc o).cell? ⟨ga,j * 6+4,none⟩=some (.int .i64 fa):=fun o=>((below_alloc (Below.refl wr.heap.size wr) o).cell (World.block_lt_of_cell? wr _ ga4)).trans ga4
   have ga4'':∀ o o',((wr.alloc o).alloc o').cell? ⟨ga,j * 6+4,none⟩=some (.int .i64 fa):=fun o o'=>((below_alloc (below_alloc (Below.refl wr.heap.size wr) o) o').cell (World.block_lt_of_cell? wr _ ga4)).trans ga4
   have ga5:wr.cell? ⟨ga,j * 6+5,none⟩=some (.int .i64 sz):=HAj.out.2.2.2.2.2
   have ga5':∀ o,(wr.alloc o).cell? ⟨ga,j * 6+5,none⟩=some (.int .i64 sz):=fun o=>((below_alloc (Below.refl wr.heap.size wr) o).cell (World.block_lt_of_cell? wr _ ga5)).trans ga5
   have ga5'':∀ o o',((wr.alloc o).alloc o').cell? ⟨ga,j * 6+5,none⟩=some (.int .i64 sz):=fun o o'=>((below_alloc (below_alloc (Below.refl wr.heap.size wr) o) o').cell (World.block_lt_of_cell? wr _ ga5)).trans ga5
   have gb0:wr.cell? ⟨gb,j * 6,none⟩=some (.int .i64 k):=HBj.out.1
   have gb0':∀ o,(wr.alloc o).cell? ⟨gb,j * 6,none⟩=some (.int .i64 k):=fun o=>((below_alloc (Below.refl wr.heap.size wr) o).cell (World.block_lt_of_cell? wr _ gb0)).trans gb0
   have gb0'':∀ o o',((wr.alloc o).alloc o').cell? ⟨gb,j * 6,none⟩=some (.int .i64 k):=fun o o'=>((below_alloc (below_alloc (Below.refl wr.heap.size wr) o) o').cell (World.block_lt_of_cell? wr _ gb0)).trans gb0
   have gb1:wr.cell? ⟨gb,j * 6+1,none⟩=some (.string nm):=HBj.out.2.1
   have gb1':∀ o,(wr.alloc o).cell? ⟨gb,j * 6+1,none⟩=some (.string nm):=fun o=>((below_alloc (Below.refl wr.heap.size wr) o).cell (World.block_lt_of_cell? wr _ gb1)).trans gb1
   have gb1'':∀ o o',((wr.alloc o).alloc o').cell? ⟨gb,j * 6+1,none⟩=some (.string nm):=fun o o'=>((below_alloc (below_alloc (Below.refl wr.heap.size wr) o) o').cell (World.block_lt_of_cell? wr _ gb1)).trans gb1
   have gb2:wr.cell? ⟨gb,j * 6+2,none⟩=some (.string al):=HBj.out.2.2.1
   have gb2':∀ o,(wr.alloc o).cell? ⟨gb,j * 6+2,none⟩=some (.string al):=fun o=>((below_alloc (Below.refl wr.heap.size wr) o).cell (World.block_lt_of_cell? wr _ gb2)).trans gb2
   have gb2'':∀ o o',((wr.alloc o).alloc o').cell? ⟨gb,j * 6+2,none⟩=some (.string al):=fun o o'=>((below_alloc (below_alloc (Below.refl wr.heap.size wr) o) o').cell (World.block_lt_of_cell? wr _ gb2)).trans gb2
   have gb3:wr.cell? ⟨gb,j * 6+3,none⟩=some (.string tx):=HBj.out.2.2.2.1
   have gb3':∀ o,(wr.alloc o).cell? ⟨gb,j * 6+3,none⟩=some (.string tx):=fun o=>((below_alloc (Below.refl wr.heap.size wr) o).cell (World.block_lt_of_cell? wr _ gb3)).trans gb3
   have gb3'':∀ o o',((wr.alloc o).alloc o').cell? ⟨gb,j * 6+3,none⟩=some (.string tx):=fun o o'=>((below_alloc (below_alloc (Below.refl wr.heap.size wr) o) o').cell (World.block_lt_of_cell? wr _ gb3)).trans gb3
   have gb4:wr.cell? ⟨gb,j * 6+4,none⟩=some (.int .i64 fb):=HBj.out.2.2.2.2.1
   have gb4':∀ o,(wr.alloc o).cell? ⟨gb,j * 6+4,none⟩=some (.int .i64 fb):=fun o=>((below_alloc (Below.refl wr.heap.size wr) o).cell (World.block_lt_of_cell? wr _ gb4)).trans gb4
   have gb4'':∀ o o',((wr.alloc o).alloc o').cell? ⟨gb,j * 6+4,none⟩=some (.int .i64 fb):=fun o o'=>((below_alloc (below_alloc (Below.refl wr.heap.size wr) o) o').cell (World.block_lt_of_cell? wr _ gb4)).trans gb4
   have gb5:wr.cell? ⟨gb,j * 6+5,none⟩=some (.int .i64 sz):=HBj.out.2.2.2.2.2
   have gb5':∀ o,(wr.alloc o).cell? ⟨gb,j * 6+5,none⟩=some (.int .i64 sz):=fun o=>((below_alloc (Below.refl wr.heap.size wr) o).cell (World.block_lt_of_cell? wr _ gb5)).trans gb5
   have gb5'':∀ o o',((wr.alloc o).alloc o').cell? ⟨gb,j * 6+5,none⟩=some (.int .i64 sz):=fun o o'=>((below_alloc (below_alloc (Below.refl wr.heap.size wr) o) o').cell (World.block_lt_of_cell? wr _ gb5)).trans gb5
   go_upto_region 6 with (fail)
   go_cut [6,7] (fun v6 v7 wc=>∃ g6 g7:Nat,v6=.pointer (some ⟨g6,0,none⟩)∧v7=.pointer (some ⟨g7,0,none⟩)∧Aside0 (g6≠g7∧w.heap.size≤g6∧w.heap.size≤g7)∧Aside0 (wc.heap[g6]?=some (.cells #[.int .i64 k,.string nm,.string al,.string tx,.int .i64 fa,.int .i64 sz] 55 (0,0)))∧Aside0 (wc.heap[g7]?=some (.cells #[.int .i64 k,.string nm,.string al,.string tx,.int .i64 fb,.int .i64 sz] 55 (0,0)))∧Aside0 (Below w.heap.size w wc))
   case first =>
    have hle:w.heap.size≤wr.heap.size:=HBr.out.size
    have T1:=mkA (fun x y:Obj=>(blk_below (heap_alloc_new wr x) (below_alloc (Below.refl _ _) y):((wr.alloc x).alloc y).heap[wr.heap.size]?=some x))
    have T2:=mkA (fun x y:Obj=>(show ((wr.alloc x).alloc y).heap[wr.heap.size+1]?=some y by have h:=heap_alloc_new (wr.alloc x) y;rw [World.size_alloc] at h;exact h))
    have T3:=mkA (fun x y:Obj=>(below_alloc (below_alloc HBr.out x) y:Below w.heap.size w ((wr.alloc x).alloc y)))
    clear W1 HAj HBj
    go_region_law (fail)
    all_goals (try go_wp2)
    all_goals go_meet
    all_goals first
     | exact ⟨wr.heap.size,wr.heap.size+1,rfl,rfl,⟨by omega,hle,by omega⟩,⟨blk_below (T1.out _ _) (below_drew1 (Below.refl _ _))⟩,⟨blk_below (T2.out _ _) (below_drew1 (Below.refl _ _))⟩,⟨below_drew1 (T3.out _ _)⟩⟩
     | exact ⟨wr.heap.size+1,wr.heap.size,rfl,rfl,⟨by omega,by omega,hle⟩,⟨blk_below (T2.out _ _) (below_drew1 (Below.refl _ _))⟩,⟨blk_below (T1.out _ _) (below_drew1 (Below.refl _ _))⟩,⟨below_drew1 (T3.out _ _)⟩⟩
   case rest =>
    obtain ⟨g6,g7,rfl,rfl,HN2,B6,B7,HBc⟩:=hcut
    clear ga0 ga0' ga0'' ga1 ga1' ga1'' ga2 ga2' ga2'' ga3 ga3' ga3'' ga4 ga4' ga4'' ga5 ga5' ga5'' gb0 gb0' gb0'' gb1 gb1' gb1'' gb2 gb2' gb2'' gb3 gb3' gb3'' gb4 gb4' gb4'' gb5 gb5' gb5'' HAj HBj
    have y60:wc.cell? ⟨g6,0,none⟩=some (.int .i64 k):=(blk_cell B6.out 0).trans rfl
    have yf60:=blk_frozen B6.out 0
    have y61:wc.cell? ⟨g6,1,none⟩=some (.string nm):=(blk_cell B6.out 1).trans rfl
    have yf61:=blk_frozen B6.out 1
    have y62:wc.cell? ⟨g6,2,none⟩=some (.string al):=(blk_cell B6.out 2).trans rfl
    have yf62:=blk_frozen B6.out 2
    have y63:wc.cell? ⟨g6,3,none⟩=some (.string tx):=(blk_cell B6.out 3).trans rfl
    have yf63:=blk_frozen B6.out 3
    have y64:wc.cell? ⟨g6,4,none⟩=some (.int .i64 fa):=(blk_cell B6.out 4).trans rfl
    have yf64:=blk_frozen B6.out 4
    have y65:wc.cell? ⟨g6,5,none⟩=some (.int .i64 sz):=(blk_cell B6.out 5).trans rfl
    have yf65:=blk_frozen B6.out 5
    have y70:wc.cell? ⟨g7,0,none⟩=some (.int .i64 k):=(blk_cell B7.out 0).trans rfl
    have yf70:=blk_frozen B7.out 0
    have y71:wc.cell? ⟨g7,1,none⟩=some (.string nm):=(blk_cell B7.out 1).trans rfl
    have yf71:=blk_frozen B7.out 1
    have y72:wc.cell? ⟨g7,2,none⟩=some (.string al):=(blk_cell B7.out 2).trans rfl
    have yf72:=blk_frozen B7.out 2
    have y73:wc.cell? ⟨g7,3,none⟩=some (.string tx):=(blk_cell B7.out 3).trans rfl
    have yf73:=blk_frozen B7.out 3
    have y74:wc.cell? ⟨g7,4,none⟩=some (.int .i64 fb):=(blk_cell B7.out 4).trans rfl
    have yf74:=blk_frozen B7.out 4
    have y75:wc.cell? ⟨g7,5,none⟩=some (.int .i64 sz):=(blk_cell B7.out 5).trans rfl
    have yf75:=blk_frozen B7.out 5
    have n1:=HN2.out.1
    have n2:g7≠g6:=fun e=>HN2.out.1 e.symm
    by_cases hk:k=15
    case pos =>
     have p1:=(bneq hk).1
     have hfe:fa=fb:=by rw [HFA.out,if_pos hk]
     subst hfe
     clear hk
     go_wp2
     go_roundw
     case rel=>exact ⟨j1,congrArg (Value.int .i64) W1,⟨HJ1.out.2⟩,⟨HBc.out⟩⟩
     case measure=>rw [W1];have:=HJ1.out;simp only [intOf];omega
    case neg =>
     have p1:=(bnne hk).1
     clear hk
     go_wp2
     go_roundw
     case rel=>exact ⟨j1,congrArg (Value.int .i64) W1,⟨HJ1.out.2⟩,⟨(HBc.out.setCell (p:=⟨g6,4,none⟩) HN2.out.2.1 _).setCell (p:=⟨g7,4,none⟩) HN2.out.2.2 _⟩⟩
     case measure=>rw [W1];have:=HJ1.out;simp only [intOf];omega
theorem door_ok {w:World} {l:List Tk} {P:List Tk→O (List Row × List Tk)} {rows:List Row} {rest:List Tk} {n:Nat} {next:Int} {k:Nat} {s:ByteArray} (hn:n=rows.length) (hf:front l (P l)=.ok (ers rows,rest)) (hx:next < 0∨∃ t r,rest=t :: r∧next=t.a) (h:Calls Tryz.prog k #[.string s] w (DoorI w (front l (P l)))) :
 ∃ a3:Int,(next < 0∨a3=next)∧Calls Tryz.prog k #[.string s] w fun e w'=>∃ (A3:Option Addr) (c3:Nat),e=.returned (.tuple #[.slice A3 n c3,.int .i64 a3,.bool true])∧Below w.heap.size w w'∧w'.ownsRow w.heap.size 55 6 (.slice A3 n c3) n (flat (ers rows)):=by
 rw [hf] at h
 have hl:(ers rows).length=n:=by rw [hn];simp [ers]
 cases rest with
 | nil =>
   refine ⟨0,.inl ?_,h.mono fun e w' q=>?_⟩
   ·rcases hx with hx | ⟨t,r,h1,h2⟩
    ·exact hx
    ·cases h1
   ·obtain ⟨q1,A,cp,q2,q3⟩:=q
    rw [hl] at q2 q3
    exact ⟨A,cp,q2,q1,q3⟩
 | cons t r =>
   refine ⟨t.a,?_,h.mono fun e w' q=>?_⟩
   ·rcases hx with hx | ⟨t',r',h1,h2⟩
    ·exact .inl hx
    ·injection h1 with h3 h4;subst h3;exact .inr h2.symm
   ·obtain ⟨q1,A,cp,q2,q3⟩:=q
    rw [hl] at q2 q3
    exact ⟨A,cp,q2,q1,q3⟩
theorem door_no {w:World} {l:List Tk} {P:List Tk→O (List Row × List Tk)} {k:Nat} {s:ByteArray} (hf:front l (P l)=.bad) (h:Calls Tryz.prog k #[.string s] w (DoorI w (front l (P l)))) :
 Calls Tryz.prog k #[.string s] w fun e w'=>e=.returned (.tuple #[.slice none 0 0,.int .i64 0,.bool false])∧Below w.heap.size w w':=by
 rw [hf] at h
 exact h.mono fun e w' q=>⟨q.2,q.1⟩
theorem front_ne {l:List Tk} {x:O (List Row × List Tk)} (h:front l x=.bad∨∃ y,front l x=.ok y):l≠[]→x≠.out:=by
 intro hl e
 cases l with
 | nil=>exact hl rfl
 | cons a b =>
   subst e
   rcases h with h | ⟨y,h⟩ <;> cases h
theorem readS_walk (HK:BlkH) {s:ByteArray} (hs:s.size≤2000) (w:World):Calls Tryz.prog 9 #[.string s,.int .i64 3] w (ReadP s (pSet (pSel 2010) 2010) w):=by
 have HKK:=mkA HK
 have HS:=mkA hs
 clear HK hs
 go_enter Tryz.func9,Tryz.ntmps9
 go_upto_region 2 with (first
  | (go_at_call 16;(with_reducible refine (lexed_walk HKK.out HS.out _).mono ?_);rintro e w1 ⟨out,A,cp,ok,sure,rfl,h1,h2,h3,h4,h5⟩;have H1:=mkA h1;have H2:=mkA h2;have H3:=mkA h3;have H4:=mkA h4;have H5:=mkA h5;clear h1 h2 h3 h4 h5))
 go_upto_region 3 with (first
  | ((with_reducible refine gate_dst (N:=19) rfl ?_);refine bxe (cs:=#[.slice A out.length cp,.int .i64 0,.int .i64 0,.int .i64 0,.bool false,.bool false]) (t:=49) ?hr ?_;(case hr=>first | (go_simp;done) | (go_simp;rfl));intro gp hg w2 hbox hb;have HP:=mkA (show SP ⟨gp,A,cp,out⟩ w2 s00 from ⟨⟨0,hbox⟩,own_less (own_typ H2.out (fun g cs x=>blk_below x hb)) (Nat.zero_le _),Nat.zero_le _,Nat.le_trans H3.out (by decide)⟩);have HB:=mkA hb;have HG:=mkA hg;clear hg hbox hb))
 obtain ⟨x,x1,x2,x3⟩:=Gd.m (set_ok (tl_of (s:=s) ok H4.out) (sel_ok (tl_of (s:=s) ok H4.out) 2010) (by decide:2009≤2010)) s00 (Nat.zero_le _) (by show out.length - 0+1 < 2009;have:=H3.out;omega)
 obtain ⟨r,s'⟩:=x
 have hrl:r.length≤900000:=by
  have q:=set_p (sel_p 2010) 2010 _ _ x1
  have q2:r.length+0≤Pt s':=q
  have q3:s'.a≤out.length:=x2.le
  have q4:=H3.out
  unfold Pt at q2
  split at q2 <;> omega
 have HRL:=mkA hrl
 have X1:=mkA x1
 have X3:=mkA x3
 clear x1 x2 x3 hrl
 go_upto_region 17 with (first
  | (go_at_call 19;(with_reducible refine (sset_walk (sel_rec 2010 (by decide)) (by decide) (by decide) HP.out X1.out HRL.out).mono ?_);rintro e w3 ⟨v,rfl,hN,hP,hF⟩;obtain ⟨A2,c2,rfl⟩:=NdA.shape hN;have HN:=mkA hN;have HP3:=mkA hP;have HF:=mkA hF;clear hN hP hF))
 have HH:=mkA (show RdH s (pSet (pSel 2010) 2010) w w3 out ok sure r s' A2 c2 from ⟨H5.out,H3.out,X3.out,HRL.out,H1.out.trans ((bel_le HB.out H1.out.size).trans (HF.out.below (by show w.heap.size≤gp;rw [HG.out];exact H1.out.size) (by show w.heap.size≤gp;rw [HG.out];exact H1.out.size) (Nat.le_trans H1.out.size HB.out.size))),own_up HN.out.1 (fun b hb=>Nat.le_trans (Nat.le_trans H1.out.size HB.out.size) (HN.out.2 b hb))⟩)
 have c0:=HP3.out.c0
 have c1:=HP3.out.c1.1
 have c4:=HP3.out.c4
 have c5:=HP3.out.c5.1
 have HLE:=mkA (show s'.a≤out.length from HP3.out.le)
 have HTK:=mkA HP3.out
 clear HP X1 X3 HRL H1 H2 H4 H5 HB HG HN HF
 go_cut [7] (fun v7 wc=>∃ su:Bool,v7=.bool su∧w3=wc∧Aside0 (su=true→sure=true∧s'.un=false))
 case first =>
  obtain ⟨un,hun⟩:∃ un,un=s'.un:=⟨_,rfl⟩
  have c5':w3.cell? ⟨gp,5,none⟩=some (.bool un):=by rw [hun];exact c5
  have HUN:=mkA hun
  clear c5 hun
  cases sure <;> cases un
  all_goals
   go_wp2
   go_meet
   first
    | exact ⟨true,rfl,rfl,⟨fun _=>⟨by first | trivial | rfl,by first | exact HUN.out.symm | exact HUN.out | simpa using HUN.out⟩⟩⟩
    | exact ⟨false,rfl,rfl,⟨fun e=>by cases e⟩⟩
 case rest =>
  obtain ⟨su,rfl,rfl,HSU⟩:=hcut
  by_cases hbad:s'.bad=true
  case pos =>
   have HBD:=mkA hbad
   rw [hbad] at c4
   clear hbad
   go_wp2
   (try simp only [Exit.inBlock,Exit.then]);refine bodyPost_ret (results_tmp4 rfl _ _ _) rfl ?_
   exact HH.out.no HSU.out (.inl HBD.out) 0
  case neg =>
   have hbad:s'.bad=false:=by simpa using hbad
   have HBD:=mkA hbad
   rw [hbad] at c4
   clear hbad
   by_cases hl:s'.a < out.length
   case pos =>
    obtain ⟨g,hA,k1_,k2_,t2,k3_⟩:=HTK.out.tok hl
    have HL:=mkA hl
    have q1:((out.length:Int)≤(s'.a:Int))=False:=eq_false (by omega)
    have q2:(out.length≤s'.a)=False:=eq_false (by omega)
    have q3:((s'.a:Int) < (out.length:Int))=True:=eq_true (by omega)
    have q4:(s'.a < out.length)=True:=eq_true hl
    have hA':A=some ⟨g,0,none⟩:=hA
    subst hA'
    have T2:w3.cell? ⟨g,s'.a * 4+2,none⟩=some (.int .i64 (out[s'.a]'HL.out).a):=t2
    clear hA t2 k1_ k2_ k3_ hl
    go_upto_region 22 with (fail)
    go_quiet (fail)
    go_wp2
    (try simp only [Exit.inBlock,Exit.then]);refine bodyPost_ret (results_tmp4 rfl _ _ _) rfl ?_
    exact HH.out.yes HSU.out ⟨HBD.out,.inr HL.out⟩ _ (.inr ⟨HL.out,rfl⟩)
   case neg =>
    have HL:=mkA (Nat.le_of_not_lt hl)
    have q1:((out.length:Int)≤(s'.a:Int))=True:=eq_true (by omega)
    have q2:(out.length≤s'.a)=True:=eq_true (by omega)
    clear hl
    cases ok
    case false =>
     go_wp2
     (try simp only [Exit.inBlock,Exit.then]);refine bodyPost_ret (results_tmp4 rfl _ _ _) rfl ?_
     exact HH.out.no HSU.out (.inr ⟨rfl,HL.out⟩) 0
    case true =>
     go_wp2
     (try simp only [Exit.inBlock,Exit.then]);refine bodyPost_ret (results_tmp4 rfl _ _ _) rfl ?_
     exact HH.out.yes HSU.out ⟨HBD.out,.inl rfl⟩ 0 (.inl (by decide))
theorem read9S {s:ByteArray} (hs:s.size≤2000) {w:World} (hG:Glob w):Calls Tryz.prog 5 #[.string s,.int .i64 3,.func (.func 7) #[] #[]] w (fun e w'=>e=.returned (.bool true)∧Below w.heap.size w w'):=by
 have HS:=mkA hs
 have HG:=mkA hG
 have CS:=mkA (short_q s hs w)
 have CR:=mkA (readS_walk blkH hs w)
 clear hs hG
 go_enter Tryz.func5,Tryz.ntmps5
 go_wp2_with (first
  | (go_at_call 8;(with_reducible refine CS.out.mono ?_);rintro e w_ ⟨b,rfl,hw_⟩;subst w_))
 all_goals first
  | (go_ret;exact ⟨rfl,Below.refl _ _⟩)
  | skip
 go_upto_region 4 with (first
  | (go_at_call 9;(with_reducible refine CR.out.mono ?_);rintro e w1 ⟨rows,A,n,cp,next,ok,sure,rfl,h1,h2⟩;have H1:=mkA h1;have H2:=mkA h2;clear h1 h2))
 cases sure
 case false =>
  go_wp2
  go_ret
  exact ⟨rfl,H1.out⟩
 case true =>
 obtain ⟨l,k1,k2,k3⟩:=H2.out rfl
 have HG1:=mkA (Glob.below HG.out H1.out)
 have CD:front l ((pSet (pSel 2010) 2010) l)=.bad∨(∃ y,front l ((pSet (pSel 2010) 2010) l)=.ok y)→Calls Tryz.prog 7 #[.string s] w1 (DoorI w1 (front l ((pSet (pSel 2010) 2010) l))):=fun hf=>rdSels HS.out HG1.out k1 (Nat.le_trans k2 (by decide)) (f:=2010) (by decide) (front_ne hf)
 rcases k3 with ⟨rfl,k3⟩ | ⟨rfl,rest,k3,k4,k5,k6,k7⟩
 ·have CN:=mkA (door_no (P:=pSet (pSel 2010) 2010) k3 (CD (.inl k3)))
  clear CD k1 k2 k3
  go_wp2_with (first
   | (go_at_call 7;(with_reducible refine CN.out.mono ?_);rintro e w2 ⟨rfl,hb⟩;have HB:=mkA hb;clear hb))
  go_ret
  exact ⟨rfl,H1.out.trans (bel_le HB.out H1.out.size)⟩
 ·obtain ⟨a3,m1,m2⟩:=door_ok (P:=pSet (pSel 2010) 2010) k3 k6 k7 (CD (.inr ⟨_,k6⟩))
  have CN:=mkA m2
  have HO:=mkA k5
  have HN:=mkA k3
  have HL:=mkA k4
  clear CD k1 k2 k3 k4 k5 k6 k7 m2
  go_upto_region 7 with (first
   | (go_at_call 7;(with_reducible refine CN.out.mono ?_);rintro e w2 ⟨A3,c3,rfl,hb,ho⟩;have HB:=mkA hb;have HO3:=mkA ho;clear hb ho))
  have CM:=mkA (same_walk HN.out HO3.out (own_typ HO.out (fun g cs x=>blk_below x HB.out)) HL.out)
  by_cases hx:next < 0
  case pos =>
   have p1:decide (next < 0)=true:=decide_eq_true hx
   have p2:(next < 0)=True:=eq_true hx
   clear hx m1
   go_wp2_with (first
    | (go_at_call 10;(with_reducible refine CM.out.mono ?_);rintro e w3 ⟨rfl,hb⟩;have HB3:=mkA hb;clear hb))
   go_ret
   exact ⟨rfl,H1.out.trans (bel_le (HB.out.trans (bel_le HB3.out HB.out.size)) H1.out.size)⟩
  case neg =>
   have m3:a3=next:=m1.resolve_left hx
   subst m3
   have p1:decide (a3 < 0)=false:=decide_eq_false hx
   have p2:(a3 < 0)=False:=eq_false hx
   clear hx m1
   go_wp2_with (first
    | (go_at_call 10;(with_reducible refine CM.out.mono ?_);rintro e w3 ⟨rfl,hb⟩;have HB3:=mkA hb;clear hb))
   go_ret
   exact ⟨rfl,H1.out.trans (bel_le (HB.out.trans (bel_le HB3.out HB.out.size)) H1.out.size)⟩
theorem read9S_big {s:ByteArray} (hs:2000 < s.size) {w:World}:Calls Tryz.prog 5 #[.string s,.int .i64 3,.func (.func 7) #[] #[]] w (fun e w'=>e=.returned (.bool true)∧Below w.heap.size w w'):=by
 have CS:=mkA (short_no s hs w)
 clear hs
 go_enter Tryz.func5,Tryz.ntmps5
 go_wp2_with (first
  | (go_at_call 8;(with_reducible refine CS.out.mono ?_);rintro e w_ ⟨rfl,hw_⟩;subst w_))
 go_ret
 exact ⟨rfl,Below.refl _ _⟩
theorem law_walkS (s:ByteArray) (w:World) (hG:Glob w):Calls Tryz.prog 4 #[.string s] w fun e w'=>e=.returned (.bool true)∧Below w.heap.size w w':=by
 by_cases h1:2147483647 < s.size
 ·have q1:((2147483647:Int) < (s.size:Int))=True:=eq_true (by omega)
  have q2:(2147483647 < s.size)=True:=eq_true h1
  clear h1
  go_enter Tryz.func4,Tryz.ntmps4
  go_wp2
  go_ret
  exact ⟨rfl,Below.refl _ _⟩
 ·have q1:((2147483647:Int) < (s.size:Int))=False:=eq_false (by omega)
  have q2:(2147483647 < s.size)=False:=eq_false h1
  have CR:Aside0 (Calls Tryz.prog 5 #[.string s,.int .i64 3,.func (.func 7) #[] #[]] w (fun e w'=>e=.returned (.bool true)∧Below w.heap.size w w')):=⟨by
   by_cases h2:s.size≤2000
   ·exact read9S h2 hG
   ·exact read9S_big (by omega)⟩
  clear h1
  go_enter Tryz.func4,Tryz.ntmps4
  go_wp2_with (first
   | (go_at_call 5;(with_reducible refine CR.out.mono ?_);rintro e w1 ⟨rfl,hb⟩;have HB:=mkA hb;clear hb))
  go_ret
  exact ⟨rfl,HB.out⟩
end Go.Proofs.YthgcghpcikbnkaaGreatDoor.R
