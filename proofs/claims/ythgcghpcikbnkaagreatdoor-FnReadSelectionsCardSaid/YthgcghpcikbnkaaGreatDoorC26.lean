/- A part of the proof of the theorem of this claim: Smk, Lxm. No condition of its own. -/
import Derived.Test.YthgcghpcikbnkaaGreatDoorB4
import Derived.Test.YthgcghpcikbnkaaGreatDoorC8
import Derived.Test.YthgcghpcikbnkaaGreatDoorB3
set_option maxHeartbeats 16000000
set_option maxRecDepth 100000
namespace Go.Proofs.YthgcghpcikbnkaaGreatDoor.R
open Go.RowKit Go.Proofs.YthgcghpcikbnkaaGreatDoorW.PrintWords Go.Proofs.YthgcghpcikbnkaaGreatDoorW.PrintLast Go.Proofs.YthgcghpcikbnkaaGreatDoorW.PrintMore
set_option linter.unusedVariables false
set_option linter.unusedSimpArgs false
def NdA (ok:Ok) (w:World) (rows:List Row) (v:Value):Prop:=w.ownsRow 0 55 6 v rows.length (flat rows)∧∀ b,v.ownBlock=some b→ok b
theorem NdA.fr {ok ok':Ok} {w w':World} {rows:List Row} {v:Value} (h:NdA ok w rows v) (hf:Keeps ok ok' w w'):NdA ok' w' rows v:=by
 obtain ⟨⟨h1,h2⟩,h3⟩:=h
 rcases h2 with ⟨rfl,h2⟩ | ⟨g,cap,cur,rfl,hg,hh,r⟩
 ·exact ⟨⟨h1,.inl ⟨rfl,h2⟩⟩,fun b hb=>by simp [Value.ownBlock] at hb⟩
 ·have hk:=hf g _ (h3 g rfl) hh
  exact ⟨⟨h1,.inr ⟨g,cap,cur,rfl,hg,hk.2,r⟩⟩,fun b hb=>by simp [Value.ownBlock] at hb;rw [← hb];exact hk.1⟩
theorem NdA.nil (ok:Ok) (w:World):NdA ok w [] (.slice none 0 0):=⟨World.ownsRow_nil _ _ _ _,fun b hb=>by simp [Value.ownBlock] at hb⟩
theorem own_sl {w:World} {base:Nat} {e:TypeId} {s n:Nat} {v:Value} {xs:List Value} (h:w.ownsRow base e s v n xs):∃ (A:Option Addr) (c:Nat),v=.slice A n c:=by
 rcases h.2 with ⟨h1,h2⟩ | ⟨g,cap,cur,h1,_⟩
 ·exact ⟨none,0,by rw [h1,h2]⟩
 ·exact ⟨_,cap,h1⟩
theorem NdA.shape {ok:Ok} {w:World} {rows:List Row} {v:Value} (h:NdA ok w rows v):∃ (A:Option Addr) (c:Nat),v=.slice A rows.length c:=own_sl h.1
inductive Kl (X:List Row→Value→Prop):List (List Row)→List Value→Prop
 | nil:Kl X [] []
 | cons {r:List Row} {v:Value} {rs:List (List Row)} {vs:List Value}:X r v→Kl X rs vs→Kl X (r :: rs) (v :: vs)
theorem Kl.mono {X Y:List Row→Value→Prop} (h:∀ r v,X r v→Y r v) {rs:List (List Row)} {vs:List Value} (m:Kl X rs vs):Kl Y rs vs:=by
 induction m with
 | nil=>exact .nil
 | cons a _ ih=>exact .cons (h _ _ a) ih
theorem Kl.snoc {X:List Row→Value→Prop} {rs:List (List Row)} {vs:List Value} (m:Kl X rs vs) {r:List Row} {v:Value} (h:X r v):Kl X (rs++[r]) (vs++[v]):=by
 induction m with
 | nil=>exact .cons h .nil
 | cons a _ ih=>exact .cons a ih
theorem Kl.len {X:List Row→Value→Prop} {rs:List (List Row)} {vs:List Value} (m:Kl X rs vs):rs.length=vs.length:=by
 induction m with
 | nil=>rfl
 | cons _ _ ih=>simp [ih]
theorem Kl.at {X:List Row→Value→Prop} {rs:List (List Row)} {vs:List Value} (m:Kl X rs vs) (j:Nat) (h:j < vs.length):∃ r v,rs.drop j=r :: rs.drop (j+1)∧vs[j]?=some v∧X r v:=by
 induction m generalizing j with
 | nil=>cases h
 | @cons r v rs vs a m ih =>
   cases j with
   | zero=>exact ⟨r,v,rfl,rfl,a⟩
   | succ j =>
     obtain ⟨r1,v1,h1,h2,h3⟩:=ih j (by simpa using h)
     exact ⟨r1,v1,h1,by simpa using h2,h3⟩
def KidsA (ok:Ok) (w:World) (kss:List (List Row)) (v:Value):Prop:=∃ xs:List Value,w.ownsRow 0 25 1 v xs.length xs∧(∀ b,v.ownBlock=some b→ok b)∧Kl (NdA ok w) kss xs
theorem KidsA.nil (ok:Ok) (w:World):KidsA ok w [] (.slice none 0 0):=⟨[],World.ownsRow_nil _ _ _ _,fun b hb=>by simp [Value.ownBlock] at hb,.nil⟩
section
variable {ops:Array Oper} {rest:List Oper} {o:Oper} {a:Act} {Q:Exit→Act→World→Prop}
theorem nd_append {W:World} (base:Nat) (hgd:o.guard=none) (s x:Operand) (ho:o.op=.call { callee:=.builtin .append,args:=#[s,x],argTypes:=#[25,25] })
 (v vx:Value) (xs rows:List Row) (hs:a.eval s=v) (hx:a.eval x=vx) (HO:W.ownsRow base 55 6 v xs.length (flat xs)) {b2:Nat} (HX:W.ownsRow b2 55 6 vx rows.length (flat rows)) (hbase:base≤W.heap.size) (hl:xs.length+rows.length≤1000000)
 (h:∀ v1 w1,w1.ownsRow base 55 6 v1 (xs++rows).length (flat (xs++rows))→W.grownBy w1 v.ownBlock→(v1.ownBlock=v.ownBlock∨∃ b,v1.ownBlock=some b∧W.heap.size≤b)→wpList Tryz.prog ops Q rest (a.put o.dst v1) w1) :
 wpList Tryz.prog ops Q (o :: rest) a W:=by
 obtain ⟨i0,hi,hz0,hz1,hz2⟩:=inf_parts info55'
 have ht:=Tryz.underlying25
 have hrun:∃ v1 w1,(Builtin.append_ #[25,25] o.type #[v,vx]).run Tryz.prog W=.ok v1 w1∧w1.ownsRow base 55 6 v1 (xs++rows).length (flat (xs++rows))∧W.grownBy w1 v.ownBlock∧(v1.ownBlock=v.ownBlock∨v1.ownBlock=some W.heap.size):=by
  rcases HX.2 with ⟨rfl,h0⟩ | ⟨g,cap,cur,rfl,_⟩
  ·obtain rfl:rows=[]:=List.eq_nil_of_length_eq_zero h0
   refine ⟨v,W,?_,by simpa using HO,World.grownBy.refl W _,.inl rfl⟩
   rcases HO.2 with ⟨rfl,hn⟩ | ⟨g,cap,cur,rfl,_,_,hnc,_⟩
   ·simp [Builtin.append_,run_underlying ht,sizeOf,typeInfo,hi,Builtin.lenOf,Builtin.firstCells]
   ·simp [Builtin.append_,run_underlying ht,sizeOf,typeInfo,hi,Builtin.lenOf,Builtin.firstCells,hnc,storeCells]
  ·obtain ⟨v1,w1,hr,h2,h3,_,h5⟩:=run_append_own_at (P:=Tryz.prog) W base 25 o.type 55 i0 (.agg #[.int .i64 0,.string ⟨#[]⟩,.string ⟨#[]⟩,.string ⟨#[]⟩,.int .i64 0,.int .i64 0]) 6 72 ht hi hz0 hz1 hz2 rfl (by omega) v xs.length (flat xs) HO ⟨g,0,none⟩ rows.length cap (flat rows) (flat_len rows) (World.ownsRow.cells HX rfl)
    (by
     intro u hu
     simp only [flat,List.mem_flatMap] at hu
     obtain ⟨q,_,hq⟩:=hu
     simp only [rv,List.mem_cons,List.not_mem_nil,or_false] at hq
     rcases hq with rfl | rfl | rfl | rfl | rfl | rfl <;> rfl) (by simp only [maxLen];omega) (by omega) hbase
   exact ⟨v1,w1,hr,by rw [List.length_append,flat_app];exact h2,h3,h5⟩
 obtain ⟨v1,w1,hr,hown,hg,hat⟩:=hrun
 refine wpList_plain hgd fun K hK=>?_
 unfold Oper.wp execOp
 simp only [ho,resolve,invoke,builtin,Sem.run_bind,Sem.run_pure,Result.andThen_ok,List.map_toArray,List.map_cons,List.map_nil,hs,hx,hr]
 refine hK _ _ (h v1 w1 hown hg ?_)
 rcases hat with hat | hat
 ·exact .inl hat
 ·exact .inr ⟨_,hat,Nat.le_refl _⟩
end
def MadeP (w:World) (rows:List Row) (e:Ending) (w':World):Prop:=∃ v,e=.returned v∧NdA (from_ w.heap.size) w' rows v∧Below w.heap.size w w'
theorem flat_set0 (kids:List Row) (k:Int) (nm al tx:ByteArray) (fl:Int):(flat ((k,nm,al,tx,fl,0) :: kids)).set 5 (.int .i64 ((kids.length:Int)+1))=flat (nd k nm al tx fl kids):=rfl
theorem own_up {w:World} {base b2:Nat} {e:TypeId} {s n:Nat} {v:Value} {xs:List Value} (h:w.ownsRow base e s v n xs) (h2:∀ b,v.ownBlock=some b→b2≤b):w.ownsRow b2 e s v n xs:=by
 refine ⟨h.1,?_⟩
 rcases h.2 with h3 | ⟨g,cap,cur,hv,hg,r⟩
 ·exact .inl h3
 ·exact .inr ⟨g,cap,cur,hv,h2 g (by rw [hv];rfl),r⟩
theorem made_walk {ok:Ok} {w:World} {k fl:Int} {nm al tx:ByteArray} {kss:List (List Row)} {v:Value} (hK:KidsA ok w kss v) (hn:kss.flatten.length≤900000) (hk:kss.length≤1000000):Calls Tryz.prog 38 #[.agg #[.int .i64 k,.string nm,.string al,.string tx,.int .i64 fl,.int .i64 0],v] w (MadeP w (nd k nm al tx fl kss.flatten)):=by
 obtain ⟨xs,hO,hB,hM⟩:=hK
 obtain ⟨A,cp,rfl⟩:=own_sl hO
 have HO:=mkA hO
 have HM:=mkA hM
 have HN:=mkA hn
 have HL:=mkA hM.len
 have HKN:=mkA hk
 clear hO hB hM hn hk
 go_enter Tryz.func38,Tryz.ntmps38
 go_wp2_with (first
  | ((with_reducible refine gate_dst (N:=2) rfl ?_);refine bxe (cs:=#[.int .i64 k,.string nm,.string al,.string tx,.int .i64 fl,.int .i64 0]) (t:=55) ?hr ?_;(case hr=>first | (go_simp;done) | (go_simp;rfl));intro gx hg w2 hbox hb;have HB2:=mkA hb;have x0:w2.cell? ⟨gx,0,none⟩=some (.int .i64 k):=(blk_cell hbox 0).trans rfl;have x1:w2.cell? ⟨gx,1,none⟩=some (.string nm):=(blk_cell hbox 1).trans rfl;have x2:w2.cell? ⟨gx,2,none⟩=some (.string al):=(blk_cell hbox 2).trans rfl;have x3:w2.cell? ⟨gx,3,none⟩=some (.string tx):=(blk_cell hbox 3).trans rfl;have x4:w2.cell? ⟨gx,4,none⟩=some (.int .i64 fl):=(blk_cell hbox 4).trans rfl;have x5:w2.cell? ⟨gx,5,none⟩=some (.int .i64 0):=(blk_cell hbox 5).trans rfl;clear hbox hb hg))
 have HBM:=mkA (below_alloc (Below.refl w2.heap.size w2) (.cells #[.int .i64 k,.string nm,.string al,.string tx,.int .i64 fl,.int .i64 0] 55))
 have HOW:=mkA (show (w2.alloc (.cells #[.int .i64 k,.string nm,.string al,.string tx,.int .i64 fl,.int .i64 0] 55)).ownsRow w.heap.size 55 6 (.slice (some ⟨w2.heap.size,0,none⟩) 1 1) 1 (flat [(k,nm,al,tx,fl,0)]) from ⟨rfl,.inr ⟨w2.heap.size,1,_,rfl,HB2.out.size,heap_alloc_new w2 _,Nat.le_refl _,by unfold maxLen;omega,rfl,rfl⟩⟩)
 go_loopw [5,6] (fun v5 v6 wr=>∃ (j:Nat) (acc:List Row),v6=.int .i64 j∧Aside0 (j≤xs.length)∧Aside0 (acc=(k,nm,al,tx,fl,0) :: (kss.take j).flatten)∧Aside0 (wr.ownsRow w.heap.size 55 6 v5 acc.length (flat acc))∧Aside0 (Below w.heap.size w wr)) (fun _ v6 _=>xs.length - (intOf v6).toNat)
 case atStart=>exact ⟨0,[(k,nm,al,tx,fl,0)],rfl,⟨Nat.zero_le _⟩,⟨rfl⟩,HOW,⟨below_step HB2.out HBM.out⟩⟩
 case round =>
  obtain ⟨j,acc,rfl,HJ,HAC,HOr,HBr⟩:=hrel
  clear HBM HOW
  by_cases hlt:j < xs.length
  ·obtain ⟨r,x,hd,hx,hnd⟩:=HM.out.at j hlt
   have hA:∃ g1:Nat,A=some ⟨g1,0,none⟩:=by
    rcases HO.out.2 with ⟨_,e⟩ | ⟨g1,cp1,cur,e,_⟩
    ·omega
    ·injection e with e1 e2 e3;exact ⟨g1,e1⟩
   obtain ⟨g1,rfl⟩:=hA
   have hc:=World.ownsRow.cells HO.out (g:=g1) rfl j x hx
   rw [show (⟨g1,0,none⟩:Addr).add j=⟨g1,j,none⟩ from by unfold Addr.add;split <;> simp_all] at hc
   have hrd:wr.cell? ⟨g1,j,none⟩=some x:=(HBr.out.cell (World.block_lt_of_cell? w _ hc)).trans hc
   obtain ⟨Ax,cx,rfl⟩:=hnd.shape
   have HX:=mkA (own_typ hnd.1 (fun g cs h=>blk_below h HBr.out))
   have ht:kss.take (j+1)=kss.take j++[r]:=by
    have h0:j < kss.length:=by rw [HL.out];exact hlt
    rw [List.take_succ_eq_append_getElem h0]
    rw [List.drop_eq_getElem_cons h0] at hd
    injection hd with hd1 hd2
    rw [hd1]
   have HT:=mkA ht
   have hle:acc.length+r.length≤1000000:=by
    have h1:(kss.take (j+1)).flatten++(kss.drop (j+1)).flatten=kss.flatten:=by rw [← List.flatten_append,List.take_append_drop]
    have h2:=congrArg List.length h1
    rw [ht,List.flatten_append] at h2
    simp only [List.length_append,List.flatten_cons,List.flatten_nil,List.append_nil] at h2
    rw [HAC.out]
    simp only [List.length_cons]
    have:=HN.out
    omega
   have HLE:=mkA hle
   have HLT:=mkA hlt
   have q0:(j < xs.length)=True:=eq_true hlt
   have hmm:=HKN.out
   rw [HL.out] at hmm
   have HNW:=mkA (show wrap64 ((j:Int)+1)=((j+1:Nat):Int) from (w64 (by omega) (by omega)).trans (by omega))
   clear hd hx hnd hc ht hle hlt hmm
   go_wp2_with (first
    | (at_builtin;refine nd_append w.heap.size rfl (.tmp 15) (.tmp 19) rfl u5 _ acc r rfl rfl HOr.out HX.out HBr.out.size HLE.out ?_;intro v1 w1 h1 hg hat;have HO1:=mkA h1;have HB1:=mkA (pw_below_grown HBr.out _ HBr.out.size hg (fun b hb=>(World.ownsRow.lt HOr.out b hb).1));clear h1 hg hat))
   go_roundw
   case rel=>exact ⟨j+1,acc++r,congrArg (Value.int .i64) HNW.out,⟨HLT.out⟩,⟨by rw [HT.out,HAC.out,List.flatten_append];simp⟩,HO1,HB1⟩
   case measure=>exact msr_up2 xs.length j HLT.out (by have:=HKN.out;rw [HL.out] at this;exact this)
  ·have q0:(j < xs.length)=False:=eq_false hlt
   have hj:j=xs.length:=by have:=HJ.out;omega
   have hacc:acc=(k,nm,al,tx,fl,0) :: kss.flatten:=by
    rw [HAC.out,hj,← HL.out,List.take_length]
   subst hacc
   generalize hks:kss.flatten=ks at HOr
   have HKS:=mkA hks
   clear hj hlt hks HAC
   obtain ⟨g5,c5,hu⟩:∃ (g5 c5:Nat),u5=.slice (some ⟨g5,0,none⟩) (ks.length+1) c5:=by
    rcases HOr.out.2 with ⟨_,e⟩ | ⟨g5,c5,cur,e,_⟩
    ·cases e
    ·exact ⟨g5,c5,e⟩
   subst hu
   have ha:=World.ownsRow.cells HOr.out (g:=g5) rfl 5 (.int .i64 0) rfl
   rw [show (⟨g5,0,none⟩:Addr).add 5=⟨g5,5,none⟩ from by unfold Addr.add;split <;> simp_all] at ha
   have hfz:=World.ownsRow.frozenAt HOr.out 5
   have hpos:(0:Int) < ((ks.length+1:Nat):Int):=by omega
   have hpos2:0 < ks.length+1:=by omega
   go_wp2
   go_ret
   have hst:=World.ownsRow.stored HOr.out 5 (.int .i64 ((ks.length+1:Nat):Int))
   refine ⟨.slice (some ⟨g5,0,none⟩) (ks.length+1) c5,rfl,?_,?_⟩
   ·rw [HKS.out]
    refine ⟨?_,fun b hb=>(World.ownsRow.lt hst.1 b hb).1⟩
    have h1:=own_less hst.1 (Nat.zero_le _)
    rw [show ((ks.length+1:Nat):Int)=(ks.length:Int)+1 from rfl,flat_set0] at h1
    exact h1
   ·exact HBr.out.setCell (p:=⟨g5,5,none⟩) (World.ownsRow.lt HOr.out g5 rfl).1 _
structure LC where
 gx:Nat
 B:Nat
 s:ByteArray
structure LS where
 a:Nat
 out:List Tk
 bad:Bool
 un:Bool
def TkOk (t:Tk):Prop:=t.k≠1∧(t.v=bOn→t.k=15∨t.k=18∨t.k=19)
theorem tk_e0 {k a z:Int} (h:k≠1):TkOk ⟨k,a,z,e0⟩:=⟨h,fun e=>by cases e⟩
structure LX (C:LC) (w:World) (t:LS):Prop where
 cell:∃ (A:Option Addr) (cp:Nat),w.heap[C.gx]?=some (.cells #[.string C.s,.int .i64 t.a,.slice A t.out.length cp,.bool t.bad,.bool t.un] 99 (0,0))∧w.ownsRow C.B 53 4 (.slice A t.out.length cp) t.out.length (tflat t.out)
 le:t.a≤C.s.size
 sz:C.s.size≤2000
 ol:t.out.length≤t.a∧∀ x ∈ t.out,TkOk x
 lo:C.B≤C.gx
theorem LX.below {C:LC} {w w':World} {t:LS} (h:LX C w t) (hb:Below w.heap.size w w'):LX C w' t:=by
 obtain ⟨⟨A,cp,h1,h2⟩,h3,h4,h5,h6⟩:=h
 exact ⟨⟨A,cp,blk_below h1 hb,own_typ h2 (fun g cs x=>blk_below x hb)⟩,h3,h4,h5,h6⟩
theorem LX.drewN {C:LC} {w:World} {t:LS} (h:LX C w t) (n:Nat):LX C (w.drewN n) t:=h.below (pw_below_drewN (Below.refl _ _) n)
theorem bt_nat (s:ByteArray) (i:Nat) (h:i < s.size):((s[i]'h).toNat:Int)=bt s i:=by simp [bt,h]
def Qv (v:Value) (w:World) (e:Ending) (w':World):Prop:=e=.returned v∧w'=w
theorem ret_eq {v u:Value} {w:World} (h:v=u):Qv u w (.returned v) w:=⟨by rw [h],rfl⟩
def stB (s:ByteArray) (i:Nat) (t:ByteArray):Bool:=decide (i+t.size≤s.size) && ((s.extract i (i+t.size)).toList == t.toList)
theorem isDigit_q (c:Int) (w:World):Calls Tryz.prog 71 #[.int .u8 c] w (Qv (.bool (isD c)) w):=by
 by_cases h1:48≤c
 ·by_cases h2:c≤57
  ·have hr:isD c=true:=by unfold isD;rw [decide_eq_true h1,decide_eq_true h2];rfl
   rw [hr]
   go_enter Tryz.func71,Tryz.ntmps71
   go_wp2
   go_ret
   exact ⟨rfl,rfl⟩
  ·have hr:isD c=false:=by unfold isD;rw [decide_eq_false h2,Bool.and_false]
   rw [hr]
   go_enter Tryz.func71,Tryz.ntmps71
   go_wp2
   go_ret
   exact ⟨rfl,rfl⟩
 ·have hr:isD c=false:=by unfold isD;rw [decide_eq_false h1];rfl
  rw [hr]
  go_enter Tryz.func71,Tryz.ntmps71
  go_wp2
  go_ret
  exact ⟨rfl,rfl⟩
theorem isBegin_q (c:Int) (w:World):Calls Tryz.prog 69 #[.int .u8 c] w (Qv (.bool (isB c)) w):=by
 have hr:isB c=(decide (97≤c) && decide (c≤122) || decide (65≤c) && decide (c≤90) || c == 95):=rfl
 by_cases h1:97≤c <;> by_cases h2:c≤122 <;> by_cases h3:65≤c <;> by_cases h4:c≤90 <;> cases h5:(c == 95)
 all_goals first
  | (exfalso;omega)
  | (simp only [h1,h2,h3,h4,h5,decide_true,decide_false,Bool.and_true,Bool.and_false,Bool.true_and,Bool.false_and,Bool.or_true,Bool.or_false,Bool.true_or,Bool.false_or] at hr
     rw [hr]
     clear hr
     go_enter Tryz.func69,Tryz.ntmps69
     go_wp2
     go_ret
     exact ⟨rfl,rfl⟩)
theorem sign_q (c:Int) (w:World):Calls Tryz.prog 68 #[.int .u8 c] w (Qv (.int .i64 (sg c)) w):=by
 go_enter Tryz.func68,Tryz.ntmps68
 go_wp2
 all_goals go_ret
 all_goals (refine ⟨congrArg (fun x=>Ending.returned (Value.int .i64 x)) ?_,rfl⟩;simp only [beq_iff_eq,beq_eq_false_iff_ne,ne_eq] at *;unfold sg;(repeat' split) <;> omega)
theorem next_q {C:LC} {w:World} {t:LS} (h:LX C w t) (i:Nat):Calls Tryz.prog 70 #[ptr C.gx,.int .i64 i] w (Qv (.int .u8 (nx C.s i)) w):=by
 obtain ⟨A,cp,hc,_⟩:=h.cell
 have c0:w.cell? ⟨C.gx,0,none⟩=some (.string C.s):=(blk_cell hc 0).trans rfl
 by_cases hi:i < C.s.size
 ·have hr:nx C.s i=bt C.s i:=by unfold nx;rw [if_pos hi]
  rw [hr]
  have q1:((C.s.size:Int)≤(i:Int))=False:=eq_false (by omega)
  have q2:(C.s.size≤i)=False:=eq_false (by omega)
  have q3:(i < C.s.size)=True:=eq_true hi
  have q4:((i:Int) < (C.s.size:Int))=True:=eq_true (by omega)
  have hx:=bt_at C.s i
  have HI:=mkA hi
  clear h hc hi hr
  go_enter Tryz.func70,Tryz.ntmps70
  go_wp2
  go_ret
  exact ⟨congrArg (fun x=>Ending.returned (Value.int .u8 x)) (bt_nat _ _ HI.out),rfl⟩
 ·have hr:nx C.s i=0:=nx_end _ _ (by omega)
  rw [hr]
  have q1:((C.s.size:Int)≤(i:Int))=True:=eq_true (by omega)
  have q2:(C.s.size≤i)=True:=eq_true (by omega)
  clear h hc hi hr
  go_enter Tryz.func70,Tryz.ntmps70
  go_wp2
  go_ret
  exact ⟨rfl,rfl⟩
theorem starts_q (s t:ByteArray) (i:Nat) (hi:i≤s.size) (hs:s.size≤2000) (ht:t.size≤100) (w:World):Calls Tryz.prog 65 #[.string s,.int .i64 i,.string t] w (Qv (.bool (stB s i t)) w):=by
 have hw:wrap64 ((i:Int)+(t.size:Int))=((i+t.size:Nat):Int):=(w64 (by omega) (by omega)).trans (by omega)
 have HW:=mkA hw
 by_cases h1:i+t.size≤s.size
 ·have q1:(((i+t.size:Nat):Int)≤(s.size:Int))=True:=eq_true (by omega)
  have q2:(i+t.size≤s.size)=True:=eq_true h1
  have q3:(i≤i+t.size)=True:=eq_true (by omega)
  have q4:((i:Int)≤(i:Int)+(t.size:Int))=True:=eq_true (by omega)
  have q5:((i:Int)+(t.size:Int)≤(s.size:Int))=True:=eq_true (by omega)
  have hr:stB s i t=((s.extract i (i+t.size)).toList == t.toList):=by unfold stB;rw [decide_eq_true h1];rfl
  rw [hr]
  clear h1 hr hi hs ht
  go_enter Tryz.func65,Tryz.ntmps65
  go_wp2
  go_ret
  exact ⟨rfl,rfl⟩
 ·have hr:stB s i t=false:=by unfold stB;rw [decide_eq_false h1];rfl
  have q1:(((i+t.size:Nat):Int)≤(s.size:Int))=False:=eq_false (by omega)
  have q2:(i+t.size≤s.size)=False:=eq_false h1
  have q5:((i:Int)+(t.size:Int)≤(s.size:Int))=False:=eq_false (by omega)
  rw [hr]
  clear h1 hr hi hs ht
  go_enter Tryz.func65,Tryz.ntmps65
  go_wp2
  go_ret
  exact ⟨rfl,rfl⟩
theorem source_q (c:Int) (w:World):Calls Tryz.prog 91 #[.int .i64 c] w (Qv (.tuple #[.bool (decide (c=9∨c=10∨c=13∨32≤c)),.bool (decide (c≤65535))]) w):=by
 go_enter Tryz.func91,Tryz.ntmps91
 go_wp2
 all_goals go_ret2
 all_goals (refine ⟨?_,rfl⟩;simp_all)
theorem lfail_walk {C:LC} {w:World} {t:LS} (h:LX C w t):Calls Tryz.prog 75 #[ptr C.gx] w (fun e w'=>e=.returned (.tuple #[])∧LX C w' ⟨t.a,t.out,true,t.un⟩∧Below C.B w w'):=by
 obtain ⟨A,cp,hc,ho⟩:=h.cell
 have HP:=mkA h
 have HC:=mkA hc
 have HO:=mkA ho
 have c3:w.cell? ⟨C.gx,3,none⟩=some (.bool t.bad):=(blk_cell hc 3).trans rfl
 have f3:=blk_frozen hc 3
 clear h hc ho
 go_enter Tryz.func75,Tryz.ntmps75
 go_wp2
 go_end0
 exact ⟨rfl,⟨⟨A,cp,blk_put (cs:=#[.string C.s,.int .i64 t.a,.slice A t.out.length cp,.bool t.bad,.bool t.un]) HC.out 3 _ rfl,own_typ HO.out (fun g cs x=>blk_far (p:=⟨C.gx,3,none⟩) x (blk_ne x HC.out (by decide)) _)⟩,HP.out.le,HP.out.sz,HP.out.ol,HP.out.lo⟩,(Below.refl _ _).setCell (p:=⟨C.gx,3,none⟩) HP.out.lo _⟩
theorem info53':(Tryz.prog.info? 53).map (fun i=>(i.zero,i.size,i.bytes))=some (some (.agg #[.int .i64 0,.string ⟨#[]⟩,.int .i64 0,.int .i64 0]),4,40):=by kernel_rfl
theorem tflat_snoc (l:List Tk) (x:Tk):tflat (l++[x])=tflat l++[.int .i64 x.k,.string x.v,.int .i64 x.a,.int .i64 x.z]:=by
 unfold tflat;rw [List.flatMap_append];rfl
theorem add_walk {C:LC} {w:World} {t:LS} (h:LX C w t) (k:Int) (z:Nat) (v:ByteArray) (hz:t.a < z) (hz2:z≤C.s.size) (hko:TkOk ⟨k,t.a,z,v⟩):Calls Tryz.prog 67 #[ptr C.gx,.int .i64 k,.int .i64 z,.string v] w (fun e w'=>e=.returned (.tuple #[])∧LX C w' ⟨z,t.out++[⟨k,t.a,z,v⟩],t.bad,t.un⟩∧Below C.B w w'):=by
 obtain ⟨a,out,bad,un⟩:=t
 obtain ⟨A,cp,hc,ho⟩:=h.cell
 have HC:=mkA hc
 have HO:=mkA ho
 have LO:=mkA h.lo
 have HZ:=mkA hz
 have HZ2:=mkA hz2
 have HBW:=mkA (show C.B≤w.heap.size from Nat.le_trans h.lo (Nat.le_of_lt (blk_lt hc)))
 have SZ:=mkA h.sz
 have OL:=mkA (show out.length≤a∧∀ x ∈ out,TkOk x from h.ol)
 have HKO:=mkA hko
 have LE:=mkA (show a≤C.s.size from h.le)
 have hout:out.length≤2000:=by have:=OL.out.1;have:=LE.out;have:=SZ.out;omega
 have c1:w.cell? ⟨C.gx,1,none⟩=some (.int .i64 a):=(blk_cell hc 1).trans rfl
 have c2:w.cell? ⟨C.gx,2,none⟩=some (.slice A out.length cp):=(blk_cell hc 2).trans rfl
 have f2:=blk_frozen hc 2
 obtain ⟨i0,hi,hz0,hz1,hzz2⟩:=inf_parts info53'
 have e1:∀ o,(w.alloc o).cell? ⟨C.gx,1,none⟩=some (.int .i64 a):=fun o=>((below_alloc (Below.refl w.heap.size w) o).cell (World.block_lt_of_cell? w _ c1)).trans c1
 have e2:∀ o,(w.alloc o).cell? ⟨C.gx,2,none⟩=some (.slice A out.length cp):=fun o=>((below_alloc (Below.refl w.heap.size w) o).cell (World.block_lt_of_cell? w _ c2)).trans c2
 have NA:=mkA (World.news_of_block (heap_alloc_new w (.cells #[.int .i64 k,.string v,.int .i64 a,.int .i64 z] 53 (0,0))))
 have H1:=mkA (show ∀ u ∈ [Value.int .i64 k,.string v,.int .i64 a,.int .i64 z],u.oneCell'=true by intro u hu;simp only [List.mem_cons,List.not_mem_nil,or_false] at hu;rcases hu with rfl | rfl | rfl | rfl <;> rfl)
 clear h hc ho hz hz2 hko
 go_enter Tryz.func67,Tryz.ntmps67
 go_upto_region 0 with (fail)
 go_cut [] (fun wc=>∃ (gd cap:Nat),Aside0 (wc.heap[C.gx]?=some (.cells #[.string C.s,.int .i64 a,.slice (some ⟨gd,0,none⟩) (out.length+1) cap,.bool bad,.bool un] 99 (0,0)))∧Aside0 (wc.ownsRow C.B 53 4 (.slice (some ⟨gd,0,none⟩) (out.length+1) cap) (out.length+1) (tflat out++[.int .i64 k,.string v,.int .i64 a,.int .i64 z]))∧Aside0 (Below C.B w wc))
 case first =>
  go_region_law (refine step_append_lies _ rfl (.tmp 12) (.tmp 21) 44 (by rfl) C.B 53 i0 (.agg #[.int .i64 0,.string ⟨#[]⟩,.int .i64 0,.int .i64 0]) 4 40 Tryz.underlying44 hi hz0 hz1 hzz2 (by rfl) (by omega) (.slice A out.length cp) out.length (tflat out) (by rfl) (own_drew (own_alloc HO.out _)) ⟨w.heap.size,0,none⟩ 1 1 [.int .i64 k,.string v,.int .i64 a,.int .i64 z] (by rfl) (by rfl) NA.out H1.out (by omega) (by unfold maxLen;omega) (by omega) (by exact Nat.le_trans HBW.out (below_alloc (Below.refl w.heap.size w) _).size) _ rfl ?_;intro gd cap w9 hown hgrow hat hlt;have OW:=mkA hown;have B9:=mkA (pw_below_grown (below_drew1 ((Below.refl C.B w).alloc HBW.out (.cells #[.int .i64 k,.string v,.int .i64 a,.int .i64 z] 53))) _ (by exact Nat.le_trans HBW.out (below_alloc (Below.refl w.heap.size w) _).size) hgrow (fun b hb=>(World.ownsRow.lt HO.out b hb).1));have BT9:=mkA (grown_typ (own_drew (own_alloc HO.out _)) hgrow (blk_below HC.out (below_drew1 (below_alloc (Below.refl w.heap.size w) _))) (by decide));have c9:w9.cell? ⟨C.gx,2,none⟩=some (.slice A out.length cp):=(blk_cell BT9.out 2).trans rfl;have f9:=blk_frozen BT9.out 2;clear hown hgrow hat hlt)
  all_goals (try go_wp2)
  all_goals go_meet
  all_goals
   exact ⟨gd,cap,⟨blk_put (cs:=#[.string C.s,.int .i64 a,.slice A out.length cp,.bool bad,.bool un]) BT9.out 2 _ rfl⟩,⟨own_typ OW.out (fun g cs x=>blk_far (p:=⟨C.gx,2,none⟩) x (blk_ne x BT9.out (by decide)) _)⟩,⟨B9.out.setCell (p:=⟨C.gx,2,none⟩) LO.out _⟩⟩
 case rest =>
  obtain ⟨gd,cap,BTc,ODc,Bc⟩:=hcut
  clear c1 c2 f2 e1 e2 NA H1 hi hz0 hz1 hzz2
  have c1:wc.cell? ⟨C.gx,1,none⟩=some (.int .i64 a):=(blk_cell BTc.out 1).trans rfl
  have f1:=blk_frozen BTc.out 1
  go_wp2
  go_end0
  refine ⟨rfl,⟨⟨some ⟨gd,0,none⟩,cap,?_,?_⟩,HZ2.out,SZ.out,?_,LO.out⟩,Bc.out.setCell (p:=⟨C.gx,1,none⟩) LO.out _⟩
  ·rw [List.length_append]
   exact blk_put (cs:=#[.string C.s,.int .i64 a,.slice (some ⟨gd,0,none⟩) (out.length+1) cap,.bool bad,.bool un]) BTc.out 1 _ rfl
  ·rw [List.length_append,tflat_snoc]
   exact own_typ ODc.out (fun g cs x=>blk_far (p:=⟨C.gx,1,none⟩) x (blk_ne x BTc.out (by decide)) _)
  ·refine ⟨?_,fun x hx=>?_⟩
   ·show (out++[_]).length≤z
    rw [List.length_append]
    have:=OL.out.1;have:=HZ.out
    simp only [List.length_cons,List.length_nil];omega
   ·rcases List.mem_append.1 hx with hx | hx
    ·exact OL.out.2 x hx
    ·rw [List.mem_singleton.1 hx];exact HKO.out
end Go.Proofs.YthgcghpcikbnkaaGreatDoor.R
