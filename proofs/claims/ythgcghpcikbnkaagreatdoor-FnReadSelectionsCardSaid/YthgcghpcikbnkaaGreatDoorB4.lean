/- A part of the proof of the theorem of this claim: Tkp, Smm, Smn, Wid, Dec, Run, Ba. No condition of its own. -/
import Derived.Deep.RegionLaw
import Derived.Deep.RegionWith
import Derived.StillTailTactics
import Derived.Laws.RangeAny
import Derived.Lib.DecodeN
import Derived.Shelf.Unicode.DecodeSlow
import Derived.Shelf.Spec.DecodeRune
import Derived.Shelf.Spec.NilArms
import Derived.Test.YthgcghpcikbnkaaGreatDoorB3
set_option maxHeartbeats 16000000
set_option maxRecDepth 100000
namespace Go.Proofs.YthgcghpcikbnkaaGreatDoor.R
open Go.RowKit Go.Proofs.YthgcghpcikbnkaaGreatDoorW.PrintWords Go.Proofs.YthgcghpcikbnkaaGreatDoorW.PrintLast Go.Proofs.YthgcghpcikbnkaaGreatDoorW.PrintMore
set_option linter.unusedVariables false
set_option linter.unusedSimpArgs false
theorem info55':(Tryz.prog.info? 55).map (fun i=>(i.zero,i.size,i.bytes))=some (some (.agg #[.int .i64 0,.string ⟨#[]⟩,.string ⟨#[]⟩,.string ⟨#[]⟩,.int .i64 0,.int .i64 0]),6,72):=by kernel_rfl
theorem info121':(Tryz.prog.info? 121).map (fun i=>(i.zero,i.size,i.bytes))=some (some (.agg #[.int .i64 0,.int .i64 0]),2,16):=by kernel_rfl
theorem inf_parts {P:Program} {e:TypeId} {z:Value} {s b:Nat} (h:(P.info? e).map (fun i=>(i.zero,i.size,i.bytes))=some (some z,s,b)):∃ i,P.info? e=some i∧i.zero=some z∧i.size=s∧i.bytes=b:=by
 obtain ⟨i,hi,h⟩:=Option.map_eq_some_iff.1 h
 simp only [Prod.mk.injEq] at h
 exact ⟨i,hi,h.1,h.2.1,h.2.2⟩
theorem fn_ne (n:Nat) (cs:Array Value) (w:World):(Sem.run Tryz.prog (binOp BinOp.neq 1 (.func (.func n) #[] cs) Value.nilFunc) w)=.ok (.bool true) w:=by kernel_rfl
theorem fn_nil (w:World):(Sem.run Tryz.prog (binOp BinOp.neq 1 Value.nilFunc Value.nilFunc) w)=.ok (.bool false) w:=by kernel_rfl
theorem put_fin {w W:World} {B gt m g4 cp4 cp5:Nat} {A5:Option Addr} {zs:List Value} {cur:Array Value} {rows kids:List Row} {k fl:Int} {nm al tx:ByteArray} (lo:B≤gt) (q1:W.heap[gt]?=some (.cells #[.slice (some ⟨g4,0,none⟩) m cp4,.slice A5 m cp5,.bool false] 38 (0,0))) (q2:W.ownsRow B 55 6 (.slice (some ⟨g4,0,none⟩) m cp4) m (flat ((rows++[(k,nm,al,tx,fl,0)])++kids))) (q3:W.ownsRow B 121 2 (.slice A5 m cp5) m zs) (hg:W.heap[g4]?=some (.cells cur 55 (0,0))) (hm:m=rows.length+1+kids.length) (hn:m≤1000001) (hF:TF B w W) :
 TP B gt w (rows++nd k nm al tx fl kids) (.returned (.tuple #[])) (W.setCell ⟨g4,rows.length * 6+5,none⟩ (.int .i64 (IntKind.i64.wrap ((m:Int) - (rows.length:Int))))).drew:=by
 have hv:IntKind.i64.wrap ((m:Int) - (rows.length:Int))=(kids.length:Int)+1:=(IntWalk.i64_in _ (by omega)).trans (by omega)
 have hl:(rows++nd k nm al tx fl kids).length=m:=by rw [List.length_append,hm];simp only [nd,List.length_cons];omega
 have hB:B≤g4:=(World.ownsRow.lt q2 g4 rfl).1
 rw [hv]
 refine ⟨rfl,⟨lo,some ⟨g4,0,none⟩,cp4,A5,cp5,zs,?_,?_,?_⟩,?_⟩
 ·rw [hl]
  exact blk_far (p:=⟨g4,rows.length * 6+5,none⟩) q1 (blk_ne q1 hg (by decide)) _
 ·rw [hl,← flat_set]
  exact own_drew (World.ownsRow.stored q2 _ _).1
 ·rw [hl]
  exact own_drew (own_typ q3 (fun g cs h=>blk_far (p:=⟨g4,rows.length * 6+5,none⟩) h (blk_ne h hg (by decide)) _))
 ·exact (TF.put hF (p:=⟨g4,rows.length * 6+5,none⟩) hB hg (.inl rfl) _).drewN 1
theorem put_walk {w:World} {B gt:Nat} {rows kids:List Row} {k fl:Int} {nm al tx:ByteArray} {l f:Value} (hT:TK B gt w rows) (hL:LocA (to_ B) w l) (hBw:B≤w.heap.size) (hn:rows.length+kids.length+1≤1000000) (hW:Wi B gt w f kids) :
 Calls Tryz.prog 26 #[ptr gt,l,.agg #[.int .i64 k,.string nm,.string al,.string tx,.int .i64 fl,.int .i64 0],f] w (TP B gt w (rows++nd k nm al tx fl kids)):=by
 obtain ⟨gl,a,y,p,rfl,hgl,hL⟩:=hL
 obtain ⟨lo,A,cp,A2,cp2,xs,hT,hD,hS⟩:=hT
 have HT:=mkA hT
 have HD:=mkA hD
 have HS:=mkA hS
 have HL:=mkA hL
 have HGL:=mkA hgl
 have LO:=mkA lo
 have HBW:=mkA hBw
 have HN:=mkA hn
 have HWI:=mkA hW
 have HB:=mkA (Below.refl w.heap.size w)
 obtain ⟨i0,hi,hz0,hz1,hz2⟩:=inf_parts info55'
 have hmx:rows.length≤1000000:=by omega
 clear hT hD hS hL hgl lo hBw hn hW
 go_enter Tryz.func26,Tryz.ntmps26
 go_upto_region 2 with (first
  | ((with_reducible refine gate_dst (N:=6) rfl ?_);refine bxe (cs:=#[.int .i64 k,.string nm,.string al,.string tx,.int .i64 fl,.int .i64 0]) (t:=55) ?hr ?_;(case hr=>first | (go_simp;done) | (go_simp;rfl));intro gx hg w2 hbox hb;have HB2:=mkA hb;have BX:=mkA hbox;have BT:=mkA (blk_below HT.out hb);have BL:=mkA (blk_below HL.out hb);clear hb hbox hg HB;have c0:w2.cell? ⟨gt,0,none⟩=some (.slice A rows.length cp):=(blk_cell BT.out 0).trans rfl))
 have x0:w2.cell? ⟨gx,0,none⟩=some (.int .i64 k):=(blk_cell BX.out 0).trans rfl
 have x1:w2.cell? ⟨gx,1,none⟩=some (.string nm):=(blk_cell BX.out 1).trans rfl
 have x2:w2.cell? ⟨gx,2,none⟩=some (.string al):=(blk_cell BX.out 2).trans rfl
 have x3:w2.cell? ⟨gx,3,none⟩=some (.string tx):=(blk_cell BX.out 3).trans rfl
 have x4:w2.cell? ⟨gx,4,none⟩=some (.int .i64 fl):=(blk_cell BX.out 4).trans rfl
 have x5:w2.cell? ⟨gx,5,none⟩=some (.int .i64 0):=(blk_cell BX.out 5).trans rfl
 have f0:=blk_frozen BT.out 0
 have HD2:=mkA (own_typ HD.out (fun g cs h=>blk_below h HB2.out))
 have HS2:=mkA (own_typ HS.out (fun g cs h=>blk_below h HB2.out))
 have F2:=mkA (TF.of HBW.out HB2.out)
 have NA:=mkA (World.news_of_block (heap_alloc_new w2 (.cells #[.int .i64 k,.string nm,.string al,.string tx,.int .i64 fl,.int .i64 0] 55 (0,0))))
 have H1:=mkA (show ∀ u ∈ [Value.int .i64 k,.string nm,.string al,.string tx,.int .i64 fl,.int .i64 0],u.oneCell'=true by intro u hu;simp only [List.mem_cons,List.not_mem_nil,or_false] at hu;rcases hu with rfl | rfl | rfl | rfl | rfl | rfl <;> rfl)
 have e0:∀ o,(w2.alloc o).cell? ⟨gt,0,none⟩=some (.slice A rows.length cp):=fun o=>((below_alloc (Below.refl w2.heap.size w2) o).cell (World.block_lt_of_cell? w2 _ c0)).trans c0
 go_cut [] (fun wc=>∃ (gd cap:Nat),Aside0 (wc.heap[gt]?=some (.cells #[.slice (some ⟨gd,0,none⟩) (rows.length+1) cap,.slice A2 rows.length cp2,.bool false] 38 (0,0)))∧Aside0 (wc.ownsRow B 55 6 (.slice (some ⟨gd,0,none⟩) (rows.length+1) cap) (rows.length+1) (flat rows++[.int .i64 k,.string nm,.string al,.string tx,.int .i64 fl,.int .i64 0]))∧Aside0 (wc.ownsRow B 121 2 (.slice A2 rows.length cp2) rows.length xs)∧Aside0 (TF B w wc))
 case first =>
  go_region_law (refine step_append_lies _ rfl (.tmp 18) (.tmp 20) 25 (by rfl) B 55 i0 (.agg #[.int .i64 0,.string ⟨#[]⟩,.string ⟨#[]⟩,.string ⟨#[]⟩,.int .i64 0,.int .i64 0]) 6 72 Tryz.underlying25 hi hz0 hz1 hz2 (by rfl) (by omega) (.slice A rows.length cp) rows.length (flat rows) (by rfl) (own_drew (own_alloc HD2.out _)) ⟨w2.heap.size,0,none⟩ 1 1 [.int .i64 k,.string nm,.string al,.string tx,.int .i64 fl,.int .i64 0] (by rfl) (by rfl) NA.out H1.out (by omega) (by unfold maxLen;omega) (by omega) (by exact Nat.le_trans (F2.out.big HBW.out) (below_alloc (Below.refl w2.heap.size w2) _).size) _ rfl ?_;intro gd cap w9 hown hgrow hat hlt;have OW:=mkA hown;have OS9:=mkA (own_typ (own_drew (own_alloc HS2.out _)) (fun g cs h=>grown_typ (own_drew (own_alloc HD2.out _)) hgrow h (by decide)));have F9:=mkA (TF.grown (TF.step F2.out (F2.out.big HBW.out) (below_drew1 (below_alloc (Below.refl w2.heap.size w2) _))) (own_drew (own_alloc HD2.out _)) (.inl rfl) (by exact Nat.le_trans (F2.out.big HBW.out) (below_alloc (Below.refl w2.heap.size w2) _).size) hgrow);have BT9:=mkA (grown_typ (own_drew (own_alloc HD2.out _)) hgrow (blk_below BT.out (below_drew1 (below_alloc (Below.refl w2.heap.size w2) _))) (by decide));have c9:w9.cell? ⟨gt,0,none⟩=some (.slice A rows.length cp):=(blk_cell BT9.out 0).trans rfl;have f9:=blk_frozen BT9.out 0;clear hown hgrow hat hlt)
  all_goals (try go_wp2)
  all_goals go_meet
  all_goals
   exact ⟨gd,cap,⟨blk_put (cs:=#[.slice A rows.length cp,.slice A2 rows.length cp2,.bool false]) BT9.out 0 _ rfl⟩,⟨own_typ OW.out (fun g cs h=>blk_far h (fun e=>by subst e;have:=BT9.out;rw [h] at this;injection this with this;injection this with h1 h2 h3;exact absurd h2 (by decide)) _)⟩,⟨own_typ OS9.out (fun g cs h=>blk_far h (fun e=>by subst e;have:=BT9.out;rw [h] at this;injection this with this;injection this with h1 h2 h3;exact absurd h2 (by decide)) _)⟩,⟨TF.put F9.out LO.out BT9.out (.inr (.inr rfl)) _⟩⟩
 case rest =>
  obtain ⟨gd,cap,BTc,ODc,OSc,Fc⟩:=hcut
  clear x0 x1 x2 x3 x4 x5 f0 c0 e0 NA H1 hi hz0 hz1 hz2
  have BLc:=mkA (Fc.out.typ gl _ _ HL.out (by decide) (by decide) (by decide))
  have HBc:=mkA (Fc.out.big HBW.out)
  go_upto_region 5 with (fail)
  obtain ⟨j0,hj,hy0,hy1,hy2⟩:=inf_parts info121'
  have d1:wc.cell? ⟨gt,1,none⟩=some (.slice A2 rows.length cp2):=(blk_cell BTc.out 1).trans rfl
  have l0:wc.cell? ⟨gl,0,none⟩=some (.int .i64 a):=(blk_cell BLc.out 0).trans rfl
  have l1:wc.cell? ⟨gl,1,none⟩=some (.int .i64 y):=(blk_cell BLc.out 1).trans rfl
  have NA:=mkA (World.news_of_block (heap_alloc_new wc (.cells #[.int .i64 a,.int .i64 y] 121 (0,0))))
  have H1:=mkA (show ∀ u ∈ [Value.int .i64 a,.int .i64 y],u.oneCell'=true by intro u hu;simp only [List.mem_cons,List.not_mem_nil,or_false] at hu;rcases hu with rfl | rfl <;> rfl)
  have e1:∀ o,(wc.alloc o).cell? ⟨gt,1,none⟩=some (.slice A2 rows.length cp2):=fun o=>((below_alloc (Below.refl wc.heap.size wc) o).cell (World.block_lt_of_cell? wc _ d1)).trans d1
  go_cut [] (fun wd=>∃ (A3:Option Addr) (cp3:Nat) (ys:List Value),Aside0 (wd.heap[gt]?=some (.cells #[.slice (some ⟨gd,0,none⟩) (rows.length+1) cap,.slice A3 (rows.length+1) cp3,.bool false] 38 (0,0)))∧Aside0 (wd.ownsRow B 55 6 (.slice (some ⟨gd,0,none⟩) (rows.length+1) cap) (rows.length+1) (flat rows++[.int .i64 k,.string nm,.string al,.string tx,.int .i64 fl,.int .i64 0]))∧Aside0 (wd.ownsRow B 121 2 (.slice A3 (rows.length+1) cp3) (rows.length+1) ys)∧Aside0 (TF B w wd))
  case first =>
   go_region_law (refine step_append_lies _ rfl (.tmp 32) (.tmp 42) 36 (by rfl) B 121 j0 (.agg #[.int .i64 0,.int .i64 0]) 2 16 Tryz.underlying36 hj hy0 hy1 hy2 (by rfl) (by omega) (.slice A2 rows.length cp2) rows.length xs (by rfl) (own_drew (own_alloc OSc.out _)) ⟨wc.heap.size,0,none⟩ 1 1 [.int .i64 a,.int .i64 y] (by rfl) (by rfl) NA.out H1.out (by omega) (by unfold maxLen;omega) (by omega) (by exact Nat.le_trans HBc.out (below_alloc (Below.refl wc.heap.size wc) _).size) _ rfl ?_;intro ge cap2 w9 hown hgrow hat hlt;have OW:=mkA hown;have OD9:=mkA (own_typ (own_drew (own_alloc ODc.out _)) (fun g cs h=>grown_typ (own_drew (own_alloc OSc.out _)) hgrow h (by decide)));have F9:=mkA (TF.grown (TF.step Fc.out HBc.out (below_drew1 (below_alloc (Below.refl wc.heap.size wc) _))) (own_drew (own_alloc OSc.out _)) (.inr (.inl rfl)) (by exact Nat.le_trans HBc.out (below_alloc (Below.refl wc.heap.size wc) _).size) hgrow);have BT9:=mkA (grown_typ (own_drew (own_alloc OSc.out _)) hgrow (blk_below BTc.out (below_drew1 (below_alloc (Below.refl wc.heap.size wc) _))) (by decide));have c9:w9.cell? ⟨gt,1,none⟩=some (.slice A2 rows.length cp2):=(blk_cell BT9.out 1).trans rfl;have f9:=blk_frozen BT9.out 1;clear hown hgrow hat hlt)
   all_goals (try go_wp2)
   all_goals go_meet
   all_goals
    exact ⟨some ⟨ge,0,none⟩,cap2,_,⟨blk_put (cs:=#[.slice (some ⟨gd,0,none⟩) (rows.length+1) cap,.slice A2 rows.length cp2,.bool false]) BT9.out 1 _ rfl⟩,⟨own_typ OD9.out (fun g cs h=>blk_far h (fun e=>by subst e;have:=BT9.out;rw [h] at this;injection this with this;injection this with h1 h2 h3;exact absurd h2 (by decide)) _)⟩,⟨own_typ OW.out (fun g cs h=>blk_far h (fun e=>by subst e;have:=BT9.out;rw [h] at this;injection this with this;injection this with h1 h2 h3;exact absurd h2 (by decide)) _)⟩,⟨TF.put F9.out LO.out BT9.out (.inr (.inr rfl)) _⟩⟩
  case rest =>
   obtain ⟨A3,cp3,ys,BTd,ODd,OSd,Fd⟩:=hcut
   clear d1 l0 l1 NA H1 e1 hj hy0 hy1 hy2
   have HTK:=mkA (show TK B gt wc (rows++[(k,nm,al,tx,fl,0)]) from ⟨LO.out,some ⟨gd,0,none⟩,cap,A3,cp3,ys,by rw [List.length_append];exact BTd.out,by rw [List.length_append,flat_app];exact ODd.out,by rw [List.length_append];exact OSd.out⟩)
   clear BTd ODd OSd
   have hwi:=HWI.out
   rcases hwi with ⟨rfl,rfl⟩ | ⟨n,cs,rfl,hE,hC⟩
   ·have hNil:=fn_nil
    have HK:=mkA (show TK B gt wc ((rows++[(k,nm,al,tx,fl,0)])++[]) by rw [List.append_nil];exact HTK.out)
    obtain ⟨-,A4,cp4,A5,cp5,zs,q1,q2,q3⟩:=HK.out
    obtain ⟨m,hm⟩:∃ m,m=((rows++[(k,nm,al,tx,fl,0)])++[]).length:=⟨_,rfl⟩
    rw [← hm] at q1 q2 q3
    have hm2:m=rows.length+1+([]:List Row).length:=by rw [hm];simp only [List.length_append,List.length_cons,List.length_nil];try omega
    clear hm
    obtain ⟨g4,rfl,cur,hg4⟩:∃ g4,A4=some ⟨g4,0,none⟩∧∃ cur,wc.heap[g4]?=some (.cells cur 55 (0,0)):=by
     rcases q2.2 with ⟨_,e⟩ | ⟨g4,cap4,cur,e,_,h4,_⟩
     ·omega
     ·injection e with e1 e2 e3;exact ⟨g4,e1,cur,h4⟩
    have Q1:=mkA q1
    have Q2:=mkA q2
    have Q3:=mkA q3
    have G4:=mkA hg4
    have HM:=mkA hm2
    have a0:wc.cell? ⟨gt,0,none⟩=some (.slice (some ⟨g4,0,none⟩) m cp4):=(blk_cell q1 0).trans rfl
    have b5:=blk_frozen hg4 (rows.length * 6+5)
    have hlt:rows.length < m:=by omega
    have a5:wc.cell? ⟨g4,rows.length * 6+5,none⟩=some (.int .i64 0):=by
     have h5:=World.ownsRow.cells q2 (g:=g4) rfl (rows.length * 6+5) (.int .i64 0) (by rw [flat_app,flat_app,List.append_assoc,List.getElem?_append_right (by rw [flat_len];omega),flat_len,show rows.length * 6+5 - rows.length * 6=5 from by omega];rfl)
     rw [show (⟨g4,0,none⟩:Addr).add (rows.length * 6+5)=⟨g4,rows.length * 6+5,none⟩ from by unfold Addr.add;split <;> simp_all] at h5
     exact h5
    clear q1 q2 q3 hg4 hm2
    go_upto_region 8 with (fail)
    go_region_law (fail)
    all_goals (try go_wp2)
    all_goals go_end0
    all_goals exact put_fin LO.out Q1.out Q2.out Q3.out G4.out HM.out (by have h1:=HM.out;have h2:=HN.out;(try simp only [List.length_nil] at h1 h2);omega) Fd.out
   ·have hF:=fn_ne n cs
    have CW:=mkA (hC wc _ Fd.out HTK.out (by have:=HN.out;simp only [List.length_append,List.length_cons,List.length_nil] at *;omega))
    clear hC
    go_upto_region 8 with (first
     | ((with_reducible refine CW.out.mono ?_);rintro e w5 ⟨rfl,hK5,hF5⟩;have HK:=mkA hK5;have F5:=mkA (Fd.out.trans hF5);clear hK5 hF5))
    obtain ⟨-,A4,cp4,A5,cp5,zs,q1,q2,q3⟩:=HK.out
    obtain ⟨m,hm⟩:∃ m,m=((rows++[(k,nm,al,tx,fl,0)])++kids).length:=⟨_,rfl⟩
    rw [← hm] at q1 q2 q3
    have hm2:m=rows.length+1+kids.length:=by rw [hm];simp only [List.length_append,List.length_cons,List.length_nil];try omega
    clear hm
    obtain ⟨g4,rfl,cur,hg4⟩:∃ g4,A4=some ⟨g4,0,none⟩∧∃ cur,w5.heap[g4]?=some (.cells cur 55 (0,0)):=by
     rcases q2.2 with ⟨_,e⟩ | ⟨g4,cap4,cur,e,_,h4,_⟩
     ·omega
     ·injection e with e1 e2 e3;exact ⟨g4,e1,cur,h4⟩
    have Q1:=mkA q1
    have Q2:=mkA q2
    have Q3:=mkA q3
    have G4:=mkA hg4
    have HM:=mkA hm2
    have a0:w5.cell? ⟨gt,0,none⟩=some (.slice (some ⟨g4,0,none⟩) m cp4):=(blk_cell q1 0).trans rfl
    have b5:=blk_frozen hg4 (rows.length * 6+5)
    have hlt:rows.length < m:=by omega
    have a5:w5.cell? ⟨g4,rows.length * 6+5,none⟩=some (.int .i64 0):=by
     have h5:=World.ownsRow.cells q2 (g:=g4) rfl (rows.length * 6+5) (.int .i64 0) (by rw [flat_app,flat_app,List.append_assoc,List.getElem?_append_right (by rw [flat_len];omega),flat_len,show rows.length * 6+5 - rows.length * 6=5 from by omega];rfl)
     rw [show (⟨g4,0,none⟩:Addr).add (rows.length * 6+5)=⟨g4,rows.length * 6+5,none⟩ from by unfold Addr.add;split <;> simp_all] at h5
     exact h5
    clear q1 q2 q3 hg4 hm2
    go_region_law (fail)
    all_goals (try go_wp2)
    all_goals go_end0
    all_goals exact put_fin LO.out Q1.out Q2.out Q3.out G4.out HM.out (by have h1:=HM.out;have h2:=HN.out;(try simp only [List.length_nil] at h1 h2);omega) F5.out
structure SC where
 gp:Nat
 A:Option Addr
 cp:Nat
 L:List Tk
def tv (t:Tk):List Value:=[.int .i64 t.k,.string t.v,.int .i64 t.a,.int .i64 t.z]
def tflat (l:List Tk):List Value:=l.flatMap tv
theorem tflat_at (l:List Tk) (i:Nat) (h:i < l.length) (j:Nat) (hj:j < 4):(tflat l)[i * 4+j]?=(tv l[i])[j]?:=by
 induction l generalizing i with
 | nil=>cases h
 | cons x r ih =>
   cases i with
   | zero =>
     show (tv x++tflat r)[0 * 4+j]?=_
     rw [List.getElem?_append_left (by simp [tv];omega)]
     rw [Nat.zero_mul,Nat.zero_add];rfl
   | succ i =>
     show (tv x++tflat r)[(i+1) * 4+j]?=_
     rw [List.getElem?_append_right (by simp [tv];omega),show (i+1) * 4+j - (tv x).length=i * 4+j from by simp [tv];omega]
     exact ih i (by simpa using h)
structure SP (C:SC) (w:World) (s:St):Prop where
 cell:∃ wr:Int,w.heap[C.gp]?=some (.cells #[.slice C.A C.L.length C.cp,.int .i64 s.a,.int .i64 s.d,.int .i64 wr,.bool s.bad,.bool s.un] 49 (0,0))
 own:w.ownsRow 0 53 4 (.slice C.A C.L.length C.cp) C.L.length (tflat C.L)
 le:s.a≤C.L.length
 big:C.L.length≤1000000
theorem SP.below {C:SC} {w w':World} {s:St} (h:SP C w s) (hb:Below w.heap.size w w'):SP C w' s :=
 ⟨h.cell.imp fun _ x=>blk_below x hb,own_typ h.own (fun g cs x=>blk_below x hb),h.le,h.big⟩
theorem SP.drewN {C:SC} {w:World} {s:St} (h:SP C w s) (n:Nat):SP C (w.drewN n) s:=⟨h.cell,h.own,h.le,h.big⟩
theorem SP.tok {C:SC} {w:World} {s:St} (h:SP C w s) (hl:s.a < C.L.length):∃ g:Nat,C.A=some ⟨g,0,none⟩∧w.cell? ⟨g,s.a * 4,none⟩=some (.int .i64 (kd C.L s))∧w.cell? ⟨g,s.a * 4+1,none⟩=some (.string (vl C.L s))∧w.cell? ⟨g,s.a * 4+2,none⟩=some (.int .i64 (C.L[s.a]).a)∧w.cell? ⟨g,s.a * 4+3,none⟩=some (.int .i64 (C.L[s.a]).z):=by
 have ho:=h.own
 rcases ho.2 with ⟨_,e⟩ | ⟨g,cap,cur,e,_,hg,_⟩
 ·omega
 ·injection e with e1 e2 e3
  refine ⟨g,e1,?_⟩
  have key:∀ j,j < 4→∀ u,(tv C.L[s.a])[j]?=some u→w.cell? ⟨g,s.a * 4+j,none⟩=some u:=fun j hj u hu=>by
   have h5:=World.ownsRow.cells ho (g:=g) (by rw [e1];rfl) (s.a * 4+j) u (by rw [tflat_at _ _ hl _ hj];exact hu)
   rw [show (⟨g,0,none⟩:Addr).add (s.a * 4+j)=⟨g,s.a * 4+j,none⟩ from by unfold Addr.add;split <;> simp_all] at h5
   exact h5
  rw [(kd_in hl).1,(kd_in hl).2]
  exact ⟨key 0 (by decide) _ rfl,key 1 (by decide) _ rfl,key 2 (by decide) _ rfl,key 3 (by decide) _ rfl⟩
def Rv (C:SC) (w:World) (v:Value) (s':St) (e:Ending) (w':World):Prop:=e=.returned v∧SP C w' s'∧Fr C.gp C.gp w w'
theorem SP.upd {C:SC} {w w':World} {s s':St} (h:SP C w s) (hw:∃ wr:Int,w'.heap[C.gp]?=some (.cells #[.slice C.A C.L.length C.cp,.int .i64 s'.a,.int .i64 s'.d,.int .i64 wr,.bool s'.bad,.bool s'.un] 49 (0,0))) (hf:Fr C.gp C.gp w w') (hle:s'.a≤C.L.length):SP C w' s' :=
 ⟨hw,own_typ h.own (fun g cs x=>by
  obtain ⟨wr,hc⟩:=h.cell
  have hne:=blk_ne x hc (by decide)
  exact hf.blk x hne hne),hle,h.big⟩
theorem bneq {a b:Int} (h:a=b):(a != b)=false∧(a == b)=true:=⟨by rw [h];exact bne_self_eq_false _,beq_iff_eq.2 h⟩
theorem bnne {a b:Int} (h:a≠b):(a != b)=true∧(a == b)=false:=⟨bne_iff_ne.2 h,beq_eq_false_iff_ne.2 h⟩
theorem kind_q {C:SC} {w:World} {s:St} (h:SP C w s):Calls Tryz.prog 36 #[ptr C.gp,.int .i64 0] w (fun e w'=>e=.returned (.int .i64 (kd C.L s))∧∃ m,w'=w.drewN m):=by
 obtain ⟨wr,hc⟩:=h.cell
 have HP:=mkA h
 have c0:w.cell? ⟨C.gp,0,none⟩=some (.slice C.A C.L.length C.cp):=(blk_cell hc 0).trans rfl
 have c1:w.cell? ⟨C.gp,1,none⟩=some (.int .i64 s.a):=(blk_cell hc 1).trans rfl
 have hle:=h.le
 have hbig:=h.big
 have hw:wrap64 ((s.a:Int)+0)=(s.a:Int):=(w64 (by omega) (by omega)).trans (by omega)
 have hw2:IntKind.i64.wrap ((s.a:Int)+0)=(s.a:Int):=(IntWalk.i64_in _ (by omega)).trans (by omega)
 have hw3:IntKind.i64.wrap (s.a:Int)=(s.a:Int):=IntWalk.i64_in _ (by omega)
 by_cases hl:s.a < C.L.length
 ·obtain ⟨g,hA,t0,t1,t2,t3⟩:=h.tok hl
  have HA:=mkA hA
  rw [hA] at c0
  have q1:((C.L.length:Int)≤(s.a:Int))=False:=eq_false (by omega)
  have q2:(C.L.length≤s.a)=False:=eq_false (by omega)
  have q3:((s.a:Int) < (C.L.length:Int))=True:=eq_true (by omega)
  have q4:decide ((C.L.length:Int)≤(s.a:Int))=false:=decide_eq_false (by omega)
  clear h hc hle hbig hA hl t1 t2 t3
  go_enter Tryz.func36,Tryz.ntmps36
  go_upto_region 1 with (fail)
  go_quiet (fail)
  go_upto_region 3 with (fail)
  go_quiet (fail)
  go_wp2
  go_ret
  exact ⟨rfl,by first | exact ⟨_,rfl⟩ | exact ⟨_,World.drewN_drewN _ _ _⟩⟩
 ·have q1:((C.L.length:Int)≤(s.a:Int))=True:=eq_true (by omega)
  have q2:(C.L.length≤s.a)=True:=eq_true (by omega)
  have q4:decide ((C.L.length:Int)≤(s.a:Int))=true:=decide_eq_true (by omega)
  rw [(kd_end (by omega)).1]
  clear h hc hle hbig hl
  go_enter Tryz.func36,Tryz.ntmps36
  go_upto_region 1 with (fail)
  go_quiet (fail)
  go_wp2
  go_ret
  exact ⟨rfl,by first | exact ⟨_,rfl⟩ | exact ⟨_,World.drewN_drewN _ _ _⟩⟩
theorem kind_walk {C:SC} {w:World} {s:St} (h:SP C w s):Calls Tryz.prog 36 #[ptr C.gp,.int .i64 0] w (Rv C w (.int .i64 (kd C.L s)) s):=(kind_q h).mono fun e w' ⟨q1,m,q2⟩=>⟨q1,by rw [q2];exact h.drewN m,by rw [q2];exact (Fr.refl _ _ _).drewN m⟩
theorem fail_walk {C:SC} {w:World} {s:St} (h:SP C w s):Calls Tryz.prog 76 #[ptr C.gp] w (Rv C w (.slice none 0 0) s.fail):=by
 obtain ⟨a,d,b,u⟩:=s
 obtain ⟨wr,hc⟩:=h.cell
 have HP:=mkA h
 have HC:=mkA hc
 have c1:w.cell? ⟨C.gp,1,none⟩=some (.int .i64 a):=(blk_cell hc 1).trans rfl
 have c3:w.cell? ⟨C.gp,3,none⟩=some (.int .i64 wr):=(blk_cell hc 3).trans rfl
 have f3:=blk_frozen hc 3
 have f4:=blk_frozen hc 4
 have c4:w.cell? ⟨C.gp,4,none⟩=some (.bool b):=(blk_cell hc 4).trans rfl
 clear h hc
 cases b
 ·go_enter Tryz.func76,Tryz.ntmps76
  go_wp2
  go_ret
  have hf:=((Fr.refl C.gp C.gp w).put (p:=⟨C.gp,4,none⟩) (.inl rfl) (.bool true)).put (p:=⟨C.gp,3,none⟩) (.inl rfl) (.int .i64 a)
  exact ⟨rfl,HP.out.upd ⟨a,blk_put (cs:=#[.slice C.A C.L.length C.cp,.int .i64 a,.int .i64 d,.int .i64 wr,.bool true,.bool u]) (blk_put (cs:=#[.slice C.A C.L.length C.cp,.int .i64 a,.int .i64 d,.int .i64 wr,.bool false,.bool u]) HC.out 4 _ rfl) 3 _ rfl⟩ hf HP.out.le,hf⟩
 ·go_enter Tryz.func76,Tryz.ntmps76
  go_wp2
  go_ret
  exact ⟨rfl,HP.out,Fr.refl _ _ _⟩
theorem taken_walk {C:SC} {w:World} {s:St} (h:SP C w s) (k:Int) (hk1:k≠1):Calls Tryz.prog 37 #[ptr C.gp,.int .i64 k] w (Rv C w (.bool (takenF C.L k s).1) (takenF C.L k s).2):=by
 obtain ⟨a,d,b,u⟩:=s
 obtain ⟨wr,hc⟩:=h.cell
 have HP:=mkA h
 have c4:w.cell? ⟨C.gp,4,none⟩=some (.bool b):=(blk_cell hc 4).trans rfl
 cases b
 ·by_cases hk:kd C.L ⟨a,d,false,u⟩=k
  ·have hlt:a < C.L.length:=kd_lt (s:=⟨a,d,false,u⟩) (by rw [hk];exact hk1)
   have hbig:=h.big
   have hr:takenF C.L k ⟨a,d,false,u⟩=(true,⟨a+1,d,false,u⟩):=by unfold takenF;rw [if_pos ⟨rfl,hk⟩];rfl
   rw [hr]
   have HW:=mkA (show wrap64 ((a:Int)+1)=((a+1:Nat):Int) from (w64 (by omega) (by omega)).trans (by omega))
   have HLT:=mkA hlt
   have qk:=(bneq hk).1
   have qk2:=(bneq hk).2
   clear h hc hk hr hlt hbig
   go_enter Tryz.func37,Tryz.ntmps37
   go_wp2_with (first
    | (go_at_call 36;(with_reducible refine (kind_walk HP.out).mono ?_);rintro e w2 ⟨rfl,hP,hF⟩;obtain ⟨wr2,hc2⟩:=hP.cell;have HP2:=mkA hP;have HF2:=mkA hF;have HC2:=mkA hc2;have c1:w2.cell? ⟨C.gp,1,none⟩=some (.int .i64 a):=(blk_cell hc2 1).trans rfl;have f1:=blk_frozen hc2 1;clear hP hF hc2))
   go_ret
   have hf:=(HF2.out).put (p:=⟨C.gp,1,none⟩) (.inl rfl) (.int .i64 (wrap64 ((a:Int)+1)))
   exact ⟨rfl,HP.out.upd ⟨wr2,by rw [← HW.out];exact blk_put (cs:=#[.slice C.A C.L.length C.cp,.int .i64 a,.int .i64 d,.int .i64 wr2,.bool false,.bool u]) HC2.out 1 _ rfl⟩ hf HLT.out,hf⟩
  ·have hr:takenF C.L k ⟨a,d,false,u⟩=(false,⟨a,d,false,u⟩):=by unfold takenF;rw [if_neg (fun h=>hk h.2)]
   rw [hr]
   have qk:=(bnne hk).1
   have qk2:=(bnne hk).2
   clear h hc hk hr
   go_enter Tryz.func37,Tryz.ntmps37
   go_wp2_with (first
    | (go_at_call 36;(with_reducible refine (kind_walk HP.out).mono ?_);rintro e w2 ⟨rfl,hP,hF⟩;have HP2:=mkA hP;have HF2:=mkA hF;clear hP hF))
   go_ret
   exact ⟨rfl,HP2.out,HF2.out⟩
 ·have hr:takenF C.L k ⟨a,d,true,u⟩=(false,⟨a,d,true,u⟩):=by unfold takenF;rw [if_neg (fun h=>by cases h.1)]
  rw [hr]
  clear h hc hr
  go_enter Tryz.func37,Tryz.ntmps37
  go_wp2
  go_ret
  exact ⟨rfl,HP.out,Fr.refl _ _ _⟩
theorem must_walk {C:SC} {w:World} {s:St} (h:SP C w s) (k:Int) (hk1:k≠1):Calls Tryz.prog 39 #[ptr C.gp,.int .i64 k] w (Rv C w (.tuple #[]) (mustF C.L k s)):=by
 have CT:=mkA (taken_walk h k hk1)
 by_cases hc:s.bad=false∧kd C.L s=k
 ·have e1:takenF C.L k s=(true,s.nx):=if_pos hc
  have e2:mustF C.L k s=s.nx:=if_pos hc
  rw [e1] at CT
  rw [e2]
  clear h hc e1 e2
  go_enter Tryz.func39,Tryz.ntmps39
  go_wp2_with (first
   | (go_at_call 37;(with_reducible refine CT.out.mono ?_);rintro e w2 ⟨rfl,hP,hF⟩;have HP2:=mkA hP;have HF2:=mkA hF;clear hP hF))
  go_end0
  exact ⟨rfl,HP2.out,HF2.out⟩
 ·have e1:takenF C.L k s=(false,s):=if_neg hc
  have e2:mustF C.L k s=s.fail:=if_neg hc
  rw [e1] at CT
  rw [e2]
  clear h hc e1 e2
  go_enter Tryz.func39,Tryz.ntmps39
  go_wp2_with (first
   | (go_at_call 37;(with_reducible refine CT.out.mono ?_);rintro e w2 ⟨rfl,hP,hF⟩;have HP2:=mkA hP;have HF2:=mkA hF;clear hP hF)
   | (go_at_call 76;(with_reducible refine (fail_walk HP2.out).mono ?_);rintro e w3 ⟨rfl,hP,hF⟩;have HP3:=mkA hP;have HF3:=mkA (HF2.out.trans hF);clear hP hF))
  go_end0
  exact ⟨rfl,HP3.out,HF3.out⟩
theorem name_walk {C:SC} {w:World} {s:St} (h:SP C w s):Calls Tryz.prog 40 #[ptr C.gp] w (Rv C w (.string (nameF C.L s).1) (nameF C.L s).2):=by
 obtain ⟨a,d,b,u⟩:=s
 obtain ⟨wr,hc⟩:=h.cell
 have HP:=mkA h
 have c4:w.cell? ⟨C.gp,4,none⟩=some (.bool b):=(blk_cell hc 4).trans rfl
 cases b
 ·by_cases hk:kd C.L ⟨a,d,false,u⟩=15
  ·have hlt:a < C.L.length:=kd_lt (s:=⟨a,d,false,u⟩) (by rw [hk];decide)
   have hbig:=h.big
   have hr:nameF C.L ⟨a,d,false,u⟩=(vl C.L ⟨a,d,false,u⟩,⟨a+1,d,false,u⟩):=by unfold nameF;rw [if_pos ⟨rfl,hk⟩];rfl
   rw [hr]
   have HW:=mkA (show wrap64 ((a:Int)+1)=((a+1:Nat):Int) from (w64 (by omega) (by omega)).trans (by omega))
   have HLT:=mkA hlt
   have HBI:=mkA hbig
   have qk:=(bneq hk).1
   have qk2:=(bneq hk).2
   clear h hc hk hr hlt hbig
   go_enter Tryz.func40,Tryz.ntmps40
   go_upto_region 5 with (first
    | (go_at_call 36;(with_reducible refine (kind_walk HP.out).mono ?_);rintro e w2 ⟨rfl,hP,hF⟩;obtain ⟨wr2,hc2⟩:=hP.cell;obtain ⟨g,hA,t0,t1,t2,t3⟩:=hP.tok HLT.out;have HA:=mkA hA;have HP2:=mkA hP;have HF2:=mkA hF;have HC2:=mkA hc2;have T1:=mkA t1;have c1:w2.cell? ⟨C.gp,1,none⟩=some (.int .i64 a):=(blk_cell hc2 1).trans rfl;have f1:=blk_frozen hc2 1;clear hP hF hc2 hA t0 t1 t2 t3))
   have hf:=(HF2.out).put (p:=⟨C.gp,1,none⟩) (.inl rfl) (.int .i64 (wrap64 ((a:Int)+1)))
   have hb3:(w2.setCell ⟨C.gp,1,none⟩ (.int .i64 (wrap64 ((a:Int)+1)))).heap[C.gp]?=some (.cells #[.slice C.A C.L.length C.cp,.int .i64 ((a+1:Nat):Int),.int .i64 d,.int .i64 wr2,.bool false,.bool u] 49 (0,0)):=by rw [← HW.out];exact blk_put (cs:=#[.slice C.A C.L.length C.cp,.int .i64 a,.int .i64 d,.int .i64 wr2,.bool false,.bool u]) HC2.out 1 _ rfl
   have hP3:=HP.out.upd (s':=⟨a+1,d,false,u⟩) ⟨wr2,hb3⟩ hf HLT.out
   have ht3:=(World.cell?_of_block (a:=⟨g,a * 4+1,none⟩) (Below.heap_setCell w2 ⟨C.gp,1,none⟩ (.int .i64 (wrap64 ((a:Int)+1))) g (fun e=>by
    have h1:=T1.out
    rw [show g=C.gp from e,blk_cell HC2.out] at h1
    have h2:=HP2.out.own
    rw [HA.out] at h2
    rcases h2.2 with ⟨h3,_⟩ | ⟨g3,cap3,cur3,h3,_,h4,_⟩
    ·cases h3
    ·injection h3 with h3 _ _;injection h3 with h3;injection h3 with h3 _ _
     exact blk_ne h4 HC2.out (by decide) (h3.symm.trans e)))).trans T1.out
   generalize w2.setCell ⟨C.gp,1,none⟩ (.int .i64 (wrap64 ((a:Int)+1)))=w3 at hf hb3 hP3 ht3 ⊢
   have d0:w3.cell? ⟨C.gp,0,none⟩=some (.slice (some ⟨g,0,none⟩) C.L.length C.cp):=by rw [← HA.out];exact (blk_cell hb3 0).trans rfl
   obtain ⟨m,hm⟩:∃ m:Nat,m=a+1:=⟨_,rfl⟩
   have d1:w3.cell? ⟨C.gp,1,none⟩=some (.int .i64 (m:Int)):=by rw [hm];exact (blk_cell hb3 1).trans rfl
   have HP3:=mkA hP3
   have HF3:=mkA hf
   have v1:IntKind.i64.wrap ((m:Int) - 1)=(a:Int):=(IntWalk.i64_in _ (by have:=HLT.out;have:=HBI.out;omega)).trans (by omega)
   have v2:wrap64 ((m:Int) - 1)=(a:Int):=(w64 (by omega) (by have:=HLT.out;have:=HBI.out;omega)).trans (by omega)
   have q3:((a:Int) < (C.L.length:Int))=True:=eq_true (by have:=HLT.out;omega)
   have q5:(a < C.L.length)=True:=eq_true HLT.out
   clear hf hb3 hP3 c1 f1 hm
   go_quiet (fail)
   go_wp2
   go_ret
   exact ⟨rfl,by first | exact HP3.out | exact HP3.out.drewN _,by first | exact HF3.out | exact HF3.out.drewN _⟩
  ·have hr:nameF C.L ⟨a,d,false,u⟩=(e0,St.fail ⟨a,d,false,u⟩):=by unfold nameF;rw [if_neg (fun h=>hk h.2)]
   rw [hr]
   have qk:=(bnne hk).1
   have qk2:=(bnne hk).2
   clear h hc hk hr
   go_enter Tryz.func40,Tryz.ntmps40
   go_wp2_with (first
    | (go_at_call 36;(with_reducible refine (kind_walk HP.out).mono ?_);rintro e w2 ⟨rfl,hP,hF⟩;have HP2:=mkA hP;have HF2:=mkA hF;clear hP hF)
    | (go_at_call 76;(with_reducible refine (fail_walk HP2.out).mono ?_);rintro e w3 ⟨rfl,hP,hF⟩;have HP3:=mkA hP;have HF3:=mkA (HF2.out.trans hF);clear hP hF))
   go_ret
   exact ⟨rfl,HP3.out,HF3.out⟩
 ·have hr:nameF C.L ⟨a,d,true,u⟩=(e0,St.fail ⟨a,d,true,u⟩):=by unfold nameF;rw [if_neg (fun h=>by cases h.1)]
  rw [hr]
  clear h hc hr
  go_enter Tryz.func40,Tryz.ntmps40
  go_wp2_with (first
   | (go_at_call 76;(with_reducible refine (fail_walk HP.out).mono ?_);rintro e w3 ⟨rfl,hP,hF⟩;have HP3:=mkA hP;have HF3:=mkA hF;clear hP hF))
  go_ret
  exact ⟨rfl,HP3.out,HF3.out⟩
theorem leave_walk {C:SC} {w:World} {s:St} (h:SP C w s):Calls Tryz.prog 41 #[ptr C.gp] w (Rv C w (.tuple #[]) (leaveF s)):=by
 obtain ⟨a,d,b,u⟩:=s
 obtain ⟨wr,hc⟩:=h.cell
 have HP:=mkA h
 have HC:=mkA hc
 have c2:w.cell? ⟨C.gp,2,none⟩=some (.int .i64 d):=(blk_cell hc 2).trans rfl
 have f2:=blk_frozen hc 2
 clear h hc
 go_enter Tryz.func41,Tryz.ntmps41
 go_wp2
 go_end0
 have hf:=(Fr.refl C.gp C.gp w).put (p:=⟨C.gp,2,none⟩) (.inl rfl) (.int .i64 (wrap64 (d - 1)))
 exact ⟨rfl,HP.out.upd ⟨wr,blk_put (cs:=#[.slice C.A C.L.length C.cp,.int .i64 a,.int .i64 d,.int .i64 wr,.bool b,.bool u]) HC.out 2 _ rfl⟩ hf HP.out.le,hf⟩
theorem enter_walk {C:SC} {w:World} {s:St} (h:SP C w s):Calls Tryz.prog 35 #[ptr C.gp] w (Rv C w (.bool (!(enterF s).bad)) (enterF s)):=by
 obtain ⟨a,d,b,u⟩:=s
 obtain ⟨wr,hc⟩:=h.cell
 have HP:=mkA h
 have HC:=mkA hc
 have c2:w.cell? ⟨C.gp,2,none⟩=some (.int .i64 d):=(blk_cell hc 2).trans rfl
 have c4:w.cell? ⟨C.gp,4,none⟩=some (.bool b):=(blk_cell hc 4).trans rfl
 have c5:w.cell? ⟨C.gp,5,none⟩=some (.bool u):=(blk_cell hc 5).trans rfl
 have f2:=blk_frozen hc 2
 have f5:=blk_frozen hc 5
 obtain ⟨d2,hd⟩:∃ d2,d2=wrap64 (d+1):=⟨_,rfl⟩
 have HD:=mkA hd
 clear h hc
 have hf:=(Fr.refl C.gp C.gp w).put (p:=⟨C.gp,2,none⟩) (.inl rfl) (.int .i64 d2)
 have HF:=mkA hf
 by_cases hq:d2 > 60
 ·have hr:enterF ⟨a,d,b,u⟩=⟨a,d2,true,true⟩:=by unfold enterF;simp only [← hd];rw [if_pos hq]
  rw [hr]
  have HP1:=mkA (HP.out.upd (s':=⟨a,d2,b,u⟩) ⟨wr,blk_put (cs:=#[.slice C.A C.L.length C.cp,.int .i64 a,.int .i64 d,.int .i64 wr,.bool b,.bool u]) HC.out 2 (.int .i64 d2) rfl⟩ hf HP.out.le)
  have hf5:=hf.put (p:=⟨C.gp,5,none⟩) (.inl rfl) (.bool true)
  have HF5:=mkA hf5
  have HP5:=mkA (HP.out.upd (s':=⟨a,d2,b,true⟩) ⟨wr,blk_put (cs:=#[.slice C.A C.L.length C.cp,.int .i64 a,.int .i64 d2,.int .i64 wr,.bool b,.bool u]) (blk_put (cs:=#[.slice C.A C.L.length C.cp,.int .i64 a,.int .i64 d,.int .i64 wr,.bool b,.bool u]) HC.out 2 (.int .i64 d2) rfl) 5 (.bool true) rfl⟩ hf5 HP.out.le)
  clear hf hf5 hr hd
  have hd:=HD.out.symm
  go_enter Tryz.func35,Tryz.ntmps35
  go_wp2_with (first
   | (go_at_call 76;(with_reducible refine (fail_walk HP5.out).mono ?_);rintro e w2 ⟨rfl,hP,hF⟩;obtain ⟨wr2,hc2⟩:=hP.cell;have HP2:=mkA hP;have HF2:=mkA (HF5.out.trans hF);have e4:w2.cell? ⟨C.gp,4,none⟩=some (.bool true):=(blk_cell hc2 4).trans rfl;clear hP hF hc2))
  go_ret
  exact ⟨rfl,HP2.out,HF2.out⟩
 ·have hr:enterF ⟨a,d,b,u⟩=⟨a,d2,b,u⟩:=by unfold enterF;simp only [← hd];rw [if_neg hq]
  rw [hr]
  have HP1:=mkA (HP.out.upd (s':=⟨a,d2,b,u⟩) ⟨wr,blk_put (cs:=#[.slice C.A C.L.length C.cp,.int .i64 a,.int .i64 d,.int .i64 wr,.bool b,.bool u]) HC.out 2 (.int .i64 d2) rfl⟩ hf HP.out.le)
  clear hf hr hd
  have hd:=HD.out.symm
  cases b
  ·go_enter Tryz.func35,Tryz.ntmps35
   go_wp2
   go_ret
   exact ⟨rfl,HP1.out,HF.out⟩
  ·go_enter Tryz.func35,Tryz.ntmps35
   go_wp2
   go_ret
   exact ⟨rfl,HP1.out,HF.out⟩
theorem some_walk {C:SC} {w:World} {s:St} (h:SP C w s) (k:Int) (hp:s.bad=false→1≤s.a):Calls Tryz.prog 43 #[ptr C.gp,.int .i64 k] w (Rv C w (.tuple #[]) (someF C.L k s)):=by
 obtain ⟨a,d,b,u⟩:=s
 obtain ⟨wr,hc⟩:=h.cell
 have HP:=mkA h
 have c4:w.cell? ⟨C.gp,4,none⟩=some (.bool b):=(blk_cell hc 4).trans rfl
 cases b
 ·have hp1:1≤a:=hp rfl
  have hle:a≤C.L.length:=h.le
  have hbig:=h.big
  by_cases hk:kd C.L ⟨a,d,false,u⟩=k
  ·have hr:someF C.L k ⟨a,d,false,u⟩=⟨a - 1,d,true,u⟩:=by unfold someF;rw [if_pos ⟨rfl,hk⟩]
   rw [hr]
   have HW:=mkA (show wrap64 ((a:Int) - 1)=((a - 1:Nat):Int) from (w64 (by omega) (by omega)).trans (by omega))
   have HLE:=mkA (show a - 1≤C.L.length by omega)
   have qk:=(bneq hk).1
   have qk2:=(bneq hk).2
   clear h hc hk hr hp hp1 hle hbig
   go_enter Tryz.func43,Tryz.ntmps43
   go_wp2_with (first
    | (go_at_call 36;(with_reducible refine (kind_walk HP.out).mono ?_);rintro e w2 ⟨rfl,hP,hF⟩;obtain ⟨wr2,hc2⟩:=hP.cell;have hf:=hF.put (p:=⟨C.gp,1,none⟩) (.inl rfl) (.int .i64 (wrap64 ((a:Int) - 1)));have HP3:=mkA (HP.out.upd (s':=⟨a - 1,d,false,u⟩) ⟨wr2,by rw [← HW.out];exact blk_put (cs:=#[.slice C.A C.L.length C.cp,.int .i64 a,.int .i64 d,.int .i64 wr2,.bool false,.bool u]) hc2 1 _ rfl⟩ hf HLE.out);have HF3:=mkA hf;have c1:w2.cell? ⟨C.gp,1,none⟩=some (.int .i64 a):=(blk_cell hc2 1).trans rfl;have f1:=blk_frozen hc2 1;clear hP hF hc2 hf)
    | (go_at_call 76;(with_reducible refine (fail_walk HP3.out).mono ?_);rintro e w4 ⟨rfl,hP,hF⟩;have HP4:=mkA hP;have HF4:=mkA (HF3.out.trans hF);clear hP hF))
   go_end0
   exact ⟨rfl,HP4.out,HF4.out⟩
  ·have hr:someF C.L k ⟨a,d,false,u⟩=⟨a,d,false,u⟩:=by unfold someF;rw [if_neg (fun h=>hk h.2)]
   rw [hr]
   have qk:=(bnne hk).1
   have qk2:=(bnne hk).2
   clear h hc hk hr hp hp1 hle hbig
   go_enter Tryz.func43,Tryz.ntmps43
   go_wp2_with (first
    | (go_at_call 36;(with_reducible refine (kind_walk HP.out).mono ?_);rintro e w2 ⟨rfl,hP,hF⟩;have HP2:=mkA hP;have HF2:=mkA (hF);clear hP hF))
   go_end0
   exact ⟨rfl,HP2.out,HF2.out⟩
 ·have hr:someF C.L k ⟨a,d,true,u⟩=⟨a,d,true,u⟩:=by unfold someF;rw [if_neg (fun h=>by cases h.1)]
  rw [hr]
  clear h hc hr hp
  go_enter Tryz.func43,Tryz.ntmps43
  go_wp2
  go_end0
  exact ⟨rfl,HP.out,Fr.refl _ _ _⟩
theorem w_yes {v:ByteArray} {l:List UInt8} (h:v=⟨l.toArray⟩):(v.toList=l)=True∧(v.toList == l)=true:=by
 have e:v.toList=l:=by rw [h];exact ByteArray.toList_mk l
 exact ⟨eq_true e,beq_iff_eq.2 e⟩
theorem w_no {v:ByteArray} {l:List UInt8} (h:v≠⟨l.toArray⟩):(v.toList=l)=False∧(v.toList == l)=false:=by
 have e:¬ v.toList=l:=fun e=>h (by rw [← e,ByteArray.toList_eq])
 exact ⟨eq_false e,beq_eq_false_iff_ne.2 e⟩
theorem word_walk {C:SC} {w:World} {s:St} (h:SP C w s):Calls Tryz.prog 96 #[ptr C.gp,.int .i64 0,.string bOn] w (Rv C w (.bool (isOn C.L s)) s):=by
 obtain ⟨wr,hc⟩:=h.cell
 have HP:=mkA h
 have hle:=h.le
 have hbig:=h.big
 by_cases hk:kd C.L s=15
 ·have hl:s.a < C.L.length:=kd_lt (by rw [hk];decide)
  obtain ⟨g,hA,t0,t1,t2,t3⟩:=h.tok hl
  have c0:w.cell? ⟨C.gp,0,none⟩=some (.slice C.A C.L.length C.cp):=(blk_cell hc 0).trans rfl
  rw [hA] at c0
  have c1:w.cell? ⟨C.gp,1,none⟩=some (.int .i64 s.a):=(blk_cell hc 1).trans rfl
  clear t0 t2 t3 hA
  have qk:=(bneq hk).2
  have v1:IntKind.i64.wrap (s.a:Int)=(s.a:Int):=IntWalk.i64_in _ (by omega)
  have v2:IntKind.i64.wrap ((s.a:Int)+0)=(s.a:Int):=(IntWalk.i64_in _ (by omega)).trans (by omega)
  have q3:((s.a:Int) < (C.L.length:Int))=True:=eq_true (by omega)
  have q5:(s.a < C.L.length)=True:=eq_true hl
  by_cases hv:vl C.L s=bOn
  ·have hr:isOn C.L s=true:=decide_eq_true ⟨hk,hv⟩
   rw [hr]
   have w1:=(w_yes hv).1
   have w2:=(w_yes hv).2
   clear h hc hk hle hbig hl hv hr
   go_enter Tryz.func96,Tryz.ntmps96
   go_upto_region 1 with (fail)
   go_quiet ((go_at_call 36;exact Calls.quiet_of (kind_q (HP.out.drewN _))))
   go_wp2
   go_ret
   exact ⟨rfl,HP.out.drewN _,(Fr.refl _ _ _).drewN _⟩
  ·have hr:isOn C.L s=false:=decide_eq_false (fun h=>hv h.2)
   rw [hr]
   have w1:=(w_no hv).1
   have w2:=(w_no hv).2
   clear h hc hk hle hbig hl hv hr
   go_enter Tryz.func96,Tryz.ntmps96
   go_upto_region 1 with (fail)
   go_quiet ((go_at_call 36;exact Calls.quiet_of (kind_q (HP.out.drewN _))))
   go_wp2
   go_ret
   exact ⟨rfl,HP.out.drewN _,(Fr.refl _ _ _).drewN _⟩
 ·have hr:isOn C.L s=false:=decide_eq_false (fun h=>hk h.1)
  rw [hr]
  have qk:=(bnne hk).2
  clear h hc hk hle hbig hr
  go_enter Tryz.func96,Tryz.ntmps96
  go_upto_region 1 with (fail)
  go_quiet ((go_at_call 36;exact Calls.quiet_of (kind_q (HP.out.drewN _))))
  go_wp2
  go_ret
  exact ⟨rfl,HP.out.drewN _,(Fr.refl _ _ _).drewN _⟩
theorem text_step {C:SC} {w:World} {s:St} (h:SP C w s):Calls Tryz.prog 97 #[ptr C.gp] w (Rv C w (.tuple #[]) (textF C.L s)):=by
 obtain ⟨a,d,b,u⟩:=s
 obtain ⟨wr,hc⟩:=h.cell
 have HP:=mkA h
 have c5:w.cell? ⟨C.gp,5,none⟩=some (.bool u):=(blk_cell hc 5).trans rfl
 have UPD:=mkA (fun (w2:World) (hP:SP C w2 ⟨a,d,b,u⟩) (hF:Fr C.gp C.gp w w2) (u2:Bool)=>(show SP C (w2.setCell ⟨C.gp,5,none⟩ (.bool u2)) ⟨a,d,b,u2⟩∧Fr C.gp C.gp w (w2.setCell ⟨C.gp,5,none⟩ (.bool u2)) from by
  obtain ⟨wr2,hc2⟩:=hP.cell
  exact ⟨hP.upd ⟨wr2,blk_put (cs:=#[.slice C.A C.L.length C.cp,.int .i64 a,.int .i64 d,.int .i64 wr2,.bool b,.bool u]) hc2 5 _ rfl⟩ ((Fr.refl _ _ _).put (p:=⟨C.gp,5,none⟩) (.inl rfl) _) hP.le,hF.put (p:=⟨C.gp,5,none⟩) (.inl rfl) _⟩))
 have f5:=blk_frozen hc 5
 have M1:=mkA True.intro
 cases u
 ·by_cases hk:kd C.L ⟨a,d,b,false⟩=18
  ·have hr:textF C.L ⟨a,d,b,false⟩=⟨a,d,b,true⟩:=by unfold textF St.unk;rw [hk];rfl
   rw [hr]
   have qk:=(bneq hk).2
   clear h hc hk hr
   go_enter Tryz.func97,Tryz.ntmps97
   go_wp2_with (first
    | (go_at_call 36;(with_reducible refine (kind_walk HP.out).mono ?_);rintro e w2 ⟨rfl,hP,hF⟩;obtain ⟨wr2,hc2⟩:=hP.cell;have HU:=mkA (UPD.out w2 hP hF);have e5:w2.cell? ⟨C.gp,5,none⟩=some (.bool false):=(blk_cell hc2 5).trans rfl;have g5:=blk_frozen hc2 5;clear hP hF hc2))
   go_end0
   exact ⟨rfl,HU.out true⟩
  ·have qk:=(bnne hk).2
   by_cases hk2:kd C.L ⟨a,d,b,false⟩=19
   all_goals
    have hr:textF C.L ⟨a,d,b,false⟩=⟨a,d,b,decide (kd C.L ⟨a,d,b,false⟩=19)⟩:=by unfold textF St.unk;rw [qk];rfl
    rw [hr]
    first
     | rw [decide_eq_true hk2];have qk2:=(bneq hk2).2
     | rw [decide_eq_false hk2];have qk2:=(bnne hk2).2
    clear h hc hk hk2 hr
    go_enter Tryz.func97,Tryz.ntmps97
    go_wp2_with (first
     | (go_at_call 36;first
      | (clear M1;(with_reducible refine (kind_walk HP.out).mono ?_);rintro e w2 ⟨rfl,hP,hF⟩;have HP2:=mkA hP;have HF2:=mkA hF;clear hP hF)
      | ((with_reducible refine (kind_walk HP2.out).mono ?_);rintro e w3 ⟨rfl,hP,hF⟩;obtain ⟨wr2,hc2⟩:=hP.cell;have HU:=mkA (UPD.out w3 hP (HF2.out.trans hF));have e5:w3.cell? ⟨C.gp,5,none⟩=some (.bool false):=(blk_cell hc2 5).trans rfl;have g5:=blk_frozen hc2 5;clear hP hF hc2)))
    go_end0
    exact ⟨rfl,HU.out _⟩
 ·have hr:textF C.L ⟨a,d,b,true⟩=⟨a,d,b,true⟩:=rfl
  rw [hr]
  clear h hc hr
  go_enter Tryz.func97,Tryz.ntmps97
  go_wp2
  go_end0
  exact ⟨rfl,UPD.out w HP.out (Fr.refl _ _ _) true⟩
theorem get_b (t:ByteArray) (j:Nat) (h:j < t.size):t.get! j=t[j]'h:=by
 show t.get! j=_
 simp [ByteArray.get!,getElem!_pos,h]
 rfl
theorem wide_n (n b0 b1 b2 b3:Nat) (h0:128≤b0) (hn:0 < n):∃ k,(Go.Lib.decodeN n b0 b1 b2 b3).2=k∧1≤k∧k≤n∧k≤4∧(1 < k→128≤b1)∧(2 < k→128≤b2)∧(3 < k→128≤b3):=by
 refine ⟨_,rfl,?_⟩
 unfold Go.Lib.decodeN
 repeat' split
 all_goals (simp only;omega)
theorem wide_at (t:ByteArray) (p:Nat) (hp:p < t.size) (hb:128≤bt t p):∃ k:Nat,(Go.Lib.decodeGo (t.extract p t.size)).2=k∧1≤k∧p+k≤t.size∧∀ j:Nat,j < k→128≤bt t ((p+j:Nat):Int):=by
 have hsz:(t.extract p t.size).size=t.size - p:=by rw [ByteArray.size_extract];omega
 have hx:∀ j,(hj:p+j < t.size)→(((t.extract p t.size).get! j).toNat:Int)=bt t ((p+j:Nat):Int):=fun j hj=>by
  rw [get_b _ j (by omega),ByteArray.getElem_extract]
  unfold bt
  rw [dif_pos (show ((p+j:Nat):Int).toNat < t.size by omega)]
  simp only [Int.toNat_natCast]
 unfold Go.Lib.decodeGo
 rw [if_neg (by omega),Go.Lib.decode_at,hsz]
 have h0:=hx 0 (by omega)
 obtain ⟨k,hk,k1,k2,k3,k4,k5,k6⟩:=wide_n (t.size - p - 0) ((t.extract p t.size).get! 0).toNat ((t.extract p t.size).get! (0+1)).toNat ((t.extract p t.size).get! (0+2)).toNat ((t.extract p t.size).get! (0+3)).toNat (by rw [Nat.add_zero] at h0;omega) (by omega)
 refine ⟨k,hk,k1,by omega,fun j hj=>?_⟩
 rw [← hx j (by omega)]
 have hj4:j=0∨j=1∨j=2∨j=3:=by omega
 rcases hj4 with rfl | rfl | rfl | rfl
 ·rw [Nat.add_zero] at h0;omega
 ·have:=k4 hj;rw [Nat.zero_add] at this;omega
 ·have:=k5 hj;rw [Nat.zero_add] at this;omega
 ·have:=k6 hj;rw [Nat.zero_add] at this;omega
end Go.Proofs.YthgcghpcikbnkaaGreatDoor.R
namespace Go.Proofs.YthgcghpcikbnkaaGreatDoor
open Go.RowKit
def decRen:Go.Shelf.Ren:=⟨fun | 32=>145 | 49=>156 | n=>n,fun | 0=>0 | 3=>3 | 4=>4 | 5=>5 | 21=>21 | 25=>167 | 30=>109 | 33=>240 | 66=>289 | 68=>291 | 69=>292 | n=>n,fun | 2=>0 | 3=>1 | n=>n⟩
theorem decLays:Go.Proofs.Lays7.n32 Tryz.prog decRen:={
 mixed:=by kernel_rfl
 f32:=Tryz.func145.trans (congrArg some (by kernel_rfl))
 f49:=Tryz.func156.trans (congrArg some (by kernel_rfl))
 t0:=by kernel_rfl
 a0:=fun w=>by kernel_rfl
 z0:=fun w=>by kernel_rfl
 v0:=fun w=>by kernel_rfl
 i0:=by kernel_rfl
 t3:=by kernel_rfl
 a3:=fun w=>by kernel_rfl
 z3:=fun w=>by kernel_rfl
 v3:=fun w=>by kernel_rfl
 i3:=by kernel_rfl
 t4:=by kernel_rfl
 a4:=fun w=>by kernel_rfl
 z4:=fun w=>by kernel_rfl
 v4:=fun w=>by kernel_rfl
 i4:=by kernel_rfl
 t5:=by kernel_rfl
 a5:=fun w=>by kernel_rfl
 z5:=fun w=>by kernel_rfl
 v5:=fun w=>by kernel_rfl
 i5:=by kernel_rfl
 t21:=by kernel_rfl
 a21:=fun w=>by kernel_rfl
 z21:=fun w=>by kernel_rfl
 v21:=fun w=>by kernel_rfl
 i21:=by kernel_rfl
 t25:=by kernel_rfl
 a25:=fun w=>by kernel_rfl
 z25:=fun w=>by kernel_rfl
 v25:=fun w=>by kernel_rfl
 i25:=by kernel_rfl
 t30:=by kernel_rfl
 a30:=fun w=>by kernel_rfl
 z30:=fun w=>by kernel_rfl
 v30:=fun w=>by kernel_rfl
 i30:=by kernel_rfl
 t33:=by kernel_rfl
 a33:=fun w=>by kernel_rfl
 z33:=fun w=>by kernel_rfl
 v33:=fun w=>by kernel_rfl
 i33:=by kernel_rfl
 t66:=by kernel_rfl
 a66:=fun w=>by kernel_rfl
 z66:=fun w=>by kernel_rfl
 t68:=by kernel_rfl
 a68:=fun w=>by kernel_rfl
 z68:=fun w=>by kernel_rfl
 v68:=fun w=>by kernel_rfl
 i68:=by kernel_rfl
 t69:=by kernel_rfl
 a69:=fun w=>by kernel_rfl
 z69:=fun w=>by kernel_rfl
 v69:=fun w=>by kernel_rfl
 i69:=by kernel_rfl
 g2:=by kernel_rfl
 g3:=by kernel_rfl }
def Glob (w:World):Prop:=Go.Lib.Utf8Tabs 0 1 w
theorem decodeRune (s:ByteArray) (b off cap:Nat) (w:World) (hT:Glob w) (hp:∀ j,j < s.size→w.cell? ⟨b,off+j,none⟩=some (.int .u8 (s.get! j).toNat)) :
 Calls Tryz.prog 145 #[.slice (some ⟨b,off,none⟩) s.size cap] w fun e w'=>e=.returned (.tuple #[.int .i32 (Go.Lib.decodeGo s).1,.int .i64 (Go.Lib.decodeGo s).2])∧Below w.heap.size w w' :=
 Go.Proofs.Any7.utf8_DecodeRune decLays s b off cap w hT hp
end Go.Proofs.YthgcghpcikbnkaaGreatDoor
namespace Go.Proofs.YthgcghpcikbnkaaGreatDoor.R
open Go.RowKit Go.Proofs.YthgcghpcikbnkaaGreatDoorW.PrintWords Go.Proofs.YthgcghpcikbnkaaGreatDoorW.PrintLast Go.Proofs.YthgcghpcikbnkaaGreatDoorW.PrintMore
set_option linter.unusedVariables false
set_option linter.unusedSimpArgs false
def rn (s:ByteArray) (i:Nat):Int × Int:=if s.size≤i then (-1,65533) else if bt s i < 128 then (bt s i,1) else (Int.ofNat (Go.Lib.decodeGo (s.extract i s.size)).1,Int.ofNat (Go.Lib.decodeGo (s.extract i s.size)).2)
set_option maxHeartbeats 4000000 in
set_option maxRecDepth 100000 in
theorem runeAt_walk (s:ByteArray) (b cap:Nat) (w:World) (hT:Glob w) (i:Nat) (hi:i≤s.size) (hs:s.size≤2147483647) (hc:s.size≤cap) (hp:∀ j:Nat,j < s.size→w.cell? ⟨b,j,none⟩=some (.int .u8 (bt s j))) :
 Calls Tryz.prog 129 #[.slice (some ⟨b,0,none⟩) s.size cap,.int .i64 i] w fun e w'=>e=.returned (.tuple #[.int .i32 (rn s i).1,.int .i64 (rn s i).2])∧Below w.heap.size w w'∧((i < s.size→bt s i < 128)→w'=w):=by
 have HT:=mkA hT
 have HP:=mkA hp
 clear hT hp
 by_cases h1:s.size≤i
 ·have e1:decide ((s.size:Int)≤(i:Int))=true:=decide_eq_true (by omega)
  have er:rn s i=(-1,65533):=by unfold rn;rw [if_pos h1]
  rw [er]
  clear hc hs hi er
  go_enter Tryz.func129,Tryz.ntmps129
  go_wp2
  repeat (go_quiet (fail);try go_wp2)
  go_ret2
  exact ⟨rfl,by repeat (first | exact Below.refl _ _ | apply below_alloc | apply pw_below_drewN | apply below_drew1),fun _=>rfl⟩
 ·have e1:decide ((s.size:Int)≤(i:Int))=false:=decide_eq_false (by omega)
  have hcell:=HP.out i (by omega)
  have p1:(0≤(i:Int))=True:=eq_true (by omega)
  have q1:((i:Int) < (s.size:Int))=True:=eq_true (by omega)
  have hb:=bt_lo s i
  have hw:wrap32 (bt s (i:Int))=bt s (i:Int):=by unfold wrap32;omega
  by_cases h2:bt s i < 128
  ·have e2:decide (bt s (i:Int) < 128)=true:=decide_eq_true h2
   have er:rn s i=(bt s i,1):=by unfold rn;rw [if_neg h1,if_pos h2]
   rw [er]
   clear hc hs hi er hb
   go_enter Tryz.func129,Tryz.ntmps129
   go_wp2
   repeat (go_quiet (fail);try go_wp2)
   go_ret2
   exact ⟨by simp [hw],by repeat (first | exact Below.refl _ _ | apply below_alloc | apply pw_below_drewN | apply below_drew1),fun _=>rfl⟩
  ·have e2:decide (bt s (i:Int) < 128)=false:=decide_eq_false h2
   have er:rn s i=(Int.ofNat (Go.Lib.decodeGo (s.extract i s.size)).1,Int.ofNat (Go.Lib.decodeGo (s.extract i s.size)).2):=by unfold rn;rw [if_neg h1,if_neg h2]
   rw [er]
   have hsz:(s.extract i s.size).size=s.size - i:=by rw [ByteArray.size_extract];omega
   have cD:Calls Tryz.prog 145 #[.slice (some ⟨b,i,none⟩) (s.size - i) (cap - i)] w fun e w'=>e=.returned (.tuple #[.int .i32 (Go.Lib.decodeGo (s.extract i s.size)).1,.int .i64 (Go.Lib.decodeGo (s.extract i s.size)).2])∧Below w.heap.size w w':=by
    rw [← hsz]
    refine decodeRune (s.extract i s.size) b i (cap - i) w HT.out (fun j hj=>?_)
    rw [HP.out (i+j) (by omega)]
    congr 2
    unfold bt
    rw [dif_pos (show ((i+j:Nat):Int).toNat < s.size by omega),get_b (s.extract i s.size) j hj]
    simp only [Int.toNat_natCast,ByteArray.getElem_extract]
   have HH:=mkA (And.intro h1 h2)
   clear er hb hsz
   go_enter Tryz.func129,Tryz.ntmps129
   go_wp2_with (first | (go_at_call 145;refine cD.mono ?_;rintro e w' ⟨rfl,hB⟩))
   repeat (go_quiet (fail);try go_wp2)
   go_ret2
   exact ⟨rfl,hB,fun h=>absurd (h (by have:=HH.out.1;omega)) (by have:=HH.out.2;omega)⟩
structure Src (w:World) (g b cap:Nat) (s:ByteArray):Prop where
 body:w.cell? ⟨g,0,none⟩=some (.slice (some ⟨b,0,none⟩) s.size cap)
 bytes:∀ j:Nat,j < s.size→w.cell? ⟨b,j,none⟩=some (.int .u8 (bt s j))
 cap:s.size≤cap
 small:s.size≤2000
 glob:Glob w
theorem tabs_of {g3 g4:Nat} {w w':World} (h:Go.Lib.Utf8Tabs g3 g4 w) (hk:∀ a:Addr,a.block < w.heap.size→w'.cell? a=w.cell? a):Go.Lib.Utf8Tabs g3 g4 w':=by
 refine ⟨fun c hc=>?_,fun i hi=>⟨?_,?_⟩⟩
 ·rw [hk _ (World.block_lt_of_cell? w _ (h.1 c hc))];exact h.1 c hc
 ·rw [hk _ (World.block_lt_of_cell? w _ (h.2 i hi).1)];exact (h.2 i hi).1
 ·rw [hk _ (World.block_lt_of_cell? w _ (h.2 i hi).2)];exact (h.2 i hi).2
theorem Glob.below {w w':World} (h:Glob w) (hb:Below w.heap.size w w'):Glob w':=tabs_of h (fun a ha=>hb.cell ha)
theorem Src.below {w w':World} {g b cap:Nat} {s:ByteArray} (h:Src w g b cap s) (hb:Below w.heap.size w w'):Src w' g b cap s:=by
 refine ⟨?_,fun j hj=>?_,h.cap,h.small,Glob.below h.glob hb⟩
 ·rw [hb.cell (World.block_lt_of_cell? w _ h.body)];exact h.body
 ·rw [hb.cell (World.block_lt_of_cell? w _ (h.bytes j hj))];exact h.bytes j hj
theorem runeAt_src {w:World} {g b cap:Nat} {s:ByteArray} (h:Src w g b cap s) (i:Nat) (hi:i≤s.size) :
 Calls Tryz.prog 129 #[.slice (some ⟨b,0,none⟩) s.size cap,.int .i64 i] w fun e w'=>e=.returned (.tuple #[.int .i32 (rn s i).1,.int .i64 (rn s i).2])∧Below w.heap.size w w' :=
 (runeAt_walk s b cap w h.glob i hi (by have:=h.small;omega) h.cap h.bytes).mono fun e w' h=>⟨h.1,h.2.1⟩
set_option maxRecDepth 100000 in
theorem makeToken_walk (k a z:Int) (v:ByteArray) (w:World):Calls Tryz.prog 128 #[.int .i64 k,.int .i64 a,.int .i64 z,.string v] w fun e w'=>e=.returned (.agg #[.int .i64 k,.int .i64 a,.int .i64 z,.string v])∧Below w.heap.size w w':=by
 go_enter Tryz.func128,Tryz.ntmps128
 go_wp2_with (first | ((with_reducible refine gate_dst (N:=8) rfl ?_);refine bxz ?hr ?_;(case hr=>first | (go_simp;done) | (go_simp;rfl));intro gb hg w2 hbox hb;have HB:=mkA hb;have GE:=mkA (Nat.le_of_eq hg.symm);have BK:=mkA hbox;clear hb hbox hg;obtain ⟨hz0,hz1,hz2,hz3,hf0,hf1,hf2,hf3⟩:=tkz BK.out))
 refine bodyPost_ret (results_cell_row rfl _ _ gb 63 #[.int .i64 k,.int .i64 a,.int .i64 z,.string v] (0,0) _ rfl (by exact tkp BK.out) Tryz.underlying63 rfl (by kernel_rfl)) rfl ?_
 exact ⟨rfl,below_set (below_set (below_set (below_set HB.out GE.out) GE.out) GE.out) GE.out⟩
set_option maxHeartbeats 4000000 in
set_option maxRecDepth 100000 in
theorem newLoc_walk {w:World} {g:Nat} {a z:Int} {p:Option Addr} (h:w.heap[g]?=some (.cells #[.int .i64 a,.int .i64 z,.pointer p] 120 (0,0))) :
 Calls Tryz.prog 88 #[.pointer (some ⟨g,0,none⟩)] w fun e w'=>(∃ g':Nat,e=.returned (.pointer (some ⟨g',0,none⟩))∧w.heap.size≤g'∧w'.heap[g']?=some (.cells #[.int .i64 a,.int .i64 z,.pointer p] 120 (0,0)))∧Below w.heap.size w w':=by
 have c0:w.cell? ⟨g,0,none⟩=some (.int .i64 a):=(blk_cell h 0).trans rfl
 have c1:w.cell? ⟨g,1,none⟩=some (.int .i64 z):=(blk_cell h 1).trans rfl
 have c2:w.cell? ⟨g,2,none⟩=some (.pointer p):=(blk_cell h 2).trans rfl
 clear h
 go_enter Tryz.func88,Tryz.ntmps88
 go_wp2
 go_region_held3 (fun u=>u.cell? ⟨g,0,none⟩=some (.int .i64 a)∧u.cell? ⟨g,1,none⟩=some (.int .i64 z)∧u.cell? ⟨g,2,none⟩=some (.pointer p)) (go_keep) (fail)
 go_wp2
 go_ret
 exact ⟨⟨_,rfl,Nat.le_refl _,heap_alloc_new w _⟩,by repeat (first | exact Below.refl _ _ | apply below_drew1 | apply below_alloc)⟩
set_option maxRecDepth 100000 in
theorem newSource_walk {w:World} {g:Nat} {v:Value} (h:w.heap[g]?=some (.cells #[v,.string ⟨#[]⟩] 111 (0,0))) :
 Calls Tryz.prog 47 #[.pointer (some ⟨g,0,none⟩)] w fun e w'=>e=.returned (.pointer (some ⟨g,0,none⟩))∧w'=w.setCell ⟨g,1,none⟩ (.string ⟨#[71,114,97,112,104,81,76]⟩):=by
 have c1:w.cell? ⟨g,1,none⟩=some (.string ⟨#[]⟩):=(blk_cell h 1).trans rfl
 have f1:=blk_frozen h 1
 clear h
 go_enter Tryz.func47,Tryz.ntmps47
 go_wp2
 go_ret
 exact ⟨rfl,rfl⟩
set_option maxHeartbeats 4000000 in
set_option maxRecDepth 100000 in
theorem loc_walk' {w:World} {g:Nat} {f:Value} {p:Option Addr} {pe k a z:Int} {v:ByteArray} (st:Int) (h:w.heap[g]?=some (.cells #[f,.pointer p,.bool false,.bool false,.int .i64 pe,.int .i64 k,.int .i64 a,.int .i64 z,.string v] 70 (0,0))) :
 Calls Tryz.prog 59 #[.pointer (some ⟨g,0,none⟩),.int .i64 st] w fun e w'=>(∃ g':Nat,e=.returned (.pointer (some ⟨g',0,none⟩))∧w.heap.size≤g'∧w'.heap[g']?=some (.cells #[.int .i64 st,.int .i64 pe,.pointer p] 120 (0,0)))∧Below w.heap.size w w':=by
 have c1:w.cell? ⟨g,1,none⟩=some (.pointer p):=(blk_cell h 1).trans rfl
 have c2:w.cell? ⟨g,2,none⟩=some (.bool false):=(blk_cell h 2).trans rfl
 have c3:w.cell? ⟨g,3,none⟩=some (.bool false):=(blk_cell h 3).trans rfl
 have c4:w.cell? ⟨g,4,none⟩=some (.int .i64 pe):=(blk_cell h 4).trans rfl
 clear h
 go_enter Tryz.func59,Tryz.ntmps59
 go_wp2
 have K0:∀ u,Below w.heap.size w u→(u.cell? ⟨g,1,none⟩=some (.pointer p)∧u.cell? ⟨g,4,none⟩=some (.int .i64 pe))∧Below w.heap.size w u:=fun u hu=>⟨⟨(hu.cell (World.block_lt_of_cell? w _ c1)).trans c1,(hu.cell (World.block_lt_of_cell? w _ c4)).trans c4⟩,hu⟩
 go_region_held3 (fun u=>(u.cell? ⟨g,1,none⟩=some (.pointer p)∧u.cell? ⟨g,4,none⟩=some (.int .i64 pe))∧Below w.heap.size w u) (first | exact K0 _ (below_drew1 (Below.refl _ _)) | exact K0 _ (below_drew1 (below_alloc (Below.refl _ _) _)) | exact hS9 | fail) (first | (go_at_call 88;(first | refine (newLoc_walk (w:=World.drew (World.alloc _ _)) (heap_alloc_new _ _)).mono ?_ | refine (newLoc_walk (heap_alloc_new _ _)).mono ?_);rintro e w9 ⟨⟨g9,rfl,hl9,hg9⟩,hB9⟩;have hl8:=mkA (show w.heap.size≤g9 from Nat.le_trans (by first | exact (below_drew1 (below_alloc (Below.refl w.heap.size w) _)).size | exact (below_alloc (below_drew1 (Below.refl w.heap.size w)) _).size) hl9);clear hl9;(first | have hW9:=below_step (below_drew1 (below_alloc (Below.refl w.heap.size w) _)) hB9 | have hW9:=below_step (below_alloc (below_drew1 (Below.refl w.heap.size w)) _) hB9);have hS9:=K0 _ hW9) | fail)
 go_wp2
 go_ret
 exact ⟨⟨g9,rfl,hl8.out,hg9⟩,hW9⟩
end Go.Proofs.YthgcghpcikbnkaaGreatDoor.R
