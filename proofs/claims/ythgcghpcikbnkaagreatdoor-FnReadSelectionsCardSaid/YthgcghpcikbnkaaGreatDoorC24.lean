/- A part of the proof of the theorem of this claim: PblockStringValuex3. No condition of its own. -/
import Derived.Test.YthgcghpcikbnkaaGreatDoorC23
set_option maxHeartbeats 16000000
set_option maxRecDepth 100000
namespace Go.Proofs.YthgcghpcikbnkaaGreatDoor.PblockStringValue
open Go.RowKit Go.Proofs.YthgcghpcikbnkaaGreatDoorW.PrintWords Go.Proofs.YthgcghpcikbnkaaGreatDoorW.PrintLast Go.Proofs.YthgcghpcikbnkaaGreatDoorW.PrintMore
attribute [local go_sem] max2_int min2_int max_two min_two max_three min_three max_four min_four
set_option linter.unusedVariables false
set_option linter.unusedSimpArgs false
def bcm (c:Int):List ByteArray→Int
 | []=>c
 | l :: t=>if (lead l.data.toList:Int) < (l.size:Int)∧(c=-1∨(lead l.data.toList:Int) < c) then bcm (lead l.data.toList:Int) t else bcm c t
def bcut (c:Int) (l:ByteArray):ByteArray:=if c > (l.size:Int) then l else l.extract c.toNat l.size
def bblank (l:ByteArray):Bool:=(lead l.data.toList:Int) == (l.size:Int)
def btail (L:List ByteArray):List ByteArray:=(L.reverse.dropWhile bblank).reverse
def bsl (L:List ByteArray):List ByteArray :=
 btail ((if bcm (-1) (L.drop 1) > 0 then L.map (bcut (bcm (-1) (L.drop 1))) else L).dropWhile bblank)
theorem lead_size (l:ByteArray):lead l.data.toList≤l.size:=by simpa using lead_le l.data.toList
theorem bcm_pos {c:Int} {l:ByteArray} {t:List ByteArray} (h:(lead l.data.toList:Int) < (l.size:Int)∧(c=-1∨(lead l.data.toList:Int) < c)):bcm c (l :: t)=bcm (lead l.data.toList:Int) t:=if_pos h
theorem bcm_neg {c:Int} {l:ByteArray} {t:List ByteArray} (h:¬ ((lead l.data.toList:Int) < (l.size:Int)∧(c=-1∨(lead l.data.toList:Int) < c))):bcm c (l :: t)=bcm c t:=if_neg h
theorem bcm_zero (t:List ByteArray):bcm 0 t=0:=by
 induction t with
 | nil=>rfl
 | cons l t ih=>unfold bcm;rw [if_neg (by omega)];exact ih
theorem blank_call (l:ByteArray) (w:World) (h:l.size≤9223372036854775807):Calls Tryz.prog 161 #[.string l] w fun e w'=>e=.returned (.bool (bblank l))∧Below w.heap.size w w' :=
 lexer_lineIsBlank.calls l (bblank l) w (by unfold lexer_lineIsBlank.f lexer_leadingWhitespaceLen.f;rw [if_pos h];rfl)
theorem lead_call (l:ByteArray) (w:World) (h:l.size≤9223372036854775807):Calls Tryz.prog 160 #[.string l] w fun e w'=>e=.returned (.int .i64 (lead l.data.toList))∧Below w.heap.size w w' :=
 lexer_lead_walk l w h
theorem btail_snoc_blank (L:List ByteArray) (x:ByteArray) (h:bblank x=true):btail (L++[x])=btail L:=by
 unfold btail;rw [List.reverse_append];simp [h]
theorem btail_snoc_not (L:List ByteArray) (x:ByteArray) (h:bblank x=false):btail (L++[x])=L++[x]:=by
 unfold btail;rw [List.reverse_append];simp [h]
theorem strs_at {w:World} {base c:Nat} {ok:Nat→Prop} {A:Option Addr} {l:List ByteArray} (h:Kd.R Kd.string 9 w base ok (.slice A l.length c) l) (hp:0 < l.length) :
 ∃ g,A=some ⟨g,0,none⟩∧base≤g:=by
 obtain ⟨g,cap,e,hb,_⟩:=(Kd.own_of_R h).form hp
 refine ⟨g,?_,hb⟩
 injection e
theorem str_cell {w:World} {base n c g:Nat} {ok:Nat→Prop} {l:List ByteArray} (h:Kd.R Kd.string 9 w base ok (.slice (some ⟨g,0,none⟩) n c) l) (j:Nat) (hj:j < l.length) :
 w.cell? ⟨g,j,none⟩=some (.string l[j])∧w.frozen? ⟨g,j,none⟩=false:=by
 obtain ⟨rfl,_⟩:=Kd.R_reads' h
 refine ⟨?_,World.ownsRow.frozenAt (Kd.own_of_R h) j⟩
 rw [World.ownsRow.cellAt (Kd.own_of_R h) j (by omega)]
 simp [encs,hj]
def bmix (c:Int) (r:List ByteArray) (j:Nat):List ByteArray:=(r.take j).map (bcut c)++r.drop j
theorem bmix_len (c:Int) (r:List ByteArray) (j:Nat) (h:j≤r.length):(bmix c r j).length=r.length:=by simp [bmix];omega
theorem bmix_get (c:Int) (r:List ByteArray) (j:Nat) (h:j < r.length) (h':j < (bmix c r j).length):(bmix c r j)[j]=r[j]:=by
 have e:(bmix c r j)[j]?=r[j]?:=by
  unfold bmix
  have hl:((r.take j).map (bcut c)).length=j:=by simp;omega
  rw [List.getElem?_append_right (by omega),hl,Nat.sub_self,List.getElem?_drop];rfl
 rw [List.getElem?_eq_getElem h',List.getElem?_eq_getElem h] at e
 exact Option.some.inj e
theorem bmix_set (c:Int) (r:List ByteArray) (j:Nat) (h:j < r.length):(bmix c r j).set j (bcut c r[j])=bmix c r (j+1):=by
 have hl:((r.take j).map (bcut c)).length=j:=by simp;omega
 have e:bmix c r (j+1)=(r.take j).map (bcut c)++bcut c r[j] :: r.drop (j+1):=by
  unfold bmix
  rw [List.take_succ_eq_append_getElem h,List.map_append,List.append_assoc]
  rfl
 rw [e]
 unfold bmix
 rw [List.drop_eq_getElem_cons h,List.set_append_right _ _ (by omega),hl,Nat.sub_self]
 rfl
theorem bmix_skip (c:Int) (r:List ByteArray) (j:Nat) (h:j < r.length) (hb:bcut c r[j]=r[j]):bmix c r j=bmix c r (j+1):=by
 rw [← bmix_set c r j h]
 apply List.ext_getElem?
 intro i
 rw [List.getElem?_set]
 have hl:=bmix_len c r j (by omega)
 by_cases e:j=i
 ·subst e
  rw [if_pos rfl,if_pos (by omega),List.getElem?_eq_getElem (by omega),bmix_get c r j h,hb]
 ·rw [if_neg e]
theorem run_append_zero (w:World) (A B:Option Addr) (m cp c':Nat) (h:m≤cp):(Builtin.append_ #[233,233] 233 #[.slice A m cp,.slice B 0 c']).run Tryz.prog w=.ok (.slice A m cp) w:=by
 obtain ⟨i,hi,_,hs,_⟩:=info_parts info9
 cases A <;> cases B <;> simp [Builtin.append_,run_underlying Tryz.underlying233,sizeOf,typeInfo,hi,Builtin.lenOf,Builtin.firstCells,loadCells,storeCells,h,go_sem]
def lenOf:Value→Nat | .slice _ n _=>n | _=>0
theorem bmix_all (c:Int) (r:List ByteArray):bmix c r r.length=r.map (bcut c):=by simp [bmix]
set_option maxHeartbeats 4000000 in
set_option maxRecDepth 100000 in
theorem bsv_walk (k:Nat) (s:ByteArray) (r:List ByteArray) (w:World) (h:lexer_zzLines.f k s=some r) (hp:0 < r.length) (hl:r.length≤4000) (hs:∀ x ∈ r,x.size≤4000) (q:ByteArray) (hj:strings_Join.f (bsl r) ⟨#[10]⟩=some q) :
 Calls Tryz.prog 148 #[.string s] w fun e w'=>e=.returned (.string q)∧Below w.heap.size w w':=by
 have H:=Aside0.mk h
 have HS:=Aside0.mk hs
 have HJ:=Aside0.mk hj
 clear h hs hj
 go_enter Tryz.func148,Tryz.ntmps148
 go_upto_block 0 with (go_at_call 159;refine (lexer_zzLines.calls k s r _ H.out).mono ?_;rintro e w1 ⟨v0,rfl,hR,hb⟩;obtain ⟨A0,c0,rfl,hc0,hC⟩:=Kd.R_reads hR)
 have HR:=Aside0.mk hR
 have HB:=Aside0.mk hb
 obtain ⟨g,rfl,hg⟩:=strs_at hR hp
 have HC:=Aside0.mk (fun j hj=>(str_cell hR j hj).1)
 clear hR hb hC
 go_cut [4] (fun v4 wx=>v4=.int .i64 (bcm (-1) (r.drop 1))∧Aside0 (Below w1.heap.size w1 wx))
 case first =>
  go_wp2_with fail
  go_loopw [4,5] (fun v4 v5 wr=>∃ (j:Nat) (c:Int),1≤j∧j≤r.length∧-1≤c∧c≤4000∧v5=.int .i64 j∧v4=.int .i64 c∧Aside0 (bcm (-1) (r.drop 1)=bcm c (r.drop j))∧Aside0 (Below w1.heap.size w1 wr)) (fun _ v5 _=>r.length - (intOf v5).toNat)
  case atStart=>exact ⟨1,-1,by omega,by omega,by omega,by omega,rfl,rfl,⟨rfl⟩,⟨Below.refl _ _⟩⟩
  case round =>
   obtain ⟨j,c,hj1,hj,hc1,hc2,rfl,rfl,HE,HB1⟩:=hrel
   by_cases hlt:j < r.length
   ·have hx0:=HC.out j hlt
    replace hx0:=(HB1.out.cell (World.block_lt_of_cell? w1 _ hx0)).trans hx0
    have HD:=Aside0.mk (List.drop_eq_getElem_cons hlt)
    have hsz:=HS.out r[j] (List.getElem_mem hlt)
    obtain ⟨x,hx⟩:∃ x,x=r[j]:=⟨_,rfl⟩
    rw [← hx] at hx0 hsz HD
    clear hx
    have hm0:=lead_size x
    obtain ⟨m,hm⟩:∃ m,m=lead x.data.toList:=⟨_,rfl⟩
    rw [← hm] at hm0
    have HM:=Aside0.mk hm
    clear hm
    by_cases a1:m < x.size
    ·have b1:decide ((m:Int) < (x.size:Int))=true:=decide_eq_true (by omega)
     have b1':decide (m < x.size)=true:=decide_eq_true a1
     by_cases a2:c=-1∨(m:Int) < c
     ·have HA:=Aside0.mk (show bcm (-1) (r.drop 1)=bcm (m:Int) (r.drop (j+1)) by
       rw [HE.out,HD.out,bcm_pos (by rw [← HM.out];exact ⟨by omega,a2⟩),← HM.out])
      by_cases a3:c=-1
      ·subst a3
       clear a2
       by_cases hz:m=0
       ·have b4:((m:Int) == 0)=true:=by simp [hz]
        have b4':(m == 0)=true:=by simp [hz]
        have HZ:=Aside0.mk hz
        clear hz
        go_wp2_with (go_at_call 160;refine (lead_call x _ (by omega)).mono ?_;rintro e w2 ⟨rfl,hb2⟩;rw [← HM.out])
        go_meet
        exact ⟨by rw [HA.out,HZ.out];exact congrArg _ (bcm_zero _).symm,⟨HB1.out.trans (hb2.mono HB1.out.size)⟩⟩
       ·have b4:((m:Int) == 0)=false:=beq_eq_false_iff_ne.2 (by omega)
        have b4':(m == 0)=false:=beq_eq_false_iff_ne.2 hz
        go_wp2_with (go_at_call 160;refine (lead_call x _ (by omega)).mono ?_;rintro e w2 ⟨rfl,hb2⟩;rw [← HM.out])
        go_roundw
        case rel=>exact ⟨j+1,m,by omega,by omega,by omega,by omega,by go_num,rfl,HA,⟨HB1.out.trans (hb2.mono HB1.out.size)⟩⟩
        case measure=>simp [intOf];omega
      ·have b2:(c == -1)=false:=beq_eq_false_iff_ne.2 a3
       have b3:decide ((m:Int) < c)=true:=decide_eq_true (by omega)
       clear a2 a3
       by_cases hz:m=0
       ·have b4:((m:Int) == 0)=true:=by simp [hz]
        have b4':(m == 0)=true:=by simp [hz]
        have HZ:=Aside0.mk hz
        clear hz
        go_wp2_with (go_at_call 160;refine (lead_call x _ (by omega)).mono ?_;rintro e w2 ⟨rfl,hb2⟩;rw [← HM.out])
        go_meet
        exact ⟨by rw [HA.out,HZ.out];exact congrArg _ (bcm_zero _).symm,⟨HB1.out.trans (hb2.mono HB1.out.size)⟩⟩
       ·have b4:((m:Int) == 0)=false:=beq_eq_false_iff_ne.2 (by omega)
        have b4':(m == 0)=false:=beq_eq_false_iff_ne.2 hz
        go_wp2_with (go_at_call 160;refine (lead_call x _ (by omega)).mono ?_;rintro e w2 ⟨rfl,hb2⟩;rw [← HM.out])
        go_roundw
        case rel=>exact ⟨j+1,m,by omega,by omega,by omega,by omega,by go_num,rfl,HA,⟨HB1.out.trans (hb2.mono HB1.out.size)⟩⟩
        case measure=>simp [intOf];omega
     ·have HA:=Aside0.mk (show bcm (-1) (r.drop 1)=bcm c (r.drop (j+1)) by
       rw [HE.out,HD.out,bcm_neg (by rw [← HM.out];exact fun h=>a2 h.2)])
      have b2:(c == -1)=false:=beq_eq_false_iff_ne.2 (fun h=>a2 (.inl h))
      have b3:decide ((m:Int) < c)=false:=decide_eq_false (fun h=>a2 (.inr h))
      clear a2
      go_wp2_with (go_at_call 160;refine (lead_call x _ (by omega)).mono ?_;rintro e w2 ⟨rfl,hb2⟩;rw [← HM.out])
      go_roundw
      case rel=>exact ⟨j+1,c,by omega,by omega,by omega,by omega,by go_num,rfl,HA,⟨HB1.out.trans (hb2.mono HB1.out.size)⟩⟩
      case measure=>simp [intOf];omega
    ·have b1:decide ((m:Int) < (x.size:Int))=false:=decide_eq_false (by omega)
     have b1':decide (m < x.size)=false:=decide_eq_false a1
     have HA:=Aside0.mk (show bcm (-1) (r.drop 1)=bcm c (r.drop (j+1)) by
      rw [HE.out,HD.out,bcm_neg (by rw [← HM.out];exact fun h=>by omega)])
     go_wp2_with (go_at_call 160;refine (lead_call x _ (by omega)).mono ?_;rintro e w2 ⟨rfl,hb2⟩;rw [← HM.out])
     go_roundw
     case rel=>exact ⟨j+1,c,by omega,by omega,by omega,by omega,by go_num,rfl,HA,⟨HB1.out.trans (hb2.mono HB1.out.size)⟩⟩
     case measure=>simp [intOf];omega
   ·have HD:=Aside0.mk (show r.drop j=[] from List.drop_eq_nil_of_le (by omega))
    go_wp2_with fail
    go_meet
    exact ⟨by rw [HE.out,HD.out];rfl,HB1⟩
 case rest =>
  obtain ⟨rfl,HB1⟩:=hcut
  obtain ⟨c,hc⟩:∃ c,c=bcm (-1) (r.drop 1):=⟨_,rfl⟩
  rw [← hc]
  have HCC:=Aside0.mk hc
  have hg1:w1.heap.size≤wc.heap.size:=HB1.out.size
  have HR1:=Aside0.mk (Kd.R_below HR.out HB1.out)
  have HBB:=Aside0.mk (HB.out.trans (HB1.out.mono HB.out.size))
  clear hc HR HB HB1 HC
  go_upto_if 42 with fail
  go_cut [] (fun wx=>Aside0 (Kd.R Kd.string 9 wx w.heap.size (fun _=>True) (.slice (some ⟨g,0,none⟩) r.length c0) (if c > 0 then r.map (bcut c) else r))∧Aside0 (Below w.heap.size w wx))
  case first =>
   by_cases hc:c > 0
   ·have b1:decide (0 < c)=true:=decide_eq_true hc
    have HP:=Aside0.mk hc
    go_wp2_with fail
    go_loopw [45] (fun v45 wr=>∃ j:Nat,j≤r.length∧v45=.int .i64 j∧Aside0 (Kd.R Kd.string 9 wr w.heap.size (fun _=>True) (.slice (some ⟨g,0,none⟩) r.length c0) (bmix c r j))∧Aside0 (Below w.heap.size w wr)) (fun v45 _=>r.length - (intOf v45).toNat)
    case atStart=>exact ⟨0,Nat.zero_le _,rfl,HR1,HBB⟩
    case round =>
     clear HR1 HBB
     obtain ⟨j,hj,rfl,HR2,HB2⟩:=hrel
     by_cases hlt:j < r.length
     ·have hml:=bmix_len c r j hj
      obtain ⟨hx0,hf0⟩:=str_cell HR2.out j (by omega)
      rw [bmix_get c r j hlt] at hx0
      have hsz:=HS.out r[j] (List.getElem_mem hlt)
      have HX0:=Aside0.mk (bmix_skip c r j hlt)
      have HX1:=Aside0.mk (bmix_set c r j hlt)
      obtain ⟨x,hx⟩:∃ x,x=r[j]:=⟨_,rfl⟩
      rw [← hx] at hx0 hsz HX0 HX1
      clear hx hml
      by_cases a1:(x.size:Int) < c
      ·have b2:decide ((x.size:Int) < c)=true:=decide_eq_true a1
       have HA:=Aside0.mk a1
       clear a1
       go_wp2_with fail
       go_roundw
       case rel=>exact ⟨j+1,by omega,by go_num,⟨by rw [← HX0.out (by unfold bcut;rw [if_pos HA.out])];exact HR2.out⟩,HB2⟩
       case measure=>simp [intOf];omega
      ·have b2:decide ((x.size:Int) < c)=false:=decide_eq_false a1
       have a2:c≤(x.size:Int):=by omega
       have a3:0≤c:=by have:=HP.out;omega
       have HA:=Aside0.mk a1
       clear a1
       go_wp2_with fail
       go_roundw
       case rel =>
        refine ⟨j+1,by omega,by go_num,⟨?_⟩,⟨?_⟩⟩
        ·have e:bcut c x=x.extract c.toNat x.size:=by unfold bcut;rw [if_neg HA.out]
         rw [← HX1.out,e]
         exact Kd.R_putn HR2.out (j:Int) _
        ·exact Below.setCell HB2.out hg _
       case measure=>simp [intOf];omega
     ·obtain rfl:j=r.length:=by omega
      rw [bmix_all] at HR2
      go_wp2_with fail
      go_meet
      exact ⟨by rw [if_pos HP.out];exact HR2,HB2⟩
   ·have b1:decide (0 < c)=false:=decide_eq_false hc
    have HP:=Aside0.mk hc
    go_wp2_with fail
    go_meet
    exact ⟨by rw [if_neg (by have:=HP.out;omega)];exact HR1,HBB⟩
  case rest =>
   clear HR1 HBB
   obtain ⟨HR2,HB2⟩:=hcut
   obtain ⟨L1,hL1⟩:∃ L1,L1=(if c > 0 then r.map (bcut c) else r):=⟨_,rfl⟩
   rw [← hL1] at HR2
   have hll:L1.length=r.length:=by rw [hL1];split <;> simp
   have HJ1:=Aside0.mk (show strings_Join.f (btail (L1.dropWhile bblank)) ⟨#[10]⟩=some q by
    have:=HJ.out;unfold bsl at this;rw [← HCC.out] at this;rw [hL1];exact this)
   have HS1:=Aside0.mk (show ∀ x ∈ L1,x.size≤4000 by
    rw [hL1]
    split
    ·intro x hx
     obtain ⟨y,hy,rfl⟩:=List.mem_map.1 hx
     have:=HS.out y hy
     unfold bcut
     split
     ·exact this
     ·rw [ByteArray.size_extract];omega
    ·exact HS.out)
   have HC2:=Aside0.mk (show Kd.C Kd.string wc (some ⟨g,0,none⟩) L1.length L1 from by
    obtain ⟨_,_,hC⟩:=Kd.R_reads' HR2.out;exact hC)
   rw [← hll] at hc0 hl
   rw [← hll]
   clear HR2 hL1 hll
   go_upto_block 4 with fail
   go_cut [3] (fun v3 wx=>∃ (A:Option Addr) (cp:Nat) (xs:List ByteArray),v3=.slice A xs.length cp∧xs.length≤cp∧xs.length≤4000∧Aside0 (Kd.C Kd.string wx A xs.length xs)∧Aside0 (xs=L1.dropWhile bblank)∧Aside0 (∀ x ∈ xs,x.size≤4000)∧Aside0 (Below w.heap.size w wx))
   case first =>
    go_wp2_with fail
    go_loopw [3] (fun v3 wr=>∃ (A:Option Addr) (cp:Nat) (xs:List ByteArray),v3=.slice A xs.length cp∧xs.length≤cp∧xs.length≤4000∧Aside0 (Kd.C Kd.string wr A xs.length xs)∧Aside0 (xs.dropWhile bblank=L1.dropWhile bblank)∧Aside0 (∀ x ∈ xs,x.size≤4000)∧Aside0 (Below w.heap.size w wr)) (fun v3 _=>lenOf v3)
    case atStart=>exact ⟨_,_,L1,rfl,hc0,hl,HC2,⟨rfl⟩,HS1,HB2⟩
    case round =>
     clear HC2 HS1 HB2
     obtain ⟨A,cp,xs,rfl,hcp,hl4,HCx,HD,HSx,HBx⟩:=hrel
     cases xs with
     | nil =>
       go_wp2_with fail
       go_meet
       exact ⟨A,cp,[],rfl,hcp,hl4,HCx,⟨by rw [← HD.out];rfl⟩,HSx,HBx⟩
     | cons x t =>
       obtain ⟨ad,e0,hx0⟩:=Kd.at_string HCx.out 0 (Int.le_refl _) (by simp)
       subst e0
       simp only [Int.toNat_zero,rdOf,List.getD_cons_zero] at hx0
       have hx1:wr.cell? ad=some (.string x):=by simpa [Addr.add] using hx0
       have hsz:=HSx.out x (by simp)
       cases hb:bblank x with
       | false =>
         have HBk:=Aside0.mk hb
         go_wp2_with (go_at_call 161;refine (blank_call x _ (by omega)).mono ?_;rintro e w2 ⟨rfl,hb2⟩)
         go_meet
         exact ⟨_,_,x :: t,rfl,hcp,hl4,⟨Kd.C_below HCx.out hb2⟩,⟨by rw [← HD.out,List.dropWhile_cons,HBk.out];rfl⟩,HSx,⟨HBx.out.trans (hb2.mono HBx.out.size)⟩⟩
       | true =>
         have HBk:=Aside0.mk hb
         have HT:=Aside0.mk (show t.dropWhile bblank=L1.dropWhile bblank by rw [← HD.out,List.dropWhile_cons,HBk.out];rfl)
         have HST:=Aside0.mk (show ∀ y ∈ t,y.size≤4000 from fun y hy=>HSx.out y (List.mem_cons_of_mem _ hy))
         have hdr:=Kd.C_drop (m:=1) (c:=cp) HCx.out (by simp) hcp
         have HDR:=Aside0.mk hdr
         clear hdr
         have hcp':t.length+1≤cp:=hcp
         have hl4':t.length+1≤4000:=hl4
         by_cases h1:cp=1
         ·have HH1:=Aside0.mk h1
          go_wp2_with (go_at_call 161;refine (blank_call x _ (by omega)).mono ?_;rintro e w2 ⟨rfl,hb2⟩)
          go_roundw
          case rel =>
           have hC:=HDR.out
           rw [if_pos HH1.out] at hC
           exact ⟨_,_,t,rfl,by omega,by omega,⟨Kd.C_below hC hb2⟩,HT,HST,⟨HBx.out.trans (hb2.mono HBx.out.size)⟩⟩
          case measure=>simp [lenOf]
         ·have HH1:=Aside0.mk h1
          go_wp2_with (go_at_call 161;refine (blank_call x _ (by omega)).mono ?_;rintro e w2 ⟨rfl,hb2⟩)
          go_roundw
          case rel =>
           have hC:=HDR.out
           rw [if_neg HH1.out] at hC
           exact ⟨_,_,t,rfl,by omega,by omega,⟨Kd.C_below hC hb2⟩,HT,HST,⟨HBx.out.trans (hb2.mono HBx.out.size)⟩⟩
          case measure=>simp [lenOf]
   case rest =>
    clear HC2 HS1 HB2
    obtain ⟨A,cp,xs,rfl,hcp,hl4,HCx,HD,HSx,HBx⟩:=hcut
    have HJ2:=Aside0.mk (show strings_Join.f (btail xs) ⟨#[10]⟩=some q by rw [HD.out];exact HJ1.out)
    clear HD HJ1
    go_wp2_with fail
    go_loopw [3] (fun v3 wr=>∃ (A:Option Addr) (cp:Nat) (xs:List ByteArray),v3=.slice A xs.length cp∧xs.length≤cp∧xs.length≤4000∧Aside0 (Kd.C Kd.string wr A xs.length xs)∧Aside0 (strings_Join.f (btail xs) ⟨#[10]⟩=some q)∧Aside0 (∀ x ∈ xs,x.size≤4000)∧Aside0 (Below w.heap.size w wr)) (fun v3 _=>lenOf v3)
    case atStart=>exact ⟨_,_,xs,rfl,hcp,hl4,HCx,HJ2,HSx,HBx⟩
    case round =>
     clear HCx HJ2 HSx HBx hcp hl4
     obtain ⟨A,cp,xs,rfl,hcp,hl4,HCx,HJ,HSx,HBx⟩:=hrel
     rcases List.eq_nil_or_concat xs with hxs | ⟨ys,y,hxs⟩
     ·subst hxs
      have HCL:=Aside0.mk (show Calls Tryz.prog 162 #[.slice A 0 cp,.string ⟨#[10]⟩] wr fun e w'=>e=.returned (.string q)∧Below wr.heap.size wr w' from strings_Join.calls A cp [] ⟨#[10]⟩ q wr HCx.out hcp HJ.out)
      clear hcp
      go_wp2_with (go_at_call 162;refine HCL.out.mono ?_;rintro e w2 ⟨rfl,hb2⟩)
      go_ret
      exact ⟨rfl,HBx.out.trans (hb2.mono HBx.out.size)⟩
     ·rw [List.concat_eq_append] at hxs
      subst hxs
      have hlen:(ys++[y]).length=ys.length+1:=by simp
      rw [hlen] at hcp hl4 HCx ⊢
      have hx0:∃ ad,A=some ad∧wr.cell? (ad.add ys.length)=some (.string y):=by
       have hC:Kd.C Kd.string wr A (ys++[y]).length (ys++[y]):=by rw [hlen];exact HCx.out
       obtain ⟨ad,e0,hx⟩:=Kd.at_string hC (ys.length:Int) (by omega) (by omega)
       refine ⟨ad,e0,?_⟩
       simpa [rdOf] using hx
      obtain ⟨ad,rfl,hx0⟩:=hx0
      have hsz:=HSx.out y (by simp)
      cases hb:bblank y with
      | false =>
        have HBk:=Aside0.mk hb
        have HCL:=Aside0.mk (fun W (hW:Below wr.heap.size wr W)=>show Calls Tryz.prog 162 #[.slice (some ad) (ys.length+1) cp,.string ⟨#[10]⟩] W fun e w'=>e=.returned (.string q)∧Below W.heap.size W w' from by
         have hC:Kd.C Kd.string wr (some ad) (ys++[y]).length (ys++[y]):=by rw [hlen];exact HCx.out
         have hj:=HJ.out
         rw [btail_snoc_not _ _ HBk.out] at hj
         have:=strings_Join.calls (some ad) cp (ys++[y]) ⟨#[10]⟩ q W (Kd.C_below hC hW) (by rw [hlen];exact hcp) hj
         rw [hlen] at this
         exact this)
        go_wp2_with (first | (go_at_call 161;refine (blank_call y _ (by omega)).mono ?_;rintro e w2 ⟨rfl,hb2⟩) | (go_at_call 162;refine (HCL.out _ hb2).mono ?_;rintro e w3 ⟨rfl,hb3⟩))
        go_ret
        exact ⟨rfl,HBx.out.trans ((hb2.trans (hb3.mono hb2.size)).mono HBx.out.size)⟩
      | true =>
        have HBk:=Aside0.mk hb
        have happ:=@run_append_zero
        go_wp2_with (go_at_call 161;refine (blank_call y _ (by omega)).mono ?_;rintro e w2 ⟨rfl,hb2⟩)
        have HCY:=Aside0.mk (show Kd.C Kd.string wr (some ad) ys.length ys from by
         have hC:Kd.C Kd.string wr (some ad) (ys++[y]).length (ys++[y]):=by rw [hlen];exact HCx.out
         have:=Kd.C_take (m:=ys.length) hC (by simp)
         simpa using this)
        have HJY:=Aside0.mk (show strings_Join.f (btail ys) ⟨#[10]⟩=some q by rw [← btail_snoc_blank _ _ HBk.out];exact HJ.out)
        have HSY:=Aside0.mk (show ∀ x ∈ ys,x.size≤4000 from fun x hx=>HSx.out x (by simp [hx]))
        have z1:(0:Int)≤(ys.length:Int):=by omega
        have z2:(ys.length:Int)≤(cp:Int):=by omega
        by_cases e:cp=ys.length+1
        ·subst e
         have y1:IntKind.i64.wrap ((ys.length:Int)+1)=(ys.length:Int)+1:=by rw [IntKind.wrap_i64];omega
         have y2:(0:Int)≤(ys.length:Int)+1:=by omega
         have y3:((ys.length:Int)+1).toNat=ys.length+1:=by omega
         go_quiet (fail)
         go_wp2_with fail
         go_roundw
         case rel=>exact ⟨_,_,ys,rfl,by omega,by omega,⟨Kd.C_below HCY.out (pw_below_drewN hb2 _)⟩,HJY,HSY,⟨HBx.out.trans ((pw_below_drewN hb2 _).mono HBx.out.size)⟩⟩
         case measure=>simp [lenOf]
        ·have z3:(ys.length:Int)+1≤(cp:Int):=by omega
         have y1:IntKind.i64.wrap ((ys.length:Int)+1)=(ys.length:Int)+1:=by rw [IntKind.wrap_i64];omega
         have y2:(0:Int)≤(ys.length:Int)+1:=by omega
         have y3:((ys.length:Int)+1).toNat=ys.length+1:=by omega
         go_quiet (fail)
         go_wp2_with fail
         go_roundw
         case rel=>exact ⟨_,_,ys,rfl,by omega,by omega,⟨Kd.C_below HCY.out (pw_below_drewN hb2 _)⟩,HJY,HSY,⟨HBx.out.trans ((pw_below_drewN hb2 _).mono HBx.out.size)⟩⟩
         case measure=>simp [lenOf]
def lexer_blockStringValue.f (k:Nat) (a0:ByteArray):Option (ByteArray):=(lexer_zzLines.f k a0).bind fun r=>(if 0 < r.length∧r.length≤4000∧(r.all fun x=>decide (x.size≤4000))=true then (strings_Join.f (bsl r) (⟨#[10]⟩:ByteArray)) else (none))
theorem lexer_blockStringValue.mono:∀ a0 k,LeO (lexer_blockStringValue.f k a0) (lexer_blockStringValue.f (k+1) a0):=by
 intro a0 k
 unfold lexer_blockStringValue.f
 exact LeO.bind (lexer_zzLines.mono a0 k) (fun _=>LeO.refl _)
theorem lexer_blockStringValue.calls (k:Nat) (a0:ByteArray) (r:ByteArray) (w:World) (h:lexer_blockStringValue.f k a0=some r) :
 Calls Tryz.prog 148 #[.string a0] w fun e w'=>e=.returned (.string r)∧Below w.heap.size w w':=by
 unfold lexer_blockStringValue.f at h
 obtain ⟨l,hz,h⟩:=Option.bind_eq_some_iff.mp h
 by_cases hc:0 < l.length∧l.length≤4000∧(l.all fun x=>decide (x.size≤4000))=true
 ·rw [if_pos hc] at h
  exact bsv_walk k a0 l w hz hc.1 hc.2.1 (fun x hx=>of_decide_eq_true (List.all_eq_true.1 hc.2.2 x hx)) r h
 ·rw [if_neg hc] at h
  cases h
end Go.Proofs.YthgcghpcikbnkaaGreatDoor.PblockStringValue
