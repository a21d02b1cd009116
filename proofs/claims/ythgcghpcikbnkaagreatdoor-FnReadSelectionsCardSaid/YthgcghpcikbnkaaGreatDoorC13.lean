/- A part of the proof of the theorem of this claim: Paw, Rnm. No condition of its own. -/
import Derived.Test.YthgcghpcikbnkaaGreatDoorB4
import Derived.Test.YthgcghpcikbnkaaGreatDoorB5
set_option maxHeartbeats 16000000
set_option maxRecDepth 100000
namespace Go.Proofs.YthgcghpcikbnkaaGreatDoor.R
open Go.RowKit Go.Proofs.YthgcghpcikbnkaaGreatDoorW.PrintWords Go.Proofs.YthgcghpcikbnkaaGreatDoorW.PrintLast Go.Proofs.YthgcghpcikbnkaaGreatDoorW.PrintMore
set_option linter.unusedVariables false
set_option linter.unusedSimpArgs false
theorem w_up {i:Nat} (h:i≤4000):Value.int .i64 (wrap64 ((i:Int)+1))=.int .i64 ((i+1:Nat):Int):=by
 rw [w64 (by omega) (by omega)];rfl
theorem high_n (n b0 b1 b2 b3:Nat) (h0:128≤b0):128≤(Go.Lib.decodeN n b0 b1 b2 b3).1:=by
 unfold Go.Lib.decodeN
 repeat' split
 all_goals (simp only;omega)
theorem high_at (t:ByteArray) (p:Nat) (hp:p < t.size) (hb:128≤bt t p):128≤(Go.Lib.decodeGo (t.extract p t.size)).1:=by
 have hsz:(t.extract p t.size).size=t.size - p:=by rw [ByteArray.size_extract];omega
 have hx:(((t.extract p t.size).get! 0).toNat:Int)=bt t p:=by
  rw [get_b _ 0 (by omega),ByteArray.getElem_extract]
  unfold bt
  rw [dif_pos (show (p:Int).toNat < t.size by omega)]
  simp only [Int.toNat_natCast,Nat.add_zero]
 unfold Go.Lib.decodeGo
 rw [if_neg (by omega),Go.Lib.decode_at,hsz]
 exact high_n _ _ _ _ _ (by omega)
theorem bom_of (s:ByteArray) (i:Nat) (h:i+2 < s.size) (h0:(s[i]'(by omega)).toNat=239) (h1:(s[i+1]'(by omega)).toNat=187) (h2:(s[i+2]'h).toNat=191):bomAt s i=true:=by
 unfold bomAt
 rw [decide_eq_true (by omega),Bool.true_and,beq_iff_eq,ByteArray.toList_eq,ByteArray.toList_eq,ByteArray.data_extract,Array.toList_extract,List.extract_eq_take_drop]
 have hl:i+2 < s.data.toList.length:=by simpa using h
 rw [List.drop_eq_getElem_cons (show i < s.data.toList.length by omega),List.drop_eq_getElem_cons (show i+1 < s.data.toList.length by omega),List.drop_eq_getElem_cons hl]
 have e:∀ (x:UInt8) (n:Nat),n < 256→x.toNat=n→x=UInt8.ofNat n:=fun x n hn hx=>UInt8.toNat_inj.mp (by rw [hx];simp;omega)
 have e0:s.data.toList[i]'(by omega)=239:=e _ 239 (by omega) h0
 have e1:s.data.toList[i+1]'(by omega)=187:=e _ 187 (by omega) h1
 have e2:s.data.toList[i+1+1]'hl=191:=e _ 191 (by omega) h2
 rw [e0,e1,e2,show i+3 - i=3 from by omega]
 rfl
theorem dec_ok (s:ByteArray) (i:Nat) (hi:i < s.size) (hb:128≤bt s i) (hm:bomAt s i=false):128≤(Go.Lib.decodeGo (s.extract i s.size)).1∧(Go.Lib.decodeGo (s.extract i s.size)).1≠65279:=by
 have hsz:(s.extract i s.size).size=s.size - i:=by rw [ByteArray.size_extract];omega
 have hbt:bt s i=((s[i]'hi).toNat:Int):=by
  unfold bt;rw [dif_pos (show (i:Int).toNat < s.size by omega)];simp only [Int.toNat_natCast]
 unfold Go.Lib.decodeGo
 rw [if_neg (by omega)]
 have hx:∀ j,(hj:i+j < s.size)→(s.extract i s.size).get! (0+j)=s[i+j]'hj:=fun j hj=>by
  rw [Nat.zero_add,get_b _ j (by omega),ByteArray.getElem_extract]
 have h0:((s.extract i s.size)[0]'(by omega))=s[i]:=by simp [ByteArray.getElem_extract]
 refine ⟨?_,fun h=>?_⟩
 ·have h9:=high_at s i hi hb
  unfold Go.Lib.decodeGo at h9
  rw [if_neg (by omega)] at h9
  exact h9
 rw [Go.Lib.decode_at] at h
 have g0:=(s.extract i s.size).get! 0 |>.toNat_lt
 have g1:=(s.extract i s.size).get! (0+1) |>.toNat_lt
 have g2:=(s.extract i s.size).get! (0+2) |>.toNat_lt
 have key:∀ n b0 b1 b2 b3:Nat,b0 < 256→b1 < 256→b2 < 256→(Go.Lib.decodeN n b0 b1 b2 b3).1=65279→2 < n∧b0=239∧b1=187∧b2=191:=by
  intro n b0 b1 b2 b3 k0 k1 k2 hh
  unfold Go.Lib.decodeN at hh
  repeat' split at hh
  all_goals (simp only at hh;omega)
 obtain ⟨q0,q1,q2,q3⟩:=key _ _ _ _ _ g0 g1 g2 h
 have hlt:i+2 < s.size:=by omega
 have t:=bom_of s i hlt (by rw [← q1,← h0,← get_b _ 0 (by omega)]) (by rw [← q2,hx 1 (by omega)]) (by rw [← q3,hx 2 (by omega)])
 rw [hm] at t;cases t
theorem rn_stop (s:ByteArray) (hs:s.size≤2000) (i:Nat) (hi:i < s.size) (hm:bomAt s i=false) (hb:isBl (bt s i)=false) (hc:bt s i≠35) :
 ∃ c k:Int,rn s i=(c,k)∧(c == 65279)=false∧(c == 9)=false∧(c == 32)=false∧(c == 10)=false∧(c == 13)=false∧(c == 44)=false∧(c == 35)=false:=by
 have hlo:=bt_lo s i
 unfold rn
 rw [if_neg (by omega)]
 by_cases h:bt s i < 128
 ·rw [if_pos h]
  obtain ⟨d1,d2,d3,d4,d5⟩:bt s i≠32∧bt s i≠9∧bt s i≠10∧bt s i≠13∧bt s i≠44:=by
   unfold isBl at hb
   simp only [Bool.or_eq_false_iff,beq_eq_false_iff_ne] at hb
   exact ⟨hb.1.1.1.1,hb.1.1.1.2,hb.1.1.2,hb.1.2,hb.2⟩
  refine ⟨_,_,rfl,?_,?_,?_,?_,?_,?_,?_⟩ <;> (rw [beq_eq_false_iff_ne];omega)
 ·rw [if_neg h]
  have:=dec_ok s i hi (by omega) hm
  refine ⟨_,_,rfl,?_,?_,?_,?_,?_,?_,?_⟩ <;> (rw [beq_eq_false_iff_ne];simp only [Int.ofNat_eq_natCast];omega)
theorem rn_ascii (s:ByteArray) (i:Nat) (hi:i < s.size) (c:Int) (h:bt s i=c) (hc:c < 128):rn s i=(c,1):=by
 unfold rn;rw [if_neg (by omega),if_pos (by omega),h]
theorem rn_end (s:ByteArray) (i:Nat) (hi:¬ i < s.size):rn s i=(-1,65533):=by
 unfold rn;rw [if_pos (by omega)]
theorem sc_cases (s:ByteArray) (i n:Nat) (hi:i < s.size) (h:Sc s false i=some n) :
 ((bt s i=32∨bt s i=9∨bt s i=10∨bt s i=13∨bt s i=44)∧Sc s false (i+1)=some n)∨(bt s i=35∧Sc s true (i+1)=some n)∨(isBl (bt s i)=false∧bt s i≠35∧bomAt s i=false∧i=n):=by
 rw [sc_f s i hi] at h
 by_cases hb:isBl (bt s i)=true
 ·rw [if_pos hb] at h
  refine .inl ⟨?_,h⟩
  unfold isBl at hb
  simp only [Bool.or_eq_true,beq_iff_eq] at hb
  omega
 rw [if_neg hb] at h
 by_cases hc:bt s i=35
 ·rw [if_pos hc] at h;exact .inr (.inl ⟨hc,h⟩)
 rw [if_neg hc] at h
 by_cases hm:bomAt s i=true
 ·rw [if_pos hm] at h;cases h
 rw [if_neg hm] at h
 exact .inr (.inr ⟨by simpa using hb,hc,by simpa using hm,Option.some.inj h⟩)
theorem sc_cases_t (s:ByteArray) (i n:Nat) (hi:i < s.size) (h:Sc s true i=some n) :
 ((bt s i=10∨bt s i=13)∧Sc s false i=some n)∨(bt s i=9∧Sc s true (i+1)=some n)∨((bt s i < 128∧(bt s i != 0)=true∧decide (31 < bt s i)=true∧(bt s i != 10)=true∧(bt s i != 13)=true)∧Sc s true (i+1)=some n):=by
 have hnl:=sc_nl s i hi
 have h':=h
 rw [sc_t s i hi] at h
 by_cases hb:bt s i=10∨bt s i=13
 ·exact .inl ⟨hb,(hnl hb) ▸ h'⟩
 rw [if_neg hb] at h
 by_cases hc:128≤bt s i∨(bt s i < 32∧bt s i≠9)
 ·rw [if_pos hc] at h;cases h
 rw [if_neg hc] at h
 by_cases h9:bt s i=9
 ·exact .inr (.inl ⟨h9,h⟩)
 ·refine .inr (.inr ⟨⟨by omega,by rw [bne_iff_ne];omega,decide_eq_true (by omega),by rw [bne_iff_ne];omega,by rw [bne_iff_ne];omega⟩,h⟩)
def msr (s:ByteArray):Value→Nat
 | .int _ a=>s.size - a.toNat
 | _=>0
theorem msr_int (s:ByteArray) (k:IntKind) (a:Int):msr s (.int k a)=s.size - a.toNat:=rfl
theorem msr_upb (s:ByteArray) (i:Nat) (h:i < s.size) (hs:s.size≤4000):msr s (.int .i64 (wrap64 ((i:Int)+1))) < msr s (.int .i64 (i:Int)):=by
 have e:wrap64 ((i:Int)+1)=((i+1:Nat):Int):=(w64 (by omega) (by omega)).trans (by omega)
 rw [e,msr_int,msr_int,Int.toNat_natCast,Int.toNat_natCast]
 omega
set_option maxHeartbeats 8000000 in
set_option maxRecDepth 100000 in
theorem paw_walk (s:ByteArray) (b cap:Nat) (w:World) (hT:Glob w) (hs:s.size≤2000) (hc:s.size≤cap) (hp:∀ j:Nat,j < s.size→w.cell? ⟨b,j,none⟩=some (.int .u8 (bt s j))) (p:Nat) (hp0:p≤s.size) (n:Nat) (hn:Sc s false p=some n) :
 Calls Tryz.prog 127 #[.slice (some ⟨b,0,none⟩) s.size cap,.int .i64 p] w fun e w'=>e=.returned (.tuple #[.int .i64 n,.int .i64 n])∧Below w.heap.size w w':=by
 have RA:∀ i:Nat,i≤s.size→_:=fun i hi=>runeAt_walk s b cap w hT i hi (by omega) hc hp
 have HR:=mkA RA
 have HS:=mkA hs
 have HN:=mkA hn
 have HP0:=mkA hp0
 clear RA hT hc hp hs hn hp0
 go_enter Tryz.func127,Tryz.ntmps127
 go_wp2
 repeat (go_quiet (fail);try go_wp2)
 go_loopw [4,5] (fun v4 v5 wr=>∃ (i:Nat),v4=.int .i64 i∧v5=.int .i64 i∧w=wr∧Aside0 (i≤s.size)∧Aside0 (Sc s false i=some n)) (fun v4 v5 _=>msr s v4)
 case atStart=>exact ⟨p,rfl,rfl,rfl,⟨HP0.out⟩,⟨HN.out⟩⟩
 case round =>
  obtain ⟨i,rfl,rfl,rfl,HI,HC⟩:=hrel
  by_cases hlt:i < s.size
  ·have HLT:=mkA hlt
   have cR:=HR.out i HI.out
   rcases sc_cases s i n hlt HC.out with ⟨hb,h⟩ | ⟨hb,h⟩ | ⟨hb,hc,hm,rfl⟩
   ·have HX:=mkA h
    clear h
    rcases hb with hb | hb | hb | hb | hb
    all_goals
     rw [rn_ascii s i hlt _ hb (by decide)] at cR
     have HA:=mkA (show i < s.size→bt s i < 128 from fun _=>by rw [hb];decide)
     clear hb
     go_wp2_with (first | (go_at_call 129;refine cR.mono ?_;rintro e w' ⟨rfl,hB,hE⟩;obtain rfl:=(hE HA.out).symm))
     repeat (go_quiet (fail);try go_wp2)
     go_roundw
     case rel=>exact ⟨i+1,by have:=HS.out;have:=HLT.out;exact w_up (by omega),by have:=HS.out;have:=HLT.out;exact w_up (by omega),by first | rfl | trivial,⟨HLT.out⟩,HX⟩
     case measure=>exact msr_upb s i HLT.out (by have:=HS.out;omega)
   ·have HX:=mkA h
    rw [rn_ascii s i hlt _ hb (by decide)] at cR
    have HA:=mkA (show i < s.size→bt s i < 128 from fun _=>by rw [hb];decide)
    clear h hb
    go_wp2_with (first | (go_at_call 129;refine cR.mono ?_;rintro e w' ⟨rfl,hB,hE⟩;obtain rfl:=(hE HA.out).symm))
    repeat (go_quiet (fail);try go_wp2)
    clear cR
    go_loopw [4,5] (fun v4 v5 wr=>∃ (j:Nat),v4=.int .i64 j∧v5=.int .i64 j∧w=wr∧Aside0 (j≤s.size∧i < j)∧Aside0 (Sc s true j=some n)) (fun v4 v5 _=>msr s v4)
    case atStart=>exact ⟨i+1,by have:=HS.out;have:=HLT.out;exact w_up (by omega),by have:=HS.out;have:=HLT.out;exact w_up (by omega),by first | rfl | trivial,⟨HLT.out,by omega⟩,HX⟩
    case round =>
     obtain ⟨j,rfl,rfl,rfl,HJ,HD⟩:=hrel
     by_cases hlj:j < s.size
     ·have HLJ:=mkA hlj
      have cR:=HR.out j HJ.out.1
      rcases sc_cases_t s j n hlj HD.out with ⟨hb,h⟩ | ⟨hb,h⟩ | ⟨⟨ha,d1,d2,d3,d4⟩,h⟩
      ·have HY:=mkA h
       clear h
       rcases hb with hb | hb
       all_goals
        rw [rn_ascii s j hlj _ hb (by decide)] at cR
        have HA2:=mkA (show j < s.size→bt s j < 128 from fun _=>by rw [hb];decide)
        clear hb
        go_wp2_with (first | (go_at_call 129;refine cR.mono ?_;rintro e w' ⟨rfl,hB,hE⟩;obtain rfl:=(hE HA2.out).symm))
        repeat (go_quiet (fail);try go_wp2)
        go_roundw
        case rel=>exact ⟨j,rfl,rfl,by first | rfl | trivial,⟨HJ.out.1⟩,HY⟩
        case measure=>have h1:=HJ.out;have h2:=HLT.out;rw [msr_int,msr_int,Int.toNat_natCast,Int.toNat_natCast];omega
      ·have HY:=mkA h
       rw [rn_ascii s j hlj _ hb (by decide)] at cR
       have HA2:=mkA (show j < s.size→bt s j < 128 from fun _=>by rw [hb];decide)
       clear hb h
       go_wp2_with (first | (go_at_call 129;refine cR.mono ?_;rintro e w' ⟨rfl,hB,hE⟩;obtain rfl:=(hE HA2.out).symm))
       go_roundw
       case rel=>exact ⟨j+1,by have:=HS.out;have:=HLJ.out;exact w_up (by omega),by have:=HS.out;have:=HLJ.out;exact w_up (by omega),by first | rfl | trivial,⟨HLJ.out,by have:=HJ.out;omega⟩,HY⟩
       case measure=>exact msr_upb s j HLJ.out (by have:=HS.out;omega)
      ·have HY:=mkA h
       rw [rn_ascii s j hlj _ rfl ha] at cR
       have HA2:=mkA (show j < s.size→bt s j < 128 from fun _=>ha)
       clear ha h
       go_wp2_with (first | (go_at_call 129;refine cR.mono ?_;rintro e w' ⟨rfl,hB,hE⟩;obtain rfl:=(hE HA2.out).symm))
       go_roundw
       case rel=>exact ⟨j+1,by have:=HS.out;have:=HLJ.out;exact w_up (by omega),by have:=HS.out;have:=HLJ.out;exact w_up (by omega),by first | rfl | trivial,⟨HLJ.out,by have:=HJ.out;omega⟩,HY⟩
       case measure=>exact msr_upb s j HLJ.out (by have:=HS.out;omega)
     ·have cR:=HR.out j HJ.out.1
      rw [rn_end s j hlj] at cR
      have HA2:=mkA (show j < s.size→bt s j < 128 from fun h=>absurd h hlj)
      go_wp2_with (first | (go_at_call 129;refine cR.mono ?_;rintro e w' ⟨rfl,hB,hE⟩;obtain rfl:=(hE HA2.out).symm))
      repeat (go_quiet (fail);try go_wp2)
      go_roundw
      case rel=>exact ⟨j,rfl,rfl,by first | rfl | trivial,⟨HJ.out.1⟩,⟨(show Sc s false j=Sc s true j by rw [show j=s.size from by have:=HJ.out;omega,sc_end,sc_end]).trans HD.out⟩⟩
      case measure=>have h1:=HJ.out;have h2:=HLT.out;rw [msr_int,msr_int,Int.toNat_natCast,Int.toNat_natCast];omega
   ·obtain ⟨c,k,hr,d1,d2,d3,d4,d5,d6,d7⟩:=rn_stop s HS.out i hlt hm hb hc
    rw [hr] at cR
    clear hr hb hc hm
    go_wp2_with (first | (go_at_call 129;refine cR.mono ?_;rintro e w' ⟨rfl,hB,hE⟩;have HB:=mkA hB;clear hB hE))
    repeat (go_quiet (fail);try go_wp2)
    go_ret2
    exact ⟨rfl,HB.out⟩
  ·obtain rfl:i=n:=by
    have e:i=s.size:=by have:=HI.out;omega
    have h:=HC.out
    rw [e,sc_end] at h
    rw [e];exact Option.some.inj h
   go_wp2
   repeat (go_quiet (fail);try go_wp2)
   go_ret2
   exact ⟨rfl,Below.refl _ _⟩
def NoNl (p a:Nat):Prop:=p≤a
theorem NoNl.step {p:Nat} {s:ByteArray} {i:Nat} (h:NoNl p i) (hi:i < s.size) (X:Int) (hx:nx s i=X) (h1:X≠10) (h2:X≠13):NoNl p (i+1):=Nat.le_succ_of_le h
theorem NoNl.dg {p:Nat} {s:ByteArray} {i:Nat} (h:NoNl p i):NoNl p (dg s i):=Nat.le_trans h (dg_ge s i)
theorem conv_bytes {w:World} {g b cap:Nat} {s:ByteArray} (h:Src w g b cap s) (p a:Nat) (hpa:p≤a) (ha:a≤s.size):(convert 109 9 (.slice (some ⟨b,p,none⟩) (a - p) (cap - p))).run Tryz.prog w=.ok (.string (s.extract p a)) w:=by
 have hl:(((bytesOf s).drop p).take (a - p)).length=a - p:=by rw [List.length_take,List.length_drop,blen];omega
 have hcv:=run_convert_bytes_arg (P:=Tryz.prog) w 109 5 (by kernel_rfl) (by kernel_rfl) b p (a - p) (cap - p) (((bytesOf s).drop p).take (a - p)) hl (fun i hi=>by
  have e:(((bytesOf s).drop p).take (a - p)).getD i 0=bt s ((p+i:Nat):Int):=by
   have e2:(bytesOf s).getD (p+i) 0=bt s ((p+i:Nat):Int):=rd_bytesOf s ((p+i:Nat):Int)
   rw [← e2,List.getD_eq_getElem?_getD,List.getD_eq_getElem?_getD,List.getElem?_take,if_pos hi,List.getElem?_drop]
  rw [e]
  exact h.bytes (p+i) (by omega)) 9 (by kernel_rfl)
 rw [hcv]
 have hX:(strOfNums (((bytesOf s).drop p).take (a - p)))=s.extract p a:=by
  apply ByteArray.ext
  apply Array.toList_inj.1
  rw [strOfNums_data,ByteArray.data_extract,Array.toList_extract,List.extract_eq_take_drop]
  simp only [bytesOf,← List.map_take,← List.map_drop,List.map_map]
  refine (List.map_congr_left (g:=id) fun b _=>?_).trans (List.map_id _)
  simp
 rw [hX]
theorem rn_cases (s:ByteArray) (i:Nat) (hi:i≤s.size):(nx s i < 128∧i < s.size∧rn s i=(nx s i,1))∨(∃ c k:Int,rn s i=(c,k)∧128≤nx s i∧128≤c)∨(rn s i=(-1,65533)∧nx s i=0∧i=s.size):=by
 unfold rn nx
 by_cases h:s.size≤i
 ·rw [if_pos h,if_neg (by omega)];exact .inr (.inr ⟨rfl,rfl,by omega⟩)
 rw [if_neg h,if_pos (by omega)]
 by_cases h2:bt s i < 128
 ·rw [if_pos h2];exact .inl ⟨h2,by omega,rfl⟩
 rw [if_neg h2]
 refine .inr (.inl ⟨_,_,rfl,by omega,?_⟩)
 have hsz:(s.extract i s.size).size=s.size - i:=by rw [ByteArray.size_extract];omega
 have hbt:bt s i=((s[i]'(by omega)).toNat:Int):=by
  unfold bt;rw [dif_pos (show (i:Int).toNat < s.size by omega)];simp only [Int.toNat_natCast]
 unfold Go.Lib.decodeGo
 rw [if_neg (by omega)]
 have h0:((s.extract i s.size)[0]'(by omega))=s[i]'(by omega):=by simp [ByteArray.getElem_extract]
 have:=(Go.decode_high (s.extract i s.size) 0 (by omega) (by rw [h0];omega)).1
 simp only [Int.ofNat_eq_natCast]
 omega
theorem isD_iff (c:Int):isD c=true ↔ 48≤c∧c≤57:=by unfold isD;simp
theorem isD_not (c:Int):isD c=false ↔ c < 48∨57 < c:=by
 unfold isD
 by_cases h1:48≤c <;> by_cases h2:c≤57 <;> simp [h1,h2] <;> omega
theorem rn_dig (s:ByteArray) (i:Nat) (hi:i≤s.size) (h:isD (nx s i)=true):rn s i=(nx s i,1)∧i < s.size∧48≤nx s i∧nx s i≤57:=by
 have hd:=(isD_iff _).1 h
 rcases rn_cases s i hi with ⟨a,b,c⟩ | ⟨c,k,a,b,d⟩ | ⟨a,b,c⟩
 ·exact ⟨c,b,hd⟩
 ·omega
 ·omega
theorem rn_nod (s:ByteArray) (i:Nat) (hi:i≤s.size) (h:isD (nx s i)=false):∃ c k:Int,rn s i=(c,k)∧(c < 48∨57 < c):=by
 have hd:=(isD_not _).1 h
 rcases rn_cases s i hi with ⟨a,b,c⟩ | ⟨c,k,a,b,d⟩ | ⟨a,b,c⟩
 ·exact ⟨_,_,c,hd⟩
 ·exact ⟨c,k,a,.inr (by omega)⟩
 ·exact ⟨_,_,a,.inl (by omega)⟩
set_option maxHeartbeats 8000000 in
set_option maxRecDepth 100000 in
theorem readDigits_walk {w:World} {g b cap:Nat} {s:ByteArray} (h:Src w g b cap s) (i:Nat) (hi:i≤s.size) :
 Calls Tryz.prog 146 #[.pointer (some ⟨g,0,none⟩),.int .i64 i,.int .i32 (rn s i).1,.int .i64 (rn s i).2] w fun e w'=>((isD (nx s i)=true∧e=.returned (.tuple #[.int .i64 (dg s i:Nat),.nilIface]))∨(isD (nx s i)=false∧∃ gq:Nat,e=.returned (.tuple #[.int .i64 i,.iface 206 (.pointer (some ⟨gq,0,none⟩))])))∧Below w.heap.size w w':=by
 have HS:=mkA h
 have HI:=mkA hi
 have hc0:=h.body
 have HSM:=mkA h.small
 clear h
 cases hd:isD (nx s i) with
 | false =>
   obtain ⟨c,k,hr,hc⟩:=rn_nod s i hi hd
   rw [hr]
   clear hr hi hd
   have e0:decide (48≤c)=false∨(decide (48≤c)=true∧decide (c≤57)=false):=by
    rcases hc with hc | hc
    ·exact .inl (decide_eq_false (by omega))
    ·exact .inr ⟨decide_eq_true (by omega),decide_eq_false (by omega)⟩
   clear hc
   rcases e0 with e0 | ⟨e0,e1⟩
   all_goals
    go_enter Tryz.func146,Tryz.ntmps146
    go_wp2_with (first | (go_at_call 101;refine (synErr_walk HS.out i HI.out _).mono ?_;rintro e w' ⟨⟨gq,rfl⟩,hB⟩;have HB:=mkA hB;clear hB))
    go_ret2
    exact ⟨.inr ⟨by first | rfl | trivial,gq,rfl⟩,HB.out⟩
 | true =>
   obtain ⟨hr,hlt,d1,d2⟩:=rn_dig s i hi hd
   rw [hr]
   have HR:=mkA hr
   clear hr hi
   have e0:decide (48≤nx s i)=true:=decide_eq_true d1
   have e1:decide (nx s i≤57)=true:=decide_eq_true d2
   clear d1 d2 hd hlt
   go_enter Tryz.func146,Tryz.ntmps146
   go_wp2
   go_loopw [3,11,12] (fun v3 v11 v12 wr=>∃ j:Nat,v3=.int .i64 (rn s j).2∧v11=.int .i64 j∧v12=.int .i32 (rn s j).1∧Aside0 (j≤s.size∧dg s j=dg s i)∧Aside0 (Below w.heap.size w wr)) (fun _ v11 _ _=>msr s v11)
   case atStart=>exact ⟨i,by rw [HR.out],rfl,by rw [HR.out],⟨HI.out,rfl⟩,⟨Below.refl _ _⟩⟩
   case round =>
    obtain ⟨j,rfl,rfl,rfl,HJ,HB⟩:=hrel
    clear e0 e1
    cases hd:isD (nx s j) with
    | false =>
      obtain ⟨c,k,hr,hc⟩:=rn_nod s j HJ.out.1 hd
      rw [hr]
      have HD:=mkA hd
      clear hr hd
      have e0:decide (48≤c)=false∨(decide (48≤c)=true∧decide (c≤57)=false):=by
       rcases hc with hc | hc
       ·exact .inl (decide_eq_false (by omega))
       ·exact .inr ⟨decide_eq_true (by omega),decide_eq_false (by omega)⟩
      clear hc
      rcases e0 with e0 | ⟨e0,e1⟩
      all_goals
       go_wp2
       go_ret2
       exact ⟨.inl ⟨by first | rfl | trivial,by rw [← HJ.out.2,dg_no s j HD.out];rfl⟩,HB.out⟩
    | true =>
      obtain ⟨hr,hlt,d1,d2⟩:=rn_dig s j HJ.out.1 hd
      rw [hr]
      have HD:=mkA hd
      have HLT:=mkA hlt
      have e0:decide (48≤nx s j)=true:=decide_eq_true d1
      have e1:decide (nx s j≤57)=true:=decide_eq_true d2
      clear d1 d2 hd hr hlt
      have c15:=runeAt_src (HS.out.below HB.out) (j+1) HLT.out
      rw [show ((j+1:Nat):Int)=wrap64 ((j:Int)+1) from by rw [w64 (by omega) (by have:=HSM.out;have:=HLT.out;omega)];omega] at c15
      go_wp2_with (first | (go_at_call 129;refine c15.mono ?_;rintro e w' ⟨rfl,hB⟩;have HB2:=mkA (below_step HB.out hB);clear hB))
      go_roundw
      case rel=>exact ⟨j+1,rfl,by have:=HSM.out;have:=HLT.out;first | rfl | (simp [wrap64];omega),rfl,⟨HLT.out,by rw [← HJ.out.2,dg_yes s j HD.out]⟩,HB2⟩
      case measure=>have:=HSM.out;have:=HLT.out;simp only [msr_int,wrap64];omega
theorem rn_eq (s:ByteArray) (i:Nat) (hi:i≤s.size) (c k:Int) (h:rn s i=(c,k)) (X:Int) (h1:1≤X) (h2:X≤127):(c=X ↔ nx s i=X)∧(c=X→k=1∧i < s.size):=by
 rcases rn_cases s i hi with ⟨a,b,d⟩ | ⟨c',k',a,b,d⟩ | ⟨a,b,d⟩
 ·rw [d] at h;obtain ⟨rfl,rfl⟩:=Prod.mk.inj h;exact ⟨Iff.rfl,fun _=>⟨rfl,b⟩⟩
 ·rw [a] at h;obtain ⟨rfl,rfl⟩:=Prod.mk.inj h;exact ⟨by constructor <;> intro h <;> omega,fun _=>by omega⟩
 ·rw [a] at h;obtain ⟨rfl,rfl⟩:=Prod.mk.inj h;exact ⟨by constructor <;> intro h <;> omega,fun _=>by omega⟩
theorem rn_isd (s:ByteArray) (i:Nat) (hi:i≤s.size) (c k:Int) (h:rn s i=(c,k)):(isD (nx s i)=true∧48≤c∧c≤57)∨(isD (nx s i)=false∧(c < 48∨(48≤c∧57 < c))):=by
 cases hd:isD (nx s i) with
 | true =>
   obtain ⟨a,b,d⟩:=rn_dig s i hi hd
   rw [a] at h;obtain ⟨rfl,rfl⟩:=Prod.mk.inj h
   exact .inl ⟨rfl,d⟩
 | false =>
   obtain ⟨c',k',a,b⟩:=rn_nod s i hi hd
   rw [a] at h;obtain ⟨rfl,rfl⟩:=Prod.mk.inj h
   exact .inr ⟨rfl,by omega⟩
theorem rd_yes {w:World} {g b cap:Nat} {s:ByteArray} (h:Src w g b cap s) (i:Nat) (hi:i≤s.size) (c k:Int) (hr:rn s i=(c,k)) (hd:isD (nx s i)=true) :
 Calls Tryz.prog 146 #[.pointer (some ⟨g,0,none⟩),.int .i64 i,.int .i32 c,.int .i64 k] w fun e w'=>e=.returned (.tuple #[.int .i64 (dg s i:Nat),.nilIface])∧Below w.heap.size w w':=by
 have h:=readDigits_walk h  i hi
 rw [hr] at h
 refine h.mono fun e w' ⟨h1,h2⟩=>⟨?_,h2⟩
 rcases h1 with ⟨_,h⟩ | ⟨h,_⟩
 ·exact h
 ·rw [hd] at h;cases h
theorem rd_no {w:World} {g b cap:Nat} {s:ByteArray} (h:Src w g b cap s) (i:Nat) (hi:i≤s.size) (c k:Int) (hr:rn s i=(c,k)) (hd:isD (nx s i)=false) :
 Calls Tryz.prog 146 #[.pointer (some ⟨g,0,none⟩),.int .i64 i,.int .i32 c,.int .i64 k] w fun e w'=>(∃ gq:Nat,e=.returned (.tuple #[.int .i64 i,.iface 206 (.pointer (some ⟨gq,0,none⟩))]))∧Below w.heap.size w w':=by
 have h:=readDigits_walk h  i hi
 rw [hr] at h
 refine h.mono fun e w' ⟨h1,h2⟩=>⟨?_,h2⟩
 rcases h1 with ⟨h,_⟩ | ⟨_,h⟩
 ·rw [hd] at h;cases h
 ·exact h
theorem rn_at {w:World} {g b cap:Nat} {s:ByteArray} (h:Src w g b cap s) (i:Nat) (hi:i≤s.size):∃ c k:Int,rn s i=(c,k)∧Calls Tryz.prog 129 #[.slice (some ⟨b,0,none⟩) s.size cap,.int .i64 i] w fun e w'=>e=.returned (.tuple #[.int .i32 c,.int .i64 k])∧Below w.heap.size w w':=by
 have:=runeAt_src h i hi
 cases hr:rn s i with
 | mk c k =>
   rw [hr] at this
   exact ⟨c,k,rfl,this⟩
theorem pl1 (p:Nat) (h:p≤2005):wrap64 ((p:Int)+1)=((p+1:Nat):Int):=by rw [w64 (by omega) (by omega)];omega
theorem rn_call {w:World} {g b cap:Nat} {s:ByteArray} (h:Src w g b cap s) (i:Nat) (hi:i≤s.size) (c k:Int) (hr:rn s i=(c,k)) (P:Int) (e:P=(i:Int)):Calls Tryz.prog 129 #[.slice (some ⟨b,0,none⟩) s.size cap,.int .i64 P] w fun e w'=>e=.returned (.tuple #[.int .i32 c,.int .i64 k])∧Below w.heap.size w w':=by
 have:=runeAt_src h i hi
 rw [hr] at this
 subst e;exact this
theorem rd_yes' {w:World} {g b cap:Nat} {s:ByteArray} (h:Src w g b cap s) (i:Nat) (hi:i≤s.size) (c k:Int) (hr:rn s i=(c,k)) (hd:isD (nx s i)=true) (P:Int) (e:P=(i:Int)) :
 Calls Tryz.prog 146 #[.pointer (some ⟨g,0,none⟩),.int .i64 P,.int .i32 c,.int .i64 k] w fun e w'=>e=.returned (.tuple #[.int .i64 (dg s i:Nat),.nilIface])∧Below w.heap.size w w':=by
 subst e;exact rd_yes h  i hi c k hr hd
theorem rd_no' {w:World} {g b cap:Nat} {s:ByteArray} (h:Src w g b cap s) (i:Nat) (hi:i≤s.size) (c k:Int) (hr:rn s i=(c,k)) (hd:isD (nx s i)=false) (P:Int) (e:P=(i:Int)) :
 Calls Tryz.prog 146 #[.pointer (some ⟨g,0,none⟩),.int .i64 P,.int .i32 c,.int .i64 k] w fun e w'=>(∃ gq:Nat,e=.returned (.tuple #[.int .i64 i,.iface 206 (.pointer (some ⟨gq,0,none⟩))]))∧Below w.heap.size w w':=by
 subst e;exact rd_no h  i hi c k hr hd
theorem synErr' {w:World} {g b cap:Nat} {s:ByteArray} (h:Src w g b cap s) (i:Nat) (hi:i≤s.size) (m:ByteArray) (P:Int) (e:P=(i:Int)) :
 Calls Tryz.prog 101 #[.pointer (some ⟨g,0,none⟩),.int .i64 P,.string m] w fun e w'=>(∃ gq:Nat,e=.returned (.pointer (some ⟨gq,0,none⟩)))∧Below w.heap.size w w':=by
 subst e;exact synErr_walk h  i hi m
def EX (be:Bool) (c:Int):Prop:=be=true ↔ (c=69∨c=101)
theorem readNumber_walk {w:World} {g b cap:Nat} {s:ByteArray} (h:Src w g b cap s) (p:Nat) (hp:p < s.size) (c0 k0:Int) (hr:rn s p=(c0,k0)) :
 Calls Tryz.prog 131 #[.pointer (some ⟨g,0,none⟩),.int .i64 p,.int .i32 c0,.int .i64 k0] w fun e w'=>((numAt s p=none∧∃ gq:Nat,e=.returned (.tuple #[.agg #[.int .i64 0,.int .i64 0,.int .i64 0,.string ⟨#[]⟩],.iface 206 (.pointer (some ⟨gq,0,none⟩))]))∨(∃ (k:Int) (t:Nat),numAt s p=some (k,t)∧t≤s.size∧e=.returned (.tuple #[.agg #[.int .i64 k,.int .i64 p,.int .i64 t,.string (s.extract p t)],.nilIface])))∧Below w.heap.size w w':=by
 have HS:=mkA h
 have HR:=mkA hr
 have HSM:=mkA h.small
 have HC:=mkA h.cap
 have HB:=mkA (Below.refl w.heap.size w)
 have HP0:=mkA hp
 clear h hr hp
 go_enter Tryz.func131,Tryz.ntmps131
 go_upto_if 29 with (first | ((with_reducible refine gate_dst (N:=8) rfl ?_);refine bxz ?hr ?_;(case hr=>first | (go_simp;done) | (go_simp;rfl));intro gb hg w2 hbox hb;have n0_:=mkA (below_step HB.out hb);have GE:=mkA ((by rw [hg];exact below_size HB.out:w.heap.size≤gb));clear HB;have HB:=n0_;have BK:=mkA hbox;clear n0_ hb hbox hg;have hc0:=(HS.out.below HB.out).body))
 go_cut [3,10,12] (fun v3 v10 v12 wc=>∃ (a:Nat) (c k:Int),v3=.int .i64 k∧v10=.int .i32 c∧v12=.int .i64 a∧Aside0 (rn s a=(c,k))∧Aside0 (a≤s.size)∧Aside0 (NoNl p a)∧Aside0 (numAt s p=num1 s a)∧Aside0 (Below w.heap.size w wc)∧Aside0 (wc.heap[gb]?=some (.cells #[.int .i64 0,.int .i64 0,.int .i64 0,.string ⟨#[]⟩] 63 (0,0))))
 case first =>
  by_cases hc:c0=45
  ·have h0:=rn_eq s p (Nat.le_of_lt HP0.out) c0 k0 HR.out 45 (by omega) (by omega)
   obtain ⟨rfl,hlt⟩:=h0.2 hc
   have hx:=h0.1.1 hc
   have HL:=mkA hlt
   have HX:=mkA (⟨HS.out.small,hx⟩:s.size≤2000∧nx s p=45)
   subst hc
   obtain ⟨c,k,hr,c15⟩:=rn_at (HS.out.below HB.out) (p+1) HL.out
   have HR1:=mkA hr
   rw [show ((p+1:Nat):Int)=wrap64 ((p:Int)+1) from (pl1 p (by have:=HSM.out;have:=HP0.out;omega)).symm] at c15
   clear h0 hx hlt hr
   go_wp2_with (first | (go_at_call 129;refine c15.mono ?_;rintro e w3 ⟨rfl,hB⟩;replace HB:=mkA (below_step HB.out hB);replace BK:=mkA (blk_below BK.out hB);clear hB))
   go_meet
   case rel=>exact ⟨p+1,c,k,by first | rfl | simp,by first | rfl | simp,congrArg (Value.int .i64) (pl1 p (by have:=HSM.out;have:=HP0.out;omega)),HR1,⟨HL.out⟩,⟨NoNl.step (show NoNl p p from Nat.le_refl p) HL.out 45 HX.out.2 (by omega) (by omega)⟩,⟨by unfold numAt;rw [if_pos HX.out.2]⟩,HB,BK⟩
  ·have hx:nx s p≠45:=fun e=>hc ((rn_eq s p (Nat.le_of_lt HP0.out) c0 k0 HR.out 45 (by omega) (by omega)).1.2 e)
   have HX:=mkA hx
   have e0:(c0 == 45)=false:=beq_eq_false_iff_ne.mpr hc
   clear hc hx
   go_wp2
   go_meet
   case rel=>exact ⟨p,c0,k0,by first | rfl | simp,by first | rfl | simp,by first | rfl | simp,HR,⟨Nat.le_of_lt HP0.out⟩,⟨Nat.le_refl p⟩,⟨by unfold numAt;rw [if_neg HX.out]⟩,HB,BK⟩
 case rest =>
  clear HB BK HR
  obtain ⟨a,c,k,rfl,rfl,rfl,HR,HA,HN,HM,HB,BK⟩:=hcut
  go_upto_if 40 with (fail)
  go_cut [3,10,12] (fun v3 v10 v12 wc=>∃ (a:Nat) (c k:Int),v3=.int .i64 k∧v10=.int .i32 c∧v12=.int .i64 a∧Aside0 (rn s a=(c,k))∧Aside0 (a≤s.size)∧Aside0 (NoNl p a)∧Aside0 (numAt s p=frac s a)∧Aside0 (Below w.heap.size w wc)∧Aside0 (wc.heap[gb]?=some (.cells #[.int .i64 0,.int .i64 0,.int .i64 0,.string ⟨#[]⟩] 63 (0,0))))
  case first =>
   by_cases hc:c=48
   ·have h0:=rn_eq s a HA.out c k HR.out 48 (by omega) (by omega)
    obtain ⟨rfl,hlt⟩:=h0.2 hc
    have HX:=mkA (h0.1.1 hc)
    have HL:=mkA hlt
    have HNs:=mkA (NoNl.step HN.out hlt 48 HX.out (by omega) (by omega))
    subst hc
    obtain ⟨c1,k1,hr1⟩:∃ c k:Int,rn s (a+1)=(c,k):=⟨_,_,rfl⟩
    have HR1:=mkA hr1
    rcases rn_isd s (a+1) HL.out c1 k1 hr1 with ⟨hd,d1,d2⟩ | ⟨hd,d1⟩
    ·have HD:=mkA hd
     have e1:decide (48≤c1)=true:=decide_eq_true d1
     have e2:decide (c1≤57)=true:=decide_eq_true d2
     clear h0 hlt hr1 hd d1 d2
     go_wp2_with (first | (go_at_call 129;refine (rn_call (HS.out.below HB.out) (a+1) HL.out c1 k1 HR1.out _ (pl1 _ (by have:=HSM.out;have:=HA.out;omega))).mono ?_;rintro e w3 ⟨rfl,hB⟩;replace HB:=mkA (below_step HB.out hB);replace BK:=mkA (blk_below BK.out hB);clear hB) | (go_at_call 101;refine (synErr' (HS.out.below HB.out) (a+1) HL.out _ _ (pl1 _ (by have:=HSM.out;have:=HA.out;omega))).mono ?_;rintro e w4 ⟨⟨gq,rfl⟩,hB⟩;replace HB:=mkA (below_step HB.out hB);replace BK:=mkA (blk_below BK.out hB);clear hB;obtain ⟨hz0,hz1,hz2,hz3,hf0,hf1,hf2,hf3⟩:=tkz BK.out))
     refine bodyPost_ret (results_ct rfl _ _ gb 63 #[.int .i64 0,.int .i64 0,.int .i64 0,.string ⟨#[]⟩] (0,0) _ rfl (by exact tkp BK.out) Tryz.underlying63 rfl (by kernel_rfl)) rfl ?_
     exact ⟨.inl ⟨HM.out.trans (num1_zerr s a HX.out HD.out),gq,rfl⟩,below_set (below_set (below_set (below_set HB.out GE.out) GE.out) GE.out) GE.out⟩
    ·have HD:=mkA hd
     rcases d1 with d1 | ⟨d1,d2⟩
     ·have e1:decide (48≤c1)=false:=decide_eq_false (by omega)
      clear h0 hlt hr1 hd d1
      go_wp2_with (first | (go_at_call 129;refine (rn_call (HS.out.below HB.out) (a+1) HL.out c1 k1 HR1.out _ (pl1 _ (by have:=HSM.out;have:=HA.out;omega))).mono ?_;rintro e w3 ⟨rfl,hB⟩;replace HB:=mkA (below_step HB.out hB);replace BK:=mkA (blk_below BK.out hB);clear hB))
      go_meet
      case rel=>exact ⟨a+1,c1,k1,by first | rfl | simp,by first | rfl | simp,by have:=HSM.out;have:=HA.out;first | rfl | (simp [wrap64];omega),HR1,⟨HL.out⟩,HNs,⟨HM.out.trans (num1_zero s a HX.out HD.out)⟩,HB,BK⟩
     ·have e1:decide (48≤c1)=true:=decide_eq_true d1
      have e2:decide (c1≤57)=false:=decide_eq_false (by omega)
      clear h0 hlt hr1 hd d1 d2
      go_wp2_with (first | (go_at_call 129;refine (rn_call (HS.out.below HB.out) (a+1) HL.out c1 k1 HR1.out _ (pl1 _ (by have:=HSM.out;have:=HA.out;omega))).mono ?_;rintro e w3 ⟨rfl,hB⟩;replace HB:=mkA (below_step HB.out hB);replace BK:=mkA (blk_below BK.out hB);clear hB))
      go_meet
      case rel=>exact ⟨a+1,c1,k1,by first | rfl | simp,by first | rfl | simp,by have:=HSM.out;have:=HA.out;first | rfl | (simp [wrap64];omega),HR1,⟨HL.out⟩,HNs,⟨HM.out.trans (num1_zero s a HX.out HD.out)⟩,HB,BK⟩
   ·have HX:=mkA (show nx s a≠48 from fun e=>hc ((rn_eq s a HA.out c k HR.out 48 (by omega) (by omega)).1.2 e))
    have e0:(c == 48)=false:=beq_eq_false_iff_ne.mpr hc
    clear hc
    cases hd:isD (nx s a) with
    | true =>
      have HD:=mkA hd
      obtain ⟨c1,k1,hr1⟩:∃ c k:Int,rn s (dg s a)=(c,k):=⟨_,_,rfl⟩
      have HR1:=mkA hr1
      clear hd hr1
      go_wp2_with (first | (go_at_call 146;refine (rd_yes' (HS.out.below HB.out) (a) HA.out c k HR.out HD.out _ rfl).mono ?_;rintro e w3 ⟨rfl,hB⟩;replace HB:=mkA (below_step HB.out hB);replace BK:=mkA (blk_below BK.out hB);clear hB) | (go_at_call 129;refine (rn_call (HS.out.below HB.out) (dg s a) (dg_le s a HA.out) c1 k1 HR1.out _ rfl).mono ?_;rintro e w4 ⟨rfl,hB⟩;replace HB:=mkA (below_step HB.out hB);replace BK:=mkA (blk_below BK.out hB);clear hB))
      go_meet
      case rel=>exact ⟨dg s a,c1,k1,by first | rfl | simp,by first | rfl | simp,by first | rfl | simp,HR1,⟨dg_le s a HA.out⟩,⟨NoNl.dg HN.out⟩,⟨HM.out.trans (num1_dig s a HX.out HD.out)⟩,HB,BK⟩
    | false =>
      have HD:=mkA hd
      clear hd
      go_wp2_with (first | (go_at_call 146;refine (rd_no' (HS.out.below HB.out) (a) HA.out c k HR.out HD.out _ rfl).mono ?_;rintro e w3 ⟨⟨gq,rfl⟩,hB⟩;replace HB:=mkA (below_step HB.out hB);replace BK:=mkA (blk_below BK.out hB);clear hB;obtain ⟨hz0,hz1,hz2,hz3,hf0,hf1,hf2,hf3⟩:=tkz BK.out))
      refine bodyPost_ret (results_ct rfl _ _ gb 63 #[.int .i64 0,.int .i64 0,.int .i64 0,.string ⟨#[]⟩] (0,0) _ rfl (by exact tkp BK.out) Tryz.underlying63 rfl (by kernel_rfl)) rfl ?_
      exact ⟨.inl ⟨HM.out.trans (num1_no s a HD.out),gq,rfl⟩,below_set (below_set (below_set (below_set HB.out GE.out) GE.out) GE.out) GE.out⟩
  case rest =>
   clear HB BK HR HA HN HM
   obtain ⟨a,c,k,rfl,rfl,rfl,HR,HA,HN,HM,HB,BK⟩:=hcut
   go_upto_if 82 with (fail)
   go_cut [3,10,12,13] (fun v3 v10 v12 v13 wc=>∃ (a:Nat) (c k:Int) (kd:Bool),v3=.int .i64 k∧v10=.int .i32 c∧v12=.int .i64 a∧v13=.bool kd∧Aside0 (rn s a=(c,k))∧Aside0 (a≤s.size)∧Aside0 (NoNl p a)∧Aside0 (numAt s p=expo s (if kd=true then 17 else 16) a)∧Aside0 (Below w.heap.size w wc)∧Aside0 (wc.heap[gb]?=some (.cells #[.int .i64 0,.int .i64 0,.int .i64 0,.string ⟨#[]⟩] 63 (0,0))))
   case first =>
    by_cases hc:c=46
    ·have h0:=rn_eq s a HA.out c k HR.out 46 (by omega) (by omega)
     obtain ⟨rfl,hlt⟩:=h0.2 hc
     have HX:=mkA (h0.1.1 hc)
     have HL:=mkA hlt
     have HNs:=mkA (NoNl.step HN.out hlt 46 HX.out (by omega) (by omega))
     subst hc
     obtain ⟨c1,k1,hr1⟩:∃ c k:Int,rn s (a+1)=(c,k):=⟨_,_,rfl⟩
     have HR1:=mkA hr1
     have M1:=mkA True.intro
     clear h0 hlt hr1
     cases hd:isD (nx s (a+1)) with
     | true =>
       have HD:=mkA hd
       obtain ⟨c2,k2,hr2⟩:∃ c k:Int,rn s (dg s (a+1))=(c,k):=⟨_,_,rfl⟩
       have HR2:=mkA hr2
       clear hd hr2
       go_wp2_with (first | (go_at_call 129;clear M1;refine (rn_call (HS.out.below HB.out) (a+1) HL.out c1 k1 HR1.out _ (pl1 _ (by have:=HSM.out;have:=HA.out;omega))).mono ?_;rintro e w3 ⟨rfl,hB⟩;replace HB:=mkA (below_step HB.out hB);replace BK:=mkA (blk_below BK.out hB);clear hB) | (go_at_call 129;refine (rn_call (HS.out.below HB.out) (dg s (a+1)) (dg_le s _ HL.out) c2 k2 HR2.out _ rfl).mono ?_;rintro e w5 ⟨rfl,hB⟩;replace HB:=mkA (below_step HB.out hB);replace BK:=mkA (blk_below BK.out hB);clear hB) | (go_at_call 146;refine (rd_yes' (HS.out.below HB.out) (a+1) HL.out c1 k1 HR1.out HD.out _ (pl1 _ (by have:=HSM.out;have:=HA.out;omega))).mono ?_;rintro e w4 ⟨rfl,hB⟩;replace HB:=mkA (below_step HB.out hB);replace BK:=mkA (blk_below BK.out hB);clear hB))
       go_meet
       case rel=>exact ⟨dg s (a+1),c2,k2,true,by first | rfl | simp,by first | rfl | simp,by first | rfl | simp,by first | rfl | simp,HR2,⟨dg_le s _ HL.out⟩,⟨NoNl.dg HNs.out⟩,⟨HM.out.trans (frac_dig s a HX.out HD.out)⟩,HB,BK⟩
     | false =>
       have HD:=mkA hd
       clear hd
       go_wp2_with (first | (go_at_call 129;clear M1;refine (rn_call (HS.out.below HB.out) (a+1) HL.out c1 k1 HR1.out _ (pl1 _ (by have:=HSM.out;have:=HA.out;omega))).mono ?_;rintro e w3 ⟨rfl,hB⟩;replace HB:=mkA (below_step HB.out hB);replace BK:=mkA (blk_below BK.out hB);clear hB) | (go_at_call 146;refine (rd_no' (HS.out.below HB.out) (a+1) HL.out c1 k1 HR1.out HD.out _ (pl1 _ (by have:=HSM.out;have:=HA.out;omega))).mono ?_;rintro e w4 ⟨⟨gq,rfl⟩,hB⟩;replace HB:=mkA (below_step HB.out hB);replace BK:=mkA (blk_below BK.out hB);clear hB;obtain ⟨hz0,hz1,hz2,hz3,hf0,hf1,hf2,hf3⟩:=tkz BK.out))
       refine bodyPost_ret (results_ct rfl _ _ gb 63 #[.int .i64 0,.int .i64 0,.int .i64 0,.string ⟨#[]⟩] (0,0) _ rfl (by exact tkp BK.out) Tryz.underlying63 rfl (by kernel_rfl)) rfl ?_
       exact ⟨.inl ⟨HM.out.trans (frac_err s a HX.out HD.out),gq,rfl⟩,below_set (below_set (below_set (below_set HB.out GE.out) GE.out) GE.out) GE.out⟩
    ·have HX:=mkA (show nx s a≠46 from fun e=>hc ((rn_eq s a HA.out c k HR.out 46 (by omega) (by omega)).1.2 e))
     have e0:(c == 46)=false:=beq_eq_false_iff_ne.mpr hc
     clear hc
     go_wp2
     go_meet
     case rel=>exact ⟨a,c,k,false,by first | rfl | simp,by first | rfl | simp,by first | rfl | simp,by first | rfl | simp,HR,HA,HN,⟨HM.out.trans (frac_no s a HX.out)⟩,HB,BK⟩
   case rest =>
    clear HB BK HR HA HN HM
    obtain ⟨a,c,k,kd,rfl,rfl,rfl,rfl,HR,HA,HN,HM,HB,BK⟩:=hcut
    go_upto_region 28 with (fail)
    go_cut [116] (fun v116 wc=>∃ be:Bool,v116=.bool be∧Aside0 (EX be c)∧Aside0 (Below w.heap.size w wc)∧Aside0 (wc.heap[gb]?=some (.cells #[.int .i64 0,.int .i64 0,.int .i64 0,.string ⟨#[]⟩] 63 (0,0))))
    case first =>
     by_cases hc:c=69
     ·have e0:(c == 69)=true:=beq_iff_eq.mpr hc
      have HE:=mkA (show EX true c from ⟨fun _=>.inl hc,fun _=>rfl⟩)
      clear hc
      go_wp2
      go_meet
      case rel=>exact ⟨true,by first | rfl | simp,HE,HB,BK⟩
     ·have e0:(c == 69)=false:=beq_eq_false_iff_ne.mpr hc
      by_cases hc2:c=101
      ·have e1:(c == 101)=true:=beq_iff_eq.mpr hc2
       have HE:=mkA (show EX true c from ⟨fun _=>.inr hc2,fun _=>rfl⟩)
       clear hc hc2
       go_wp2
       go_meet
       case rel=>exact ⟨true,by first | rfl | simp,HE,HB,BK⟩
      ·have e1:(c == 101)=false:=beq_eq_false_iff_ne.mpr hc2
       have HE:=mkA (show EX false c from ⟨(fun h=>by cases h),fun h=>h.elim (fun h=>absurd h hc) (fun h=>absurd h hc2)⟩)
       clear hc hc2
       go_wp2
       go_meet
       case rel=>exact ⟨false,by first | rfl | simp,HE,HB,BK⟩
    case rest =>
     clear HB BK
     obtain ⟨be,rfl,HE,HB,BK⟩:=hcut
     go_upto_if 116 with (fail)
     go_cut [12,13] (fun v12 v13 wc=>∃ (a:Nat) (kd:Bool),v12=.int .i64 a∧v13=.bool kd∧Aside0 (a≤s.size)∧Aside0 (NoNl p a)∧Aside0 (numAt s p=some (if kd=true then 17 else 16,a))∧Aside0 (Below w.heap.size w wc)∧Aside0 (wc.heap[gb]?=some (.cells #[.int .i64 0,.int .i64 0,.int .i64 0,.string ⟨#[]⟩] 63 (0,0))))
     case first =>
      cases be with
      | true =>
        have hcc:c=69∨c=101:=HE.out.1 rfl
        have h69:=rn_eq s a HA.out c k HR.out 69 (by omega) (by omega)
        have h101:=rn_eq s a HA.out c k HR.out 101 (by omega) (by omega)
        have hk:k=1∧a < s.size∧(nx s a=101∨nx s a=69):=by
         rcases hcc with h | h
         ·exact ⟨(h69.2 h).1,(h69.2 h).2,.inr (h69.1.1 h)⟩
         ·exact ⟨(h101.2 h).1,(h101.2 h).2,.inl (h101.1.1 h)⟩
        obtain ⟨rfl,hlt,hx⟩:=hk
        have HX:=mkA hx
        have HL:=mkA hlt
        clear hcc h69 h101 hlt hx
        have HNs:=mkA (NoNl.step HN.out HL.out _ rfl (by rcases HX.out with h | h <;> omega) (by rcases HX.out with h | h <;> omega))
        obtain ⟨c1,k1,hr1⟩:∃ c k:Int,rn s (a+1)=(c,k):=⟨_,_,rfl⟩
        have HR1:=mkA hr1
        have M1:=mkA True.intro
        clear hr1
        by_cases hs:c1=43∨c1=45
        ·have hs2:k1=1∧a+1 < s.size∧(nx s (a+1)=43∨nx s (a+1)=45):=by
          have g1:=rn_eq s (a+1) HL.out c1 k1 HR1.out 43 (by omega) (by omega)
          have g2:=rn_eq s (a+1) HL.out c1 k1 HR1.out 45 (by omega) (by omega)
          rcases hs with h | h
          ·exact ⟨(g1.2 h).1,(g1.2 h).2,.inl (g1.1.1 h)⟩
          ·exact ⟨(g2.2 h).1,(g2.2 h).2,.inr (g2.1.1 h)⟩
         obtain ⟨rfl,hl2,hx2⟩:=hs2
         have HL2:=mkA hl2
         have HX2:=mkA hx2
         have HNt:=mkA (show NoNl p (a+2) from NoNl.step HNs.out hl2 _ rfl (by rcases hx2 with h | h <;> omega) (by rcases hx2 with h | h <;> omega))
         obtain ⟨c2,k2,hr2⟩:∃ c k:Int,rn s (a+2)=(c,k):=⟨_,_,rfl⟩
         have HR2:=mkA hr2
         clear hr2 hl2 hx2
         cases hd:isD (nx s (a+2)) with
         | true =>
           have HD:=mkA hd
           clear hd
           rcases hs with hs | hs
           all_goals
            subst hs
            go_wp2_with (first | (go_at_call 129;clear M1;refine (rn_call (HS.out.below HB.out) (a+1) HL.out _ _ HR1.out _ (pl1 _ (by have:=HSM.out;have:=HA.out;omega))).mono ?_;rintro e w3 ⟨rfl,hB⟩;replace HB:=mkA (below_step HB.out hB);replace BK:=mkA (blk_below BK.out hB);clear hB) | (go_at_call 129;refine (rn_call (HS.out.below HB.out) (a+2) HL2.out c2 k2 HR2.out _ (by rw [pl1 _ (by have:=HSM.out;have:=HA.out;omega),pl1 _ (by have:=HSM.out;have:=HA.out;omega)])).mono ?_;rintro e w4 ⟨rfl,hB⟩;replace HB:=mkA (below_step HB.out hB);replace BK:=mkA (blk_below BK.out hB);clear hB) | (go_at_call 146;refine (rd_yes' (HS.out.below HB.out) (a+2) HL2.out c2 k2 HR2.out HD.out _ (by rw [pl1 _ (by have:=HSM.out;have:=HA.out;omega),pl1 _ (by have:=HSM.out;have:=HA.out;omega)])).mono ?_;rintro e w5 ⟨rfl,hB⟩;replace HB:=mkA (below_step HB.out hB);replace BK:=mkA (blk_below BK.out hB);clear hB))
            go_meet
            case rel=>exact ⟨dg s (a+2),true,by first | rfl | simp,by first | rfl | simp,⟨dg_le s _ HL2.out⟩,⟨NoNl.dg HNt.out⟩,⟨HM.out.trans (expo_syes s _ a HX.out HX2.out HD.out)⟩,HB,BK⟩
         | false =>
           have HD:=mkA hd
           clear hd
           rcases hs with hs | hs
           all_goals
            subst hs
            go_wp2_with (first | (go_at_call 129;clear M1;refine (rn_call (HS.out.below HB.out) (a+1) HL.out _ _ HR1.out _ (pl1 _ (by have:=HSM.out;have:=HA.out;omega))).mono ?_;rintro e w3 ⟨rfl,hB⟩;replace HB:=mkA (below_step HB.out hB);replace BK:=mkA (blk_below BK.out hB);clear hB) | (go_at_call 129;refine (rn_call (HS.out.below HB.out) (a+2) HL2.out c2 k2 HR2.out _ (by rw [pl1 _ (by have:=HSM.out;have:=HA.out;omega),pl1 _ (by have:=HSM.out;have:=HA.out;omega)])).mono ?_;rintro e w4 ⟨rfl,hB⟩;replace HB:=mkA (below_step HB.out hB);replace BK:=mkA (blk_below BK.out hB);clear hB) | (go_at_call 146;refine (rd_no' (HS.out.below HB.out) (a+2) HL2.out c2 k2 HR2.out HD.out _ (by rw [pl1 _ (by have:=HSM.out;have:=HA.out;omega),pl1 _ (by have:=HSM.out;have:=HA.out;omega)])).mono ?_;rintro e w5 ⟨⟨gq,rfl⟩,hB⟩;replace HB:=mkA (below_step HB.out hB);replace BK:=mkA (blk_below BK.out hB);clear hB;obtain ⟨hz0,hz1,hz2,hz3,hf0,hf1,hf2,hf3⟩:=tkz BK.out))
            refine bodyPost_ret (results_ct rfl _ _ gb 63 #[.int .i64 0,.int .i64 0,.int .i64 0,.string ⟨#[]⟩] (0,0) _ rfl (by exact tkp BK.out) Tryz.underlying63 rfl (by kernel_rfl)) rfl ?_
            exact ⟨.inl ⟨HM.out.trans (expo_sno s _ a HX.out HX2.out HD.out),gq,rfl⟩,below_set (below_set (below_set (below_set HB.out GE.out) GE.out) GE.out) GE.out⟩
        ·have hs2:¬ (nx s (a+1)=43∨nx s (a+1)=45):=by
          have g1:=rn_eq s (a+1) HL.out c1 k1 HR1.out 43 (by omega) (by omega)
          have g2:=rn_eq s (a+1) HL.out c1 k1 HR1.out 45 (by omega) (by omega)
          intro h
          rcases h with h | h
          ·exact hs (.inl (g1.1.2 h))
          ·exact hs (.inr (g2.1.2 h))
         have HX2:=mkA hs2
         have e1:(c1 == 43)=false:=beq_eq_false_iff_ne.mpr (fun e=>hs (.inl e))
         have e2:(c1 == 45)=false:=beq_eq_false_iff_ne.mpr (fun e=>hs (.inr e))
         clear hs hs2
         cases hd:isD (nx s (a+1)) with
         | true =>
           have HD:=mkA hd
           clear hd
           go_wp2_with (first | (go_at_call 129;clear M1;refine (rn_call (HS.out.below HB.out) (a+1) HL.out _ _ HR1.out _ (pl1 _ (by have:=HSM.out;have:=HA.out;omega))).mono ?_;rintro e w3 ⟨rfl,hB⟩;replace HB:=mkA (below_step HB.out hB);replace BK:=mkA (blk_below BK.out hB);clear hB) | (go_at_call 146;refine (rd_yes' (HS.out.below HB.out) (a+1) HL.out c1 _ HR1.out HD.out _ (pl1 _ (by have:=HSM.out;have:=HA.out;omega))).mono ?_;rintro e w5 ⟨rfl,hB⟩;replace HB:=mkA (below_step HB.out hB);replace BK:=mkA (blk_below BK.out hB);clear hB))
           go_meet
           case rel=>exact ⟨dg s (a+1),true,by first | rfl | simp,by first | rfl | simp,⟨dg_le s _ HL.out⟩,⟨NoNl.dg HNs.out⟩,⟨HM.out.trans (expo_nyes s _ a HX.out HX2.out HD.out)⟩,HB,BK⟩
         | false =>
           have HD:=mkA hd
           clear hd
           go_wp2_with (first | (go_at_call 129;clear M1;refine (rn_call (HS.out.below HB.out) (a+1) HL.out _ _ HR1.out _ (pl1 _ (by have:=HSM.out;have:=HA.out;omega))).mono ?_;rintro e w3 ⟨rfl,hB⟩;replace HB:=mkA (below_step HB.out hB);replace BK:=mkA (blk_below BK.out hB);clear hB) | (go_at_call 146;refine (rd_no' (HS.out.below HB.out) (a+1) HL.out c1 _ HR1.out HD.out _ (pl1 _ (by have:=HSM.out;have:=HA.out;omega))).mono ?_;rintro e w5 ⟨⟨gq,rfl⟩,hB⟩;replace HB:=mkA (below_step HB.out hB);replace BK:=mkA (blk_below BK.out hB);clear hB;obtain ⟨hz0,hz1,hz2,hz3,hf0,hf1,hf2,hf3⟩:=tkz BK.out))
           refine bodyPost_ret (results_ct rfl _ _ gb 63 #[.int .i64 0,.int .i64 0,.int .i64 0,.string ⟨#[]⟩] (0,0) _ rfl (by exact tkp BK.out) Tryz.underlying63 rfl (by kernel_rfl)) rfl ?_
           exact ⟨.inl ⟨HM.out.trans (expo_nno s _ a HX.out HX2.out HD.out),gq,rfl⟩,below_set (below_set (below_set (below_set HB.out GE.out) GE.out) GE.out) GE.out⟩
      | false =>
        have hcc:¬ (c=69∨c=101):=fun h=>by have:=HE.out.2 h;cases this
        have HX:=mkA (show nx s a≠69 from fun e=>hcc (.inl ((rn_eq s a HA.out c k HR.out 69 (by omega) (by omega)).1.2 e)))
        have HX2:=mkA (show nx s a≠101 from fun e=>hcc (.inr ((rn_eq s a HA.out c k HR.out 101 (by omega) (by omega)).1.2 e)))
        clear hcc
        go_wp2
        go_meet
        case rel=>exact ⟨a,kd,by first | rfl | simp,by first | rfl | simp,HA,HN,⟨HM.out.trans (expo_no s _ a HX2.out HX.out)⟩,HB,BK⟩
     case rest =>
      clear HB BK HR HA HN HM
      obtain ⟨a,kd,rfl,rfl,HA,HN,HM,HB,BK⟩:=hcut
      have hcv:=conv_bytes (HS.out.below HB.out) p a HN.out HA.out
      have p0:((p:Int)≤(a:Int))=True:=eq_true (by have h:p≤a:=HN.out;omega)
      have p1:((a:Int)≤(cap:Int))=True:=eq_true (by have:=HA.out;have:=HC.out;omega)
      have p2:(p≤a)=True:=eq_true HN.out
      have p3:(a≤cap)=True:=eq_true (by have:=HA.out;have:=HC.out;omega)
      have p4:(cap=p)=False:=eq_false (by have:=HP0.out;have:=HC.out;omega)
      cases kd with
      | true =>
        go_wp2_with (first | (go_at_call 128;refine (makeToken_walk 17 (p:Int) (a:Int) (s.extract p a) _).mono ?_;rintro e w6 ⟨rfl,hB⟩;replace HB:=mkA (below_step HB.out hB);replace BK:=mkA (blk_below BK.out hB);clear hB;obtain ⟨hz0,hz1,hz2,hz3,hf0,hf1,hf2,hf3⟩:=tkz BK.out))
        have HM':numAt s p=some (17,a):=HM.out
        refine bodyPost_ret (results_ct rfl _ _ gb 63 #[.int .i64 17,.int .i64 p,.int .i64 a,.string (s.extract p a)] (0,0) _ rfl (by exact tkp BK.out) Tryz.underlying63 rfl (by kernel_rfl)) rfl ?_
        exact ⟨.inr ⟨17,a,HM',HA.out,rfl⟩,below_set (below_set (below_set (below_set HB.out GE.out) GE.out) GE.out) GE.out⟩
      | false =>
        go_wp2_with (first | (go_at_call 128;refine (makeToken_walk 16 (p:Int) (a:Int) (s.extract p a) _).mono ?_;rintro e w6 ⟨rfl,hB⟩;replace HB:=mkA (below_step HB.out hB);replace BK:=mkA (blk_below BK.out hB);clear hB;obtain ⟨hz0,hz1,hz2,hz3,hf0,hf1,hf2,hf3⟩:=tkz BK.out))
        have HM':numAt s p=some (16,a):=HM.out
        refine bodyPost_ret (results_ct rfl _ _ gb 63 #[.int .i64 16,.int .i64 p,.int .i64 a,.string (s.extract p a)] (0,0) _ rfl (by exact tkp BK.out) Tryz.underlying63 rfl (by kernel_rfl)) rfl ?_
        exact ⟨.inr ⟨16,a,HM',HA.out,rfl⟩,below_set (below_set (below_set (below_set HB.out GE.out) GE.out) GE.out) GE.out⟩
end Go.Proofs.YthgcghpcikbnkaaGreatDoor.R
