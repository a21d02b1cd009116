/- A part of the proof of the theorem of this claim: Bsv. No condition of its own. -/
import Derived.Test.YthgcghpcikbnkaaGreatDoorC31
import Derived.Test.YthgcghpcikbnkaaGreatDoorC24
import Derived.Test.YthgcghpcikbnkaaGreatDoorB27
import Derived.Test.YthgcghpcikbnkaaGreatDoorB28
set_option maxHeartbeats 16000000
set_option maxRecDepth 100000
namespace Go.Proofs.YthgcghpcikbnkaaGreatDoor.R
open Go.RowKit Go.Proofs.YthgcghpcikbnkaaGreatDoor.PblockStringValue Go.Proofs.YthgcghpcikbnkaaGreatDoor.PFnReadVariables Go.Proofs.YthgcghpcikbnkaaGreatDoorW.PrintWords Go.Proofs.YthgcghpcikbnkaaGreatDoorW.PrintLast Go.Proofs.YthgcghpcikbnkaaGreatDoorW.PrintMore
set_option linter.unusedVariables false
set_option linter.unusedSimpArgs false
theorem ext_size (s:ByteArray) (a b:Nat):(s.extract a b).size≤s.size:=by rw [ByteArray.size_extract];omega
theorem lines_both (s:ByteArray) (hs:s.size≤2002) (d:Nat):∀ (k:Nat) (acc:List ByteArray) (fr i:Nat),fr≤i→i≤s.size→s.size - i≤d→2 * d+2≤k→acc.length+d≤2003 →
 ∃ L,spec_Lines.l0 k s acc fr i=some (acc++L)∧lexer_zzLines.l0 k s acc fr i=some (acc++L)∧0 < L.length∧L.length≤d+1∧∀ x ∈ L,x.size≤s.size:=by
 induction d with
 | zero =>
   intro k acc fr i h0 h1 h2 hk ha
   obtain ⟨k,rfl⟩:∃ m,k=m+1:=⟨k - 1,by omega⟩
   refine ⟨[s.extract fr s.size],?_,?_,by simp,by simp,by simp [ByteArray.size_extract]⟩
   ·simp only [spec_Lines.l0]
    rw [if_neg (by omega),if_pos (by omega),if_pos (by omega),if_pos (by omega)]
    simp
   ·simp only [lexer_zzLines.l0]
    rw [if_neg (by omega),if_pos (by omega),if_pos (by omega),if_pos (by omega)]
    simp
 | succ d ih =>
   intro k acc fr i h0 h1 h2 hk ha
   obtain ⟨k,rfl⟩:∃ m,k=m+2:=⟨k - 2,by omega⟩
   by_cases hlt:i < s.size
   ·have e1:wrap64 ((i:Int)+1)=((i+1:Nat):Int):=by unfold wrap64;omega
    have e2:wrap64 (((i+1:Nat):Int)+1)=((i+2:Nat):Int):=by unfold wrap64;omega
    have next:∀ j:Nat,i < j→j≤s.size→∃ L,spec_Lines.l0 k s (acc++[s.extract fr i]) j j=some (acc++L)∧lexer_zzLines.l0 k s (acc++[s.extract fr i]) j j=some (acc++L)∧0 < L.length∧L.length≤d+1+1∧∀ x ∈ L,x.size≤s.size:=by
     intro j hj1 hj2
     obtain ⟨L,a,b,c,e,f⟩:=ih k (acc++[s.extract fr i]) j j (Nat.le_refl _) hj2 (by omega) (by omega) (by simp;omega)
     refine ⟨s.extract fr i :: L,by rw [a];simp,by rw [b];simp,by simp,by simp;omega,?_⟩
     intro x hx
     rcases List.mem_cons.1 hx with rfl | hx
     ·exact ext_size _ _ _
     ·exact f x hx
    by_cases c10:bt s (i:Int)=10
    ·obtain ⟨L,a,b,hL⟩:=next (i+1) (by omega) (by omega)
     refine ⟨L,?_,?_,hL⟩
     ·simp only [spec_Lines.l0,spec_Lines.j1]
      rw [if_pos (by omega),if_pos (by omega),if_pos c10]
      simp only [Bool.false_eq_true,if_false,Option.bind_some,Int.toNat_natCast]
      rw [if_pos (by omega),if_pos (by omega),if_pos (by omega),if_pos (by omega),if_pos (by omega),if_pos (by omega),if_neg (by omega),e1]
      exact a
     ·simp only [lexer_zzLines.l0,lexer_zzLines.j1]
      rw [if_pos (by omega),if_pos (by omega),if_neg (by omega)]
      have hb:(bt s (i:Int) != 10)=false:=by simp [c10]
      rw [hb]
      simp only [Bool.false_eq_true,if_false,Option.bind_some,Int.toNat_natCast]
      rw [if_pos (by omega),if_pos (by omega),if_pos (by omega),if_pos (by omega),if_pos (by omega),if_pos (by omega),if_neg (by omega),e1]
      exact b
    ·by_cases c13:bt s (i:Int)=13
     ·have hb:(bt s (i:Int) != 13)=false:=by simp [c13]
      by_cases hi1:i+1 < s.size
      ·by_cases hc:bt s ((i+1:Nat):Int)=10
       ·obtain ⟨L,a,b,hL⟩:=next (i+2) (by omega) (by omega)
        refine ⟨L,?_,?_,hL⟩
        ·simp only [spec_Lines.l0,spec_Lines.j1]
         rw [if_pos (by omega),if_pos (by omega),if_neg c10,hb]
         simp only [Bool.false_eq_true,if_false,Option.bind_some,Int.toNat_natCast,e1,e2]
         rw [if_pos (by omega),if_pos (by omega),if_pos (by omega),if_pos (by omega),if_pos (by omega),if_pos (by omega),if_pos c13,if_pos (by omega),if_pos (by omega),if_pos hc]
         exact a
        ·simp only [lexer_zzLines.l0,lexer_zzLines.j1]
         rw [if_pos (by omega),if_pos (by omega),if_pos c13]
         simp only [Bool.false_eq_true,if_false,Option.bind_some,Int.toNat_natCast,e1,e2]
         rw [if_pos (by omega),if_pos (by omega),if_pos (by omega),if_pos (by omega),if_pos (by omega),if_pos (by omega),if_pos (by omega),if_pos (by omega),if_pos hc]
         exact b
       ·obtain ⟨L,a,b,hL⟩:=next (i+1) (by omega) (by omega)
        refine ⟨L,?_,?_,hL⟩
        ·simp only [spec_Lines.l0,spec_Lines.j1]
         rw [if_pos (by omega),if_pos (by omega),if_neg c10,hb]
         simp only [Bool.false_eq_true,if_false,Option.bind_some,Int.toNat_natCast,e1,e2]
         rw [if_pos (by omega),if_pos (by omega),if_pos (by omega),if_pos (by omega),if_pos (by omega),if_pos (by omega),if_pos c13,if_pos (by omega),if_pos (by omega),if_neg hc]
         exact a
        ·simp only [lexer_zzLines.l0,lexer_zzLines.j1]
         rw [if_pos (by omega),if_pos (by omega),if_pos c13]
         simp only [Bool.false_eq_true,if_false,Option.bind_some,Int.toNat_natCast,e1,e2]
         rw [if_pos (by omega),if_pos (by omega),if_pos (by omega),if_pos (by omega),if_pos (by omega),if_pos (by omega),if_pos (by omega),if_pos (by omega),if_neg hc]
         exact b
      ·obtain ⟨L,a,b,hL⟩:=next (i+1) (by omega) (by omega)
       refine ⟨L,?_,?_,hL⟩
       ·simp only [spec_Lines.l0,spec_Lines.j1]
        rw [if_pos (by omega),if_pos (by omega),if_neg c10,hb]
        simp only [Bool.false_eq_true,if_false,Option.bind_some,Int.toNat_natCast,e1,e2]
        rw [if_pos (by omega),if_pos (by omega),if_pos (by omega),if_pos (by omega),if_pos (by omega),if_pos (by omega),if_pos c13,if_neg (by omega)]
        exact a
       ·simp only [lexer_zzLines.l0,lexer_zzLines.j1]
        rw [if_pos (by omega),if_pos (by omega),if_pos c13]
        simp only [Bool.false_eq_true,if_false,Option.bind_some,Int.toNat_natCast,e1,e2]
        rw [if_pos (by omega),if_pos (by omega),if_pos (by omega),if_pos (by omega),if_pos (by omega),if_pos (by omega),if_pos (by omega),if_neg (by omega)]
        exact b
     ·have hb:(bt s (i:Int) != 13)=true:=by simp [c13]
      have hb':(bt s (i:Int) != 10)=true:=by simp [c10]
      obtain ⟨L,a,b,c,e,f⟩:=ih k acc fr (i+1) (by omega) (by omega) (by omega) (by omega) (by omega)
      refine ⟨L,?_,?_,c,by omega,f⟩
      ·simp only [spec_Lines.l0,spec_Lines.j1]
       rw [if_pos (by omega),if_pos (by omega),if_neg c10,hb,if_pos rfl,e1]
       exact a
      ·simp only [lexer_zzLines.l0,lexer_zzLines.j1]
       rw [if_pos (by omega),if_pos (by omega),if_neg c13,hb',if_pos rfl,e1]
       exact b
   ·obtain ⟨L,a,b,c,e,f⟩:=ih (k+2) acc fr i h0 h1 (by omega) (by omega) (by omega)
    exact ⟨L,a,b,c,by omega,f⟩
theorem lead_all (l:List UInt8):lead l=l.length ↔ ∀ b ∈ l,b=32∨b=9:=by
 induction l with
 | nil=>simp [lead]
 | cons c t ih =>
   have:=lead_le t
   simp only [lead,List.length_cons,List.mem_cons,forall_eq_or_imp]
   split
   ·rename_i h
    simp [h,← ih]
   ·rename_i h
    simp [h]
theorem bblank_iff (x:ByteArray):bblank x=true ↔ ∀ b ∈ x.data.toList,b=32∨b=9:=by
 rw [← lead_all]
 unfold bblank
 rw [beq_iff_eq]
 simp only [Array.length_toList]
 show (lead x.data.toList:Int)=(x.data.size:Int) ↔ _
 omega
theorem bblank_cut (x:ByteArray) (a b:Nat) (h:bblank x=true):bblank (x.extract a b)=true:=by
 rw [bblank_iff] at h ⊢
 intro c hc
 apply h
 rw [ByteArray.data_extract,Array.toList_extract,List.extract_eq_take_drop] at hc
 exact List.mem_of_mem_drop (List.mem_of_mem_take hc)
theorem extract_all (x:ByteArray):x.extract 0 x.size=x:=by
 apply ByteArray.ext
 apply Array.ext'
 rw [ByteArray.data_extract,Array.toList_extract,List.extract_eq_take_drop]
 simp
 exact List.take_of_length_le (by simp)
theorem size_zero (x:ByteArray) (h:x.size=0):x=⟨#[]⟩:=by
 apply ByteArray.ext
 apply Array.ext'
 exact List.eq_nil_of_length_eq_zero (by simpa using h)
theorem bcm_ge (t:List ByteArray):∀ c:Int,-1≤c→-1≤bcm c t:=by
 induction t with
 | nil=>intro c h;exact h
 | cons x t ih=>intro c h;unfold bcm;split;exact ih _ (by omega);exact ih _ h
theorem bcm_le (t:List ByteArray):∀ c:Int,-1≤c→(c≠-1→bcm c t≤c∧bcm c t≠-1)∧∀ x ∈ t,lead x.data.toList < x.size→bcm c t≤(lead x.data.toList:Int):=by
 induction t with
 | nil=>intro c h;exact ⟨fun h1=>⟨Int.le_refl _,h1⟩,by simp⟩
 | cons y t ih =>
   intro c h
   unfold bcm
   split
   ·rename_i hc
    obtain ⟨a,b⟩:=ih (lead y.data.toList:Int) (by omega)
    have a':=a (by omega)
    refine ⟨fun h1=>⟨by omega,a'.2⟩,?_⟩
    intro x hx hl
    rcases List.mem_cons.1 hx with rfl | hx
    ·exact a'.1
    ·exact b x hx hl
   ·rename_i hc
    obtain ⟨a,b⟩:=ih c h
    refine ⟨a,?_⟩
    intro x hx hl
    rcases List.mem_cons.1 hx with rfl | hx
    ·have:c≠-1:=fun e=>hc ⟨by omega,.inl e⟩
     have:¬ (lead x.data.toList:Int) < c:=fun e=>hc ⟨by omega,.inr e⟩
     have:=(a ‹_›).1
     omega
    ·exact b x hx hl
def scut (n:Int) (x:ByteArray):ByteArray:=x.extract (mn n (x.size:Int)).toNat x.size
def ssl (L:List ByteArray):List ByteArray:=match L with
 | []=>[]
 | h :: T=>btail ((h :: T.map (scut (mx (bcm (-1) T) 0))).dropWhile bblank)
def Sure (L:List ByteArray):Prop:=match L with
 | []=>True
 | h :: T=>(mx (bcm (-1) T) 0 > 0→bblank h=true)∧∀ x ∈ T,bblank x=true→0 < x.size→¬ (x.size:Int) < mx (bcm (-1) T) 0
theorem same_lines (L:List ByteArray) (hs:Sure L):bsl L=ssl L:=by
 cases L with
 | nil=>rfl
 | cons h T =>
   obtain ⟨h1,h2⟩:=hs
   unfold bsl ssl
   simp only [List.drop_succ_cons,List.drop_zero]
   have hg:=bcm_ge T (-1) (Int.le_refl _)
   obtain ⟨_,hle⟩:=bcm_le T (-1) (Int.le_refl _)
   generalize bcm (-1) T=c at *
   by_cases hc:c > 0
   ·have em:mx c 0=c:=by unfold mx;rw [if_neg (by omega)]
    rw [em] at h1 h2
    rw [em,if_pos hc]
    have hb:=h1 hc
    have hb':bblank (bcut c h)=true:=by unfold bcut;split;exact hb;exact bblank_cut _ _ _ hb
    rw [List.map_cons,List.dropWhile_cons,List.dropWhile_cons,hb,hb']
    simp only [if_true]
    congr 2
    apply List.map_congr_left
    intro x hx
    unfold bcut scut mn
    by_cases hx1:c > (x.size:Int)
    ·rw [if_pos hx1,if_pos (by omega)]
     have hx0:x.size=0:=by
      by_cases hbx:bblank x=true
      ·have:=h2 x hx hbx;omega
      ·have hl:lead x.data.toList < x.size:=by
        have:=lead_size x
        have:¬ (lead x.data.toList:Int)=(x.size:Int):=fun e=>hbx (by unfold bblank;rw [beq_iff_eq];exact e)
        omega
       have:=hle x hx hl
       have:=lead_size x
       omega
     have:=size_zero x hx0
     subst this
     rfl
    ·rw [if_neg hx1,if_neg (by omega)]
   ·have em:mx c 0=0:=by unfold mx;split <;> omega
    rw [em,if_neg hc]
    congr 2
    symm
    have:∀ x ∈ T,scut 0 x=x:=by
     intro x hx
     unfold scut mn
     rw [if_neg (by omega)]
     exact extract_all x
    rw [List.map_congr_left this]
    simp
theorem lead_l0 (s:ByteArray) (hs:s.size≤2002) (d:Nat):∀ (k i:Nat),i≤s.size→s.size - i=d→d < k→spec_leading.l0 k s i=some ((i+lead (s.data.toList.drop i):Nat):Int):=by
 induction d with
 | zero =>
   intro k i h1 hd hk
   obtain ⟨k,rfl⟩:∃ m,k=m+1:=⟨k - 1,by omega⟩
   simp only [spec_leading.l0]
   rw [if_neg (by omega),List.drop_eq_nil_of_le (by simp;omega)]
   simp [lead]
 | succ d ih =>
   intro k i h1 hd hk
   obtain ⟨k,rfl⟩:∃ m,k=m+1:=⟨k - 1,by omega⟩
   have hlt:i < s.size:=by omega
   have hb:bt s (i:Int)=(s[i].toNat:Int):=by simp [bt,hlt]
   have e1:wrap64 ((i:Int)+1)=((i+1:Nat):Int):=by unfold wrap64;omega
   have ih':=ih k (i+1) (by omega) (by omega) (by omega)
   simp only [spec_leading.l0]
   rw [if_pos (by omega),if_pos (by omega),hb,e1,lead_drop s i hlt,ih']
   have c32:=u8eq s[i] 32 (by omega)
   have c9:=u8eq s[i] 9 (by omega)
   by_cases h:((s[i].toNat:Int)=32)
   ·rw [if_pos h,if_pos (.inl (c32.1 h))];congr 2;omega
   ·rw [if_neg h]
    by_cases h9:((s[i].toNat:Int)=9)
    ·rw [if_pos h9,if_pos (.inr (c9.1 h9))];congr 2;omega
    ·rw [if_neg h9,if_neg (fun hh=>hh.elim (fun e=>h (c32.2 e)) (fun e=>h9 (c9.2 e)))]
     simp
theorem lead_f (s:ByteArray) (hs:s.size≤2002) (k:Nat) (hk:2003≤k):spec_leading.f k s=some (lead s.data.toList:Int):=by
 have:=lead_l0 s hs s.size k 0 (by omega) (by omega) (by omega)
 unfold spec_leading.f
 simpa using this
theorem rd_at (L:List ByteArray) (i:Nat) (h:i < L.length):rdOf ByteArray.empty L (i:Int)=L[i]:=by
 simp [rdOf,List.getD_eq_getElem?_getD,h]
theorem common_l0 (L:List ByteArray) (hs:∀ x ∈ L,x.size≤2002) (hl:L.length≤4000) (d:Nat):∀ (k i:Nat) (c:Int),i≤L.length→L.length - i=d→d+2003 < k→-1≤c →
 spec_common.l0 k L c i=some (mx (bcm c (L.drop i)) 0):=by
 induction d with
 | zero =>
   intro k i c h1 hd hk hc
   obtain ⟨k,rfl⟩:∃ m,k=m+1:=⟨k - 1,by omega⟩
   simp only [spec_common.l0]
   rw [if_neg (by omega),List.drop_eq_nil_of_le (by omega)];rfl
 | succ d ih =>
   intro k i c h1 hd hk hc
   obtain ⟨k,rfl⟩:∃ m,k=m+1:=⟨k - 1,by omega⟩
   have hlt:i < L.length:=by omega
   have e1:wrap64 ((i:Int)+1)=((i+1:Nat):Int):=by unfold wrap64;omega
   have hx:=hs L[i] (List.getElem_mem hlt)
   simp only [spec_common.l0]
   rw [if_pos (by omega),if_pos (by omega),rd_at L i hlt,lead_f _ hx k (by omega),List.drop_eq_getElem_cons hlt,e1]
   simp only [Option.bind_some]
   generalize L[i]=x at *
   have i1:=fun c hc=>ih k (i+1) c (by omega) (by omega) (by omega) hc
   by_cases a1:(lead x.data.toList:Int) < (x.size:Int)
   ·rw [if_pos a1]
    by_cases a2:c < 0
    ·rw [if_pos a2,bcm_pos ⟨a1,.inl (by omega)⟩,i1 _ (by omega)]
    ·rw [if_neg a2]
     by_cases a3:(lead x.data.toList:Int) < c
     ·rw [if_pos a3,bcm_pos ⟨a1,.inr a3⟩,i1 _ (by omega)]
     ·rw [if_neg a3,bcm_neg (fun h=>by omega),i1 _ hc]
   ·rw [if_neg a1,bcm_neg (fun h=>by omega),i1 _ hc]
theorem common_f (h:ByteArray) (T:List ByteArray) (hs:∀ x ∈ h :: T,x.size≤2002) (hl:(h :: T).length≤4000) (k:Nat) (hk:7000≤k):spec_common.f k (h :: T)=some (mx (bcm (-1) T) 0):=by
 have:=common_l0 (h :: T) hs hl ((h :: T).length - 1) k 1 (-1) (by simp) rfl (by omega) (by omega)
 exact this
theorem blank_lead (x:ByteArray):((lead x.data.toList:Int)=(x.size:Int)) ↔ bblank x=true:=by unfold bblank;rw [beq_iff_eq]
theorem lens_le (X:List (List UInt8)) (n:Nat) (h:∀ x ∈ X,x.length≤n):Lib.lens X≤X.length * n:=by
 induction X with
 | nil=>simp [Lib.lens]
 | cons x X ih =>
   have h1:=ih fun y hy=>h y (List.mem_cons_of_mem _ hy)
   have h2:=h x (List.mem_cons_self)
   simp only [Lib.lens,List.map_cons,List.sum_cons,List.length_cons] at h1 ⊢
   rw [Nat.succ_mul]
   omega
def jn (X:List ByteArray):List UInt8:=Lib.join (X.map (·.data.toList)) [10]
theorem jn_nil:jn []=[]:=rfl
theorem jn_snoc (X:List ByteArray) (x:ByteArray) (h:X≠[]):jn (X++[x])=jn X++[10]++x.data.toList:=by
 unfold jn
 cases X with
 | nil=>exact absurd rfl h
 | cons y t =>
   rw [List.map_append,List.map_cons,List.cons_append,Lib.join_cons,Lib.join_cons]
   have:=Lib.joinTail_take_succ [10] (t.map (·.data.toList)++[x.data.toList]) t.length x.data.toList (by simp)
   rw [List.take_of_length_le (by simp),List.take_append_of_le_length (by simp),List.take_of_length_le (by simp)] at this
   simp only [List.map_cons,List.map_nil]
   rw [this]
   simp
theorem jn_one (x:ByteArray):jn [x]=x.data.toList:=by unfold jn;simp [Lib.join_one]
theorem jn_len (X:List ByteArray) (hl:X.length≤4000) (hs:∀ x ∈ X,x.size≤2002):(jn X).length≤8012000:=by
 unfold jn
 cases X with
 | nil=>simp [Lib.join_nil]
 | cons y t =>
   rw [List.map_cons,Lib.join_length]
   have:=lens_le ((y :: t).map (·.data.toList)) 2002 (by
    intro x hx
    obtain ⟨z,hz,rfl⟩:=List.mem_map.1 hx
    have:=hs z hz
    simpa using this)
   simp only [List.map_cons,List.length_cons,List.length_map,List.length_nil] at this hl ⊢
   omega
theorem jn_take (X:List ByteArray) (i:Nat):(jn (X.take i)).length≤(jn X).length:=by
 unfold jn
 cases X with
 | nil=>simp
 | cons y t =>
   cases i with
   | zero=>simp [Lib.join_nil]
   | succ i =>
     rw [List.take_succ_cons,List.map_cons,List.map_cons,Lib.join_cons,Lib.join_cons,List.length_append,List.length_append]
     have:=Lib.joinTail_take_le [10] (t.map (·.data.toList)) i
     rw [← List.map_take] at this
     omega
theorem app_data (a b:ByteArray):(a++b).data.toList=a.data.toList++b.data.toList:=by simp
theorem size_len (a:ByteArray):a.size=a.data.toList.length:=by simp
theorem bv_l3 (X:List ByteArray) (hl:X.length≤4000) (hs:∀ x ∈ X,x.size≤2002) (d:Nat):∀ (k i:Nat) (out:ByteArray),i≤X.length→X.length - i=d→d < k→out.data.toList=jn (X.take i) →
 ∃ r,spec_BlockValue.l3 k X out i=some r∧r.data.toList=jn X:=by
 induction d with
 | zero =>
   intro k i out h1 hd hk ho
   obtain ⟨k,rfl⟩:∃ m,k=m+1:=⟨k - 1,by omega⟩
   refine ⟨out,?_,?_⟩
   ·simp only [spec_BlockValue.l3];rw [if_neg (by omega)]
   ·rw [ho,List.take_of_length_le (by omega)]
 | succ d ih =>
   intro k i out h1 hd hk ho
   obtain ⟨k,rfl⟩:∃ m,k=m+1:=⟨k - 1,by omega⟩
   have hlt:i < X.length:=by omega
   have e1:wrap64 ((i:Int)+1)=((i+1:Nat):Int):=by unfold wrap64;omega
   have hx:=hs X[i] (List.getElem_mem hlt)
   have hol:out.size≤8012000:=by
    rw [size_len,ho]
    exact Nat.le_trans (jn_take X i) (jn_len X hl hs)
   have ht:X.take (i+1)=X.take i++[X[i]]:=List.take_succ_eq_append_getElem hlt
   simp only [spec_BlockValue.l3]
   rw [if_pos (by omega),rd_at X i hlt,e1]
   have s10:(⟨#[10]⟩:ByteArray).size=1:=rfl
   by_cases h0:i=0
   ·subst h0
    rw [if_neg (by omega),if_pos (by omega),if_pos (by omega)]
    refine ih k (0+1) _ (by omega) (by omega) (by omega) ?_
    rw [app_data,ho,ht]
    simp [jn_one,jn_nil]
   ·have hsz:(out++(⟨#[10]⟩:ByteArray)).size=out.size+1:=by rw [ByteArray.size_append];rfl
    rw [if_pos (by omega),if_pos (by omega),if_pos (by omega),if_pos (by omega)]
    refine ih k (i+1) _ (by omega) (by omega) (by omega) ?_
    rw [app_data,app_data,ho,ht,jn_snoc _ _ (by intro e;have:=congrArg List.length e;rw [List.length_take,List.length_nil] at this;omega)]
theorem bv_l2 (n:Nat):∀ (X:List ByteArray),X.length=n→X.length≤4000→(∀ x ∈ X,x.size≤2002)→∀ k,n+8000≤k→∃ r,spec_BlockValue.l2 k X=some r∧r.data.toList=jn (btail X):=by
 induction n with
 | zero =>
   intro X hX hl hs k hk
   obtain rfl:X=[]:=List.eq_nil_of_length_eq_zero hX
   obtain ⟨k,rfl⟩:∃ m,k=m+2:=⟨k - 2,by omega⟩
   obtain ⟨r,h1,h2⟩:=bv_l3 [] (by simp) (by simp) 0 k 0 ⟨#[]⟩ (by simp) rfl (by omega) rfl
   refine ⟨r,?_,h2⟩
   simp only [spec_BlockValue.l2,spec_BlockValue.j4]
   rw [if_neg (by simp)]
   exact h1
 | succ n ih =>
   intro X hX hl hs k hk
   rcases List.eq_nil_or_concat X with rfl | ⟨Y,y,rfl⟩
   ·simp at hX
   rw [List.concat_eq_append] at *
   have hY:Y.length=n:=by simpa using hX
   obtain ⟨k,rfl⟩:∃ m,k=m+2:=⟨k - 2,by omega⟩
   have hlen:(Y++[y]).length=n+1:=hX
   have e1:wrap64 (((Y++[y]).length:Int) - 1)=(n:Int):=by rw [hlen];unfold wrap64;omega
   have ey:rdOf ByteArray.empty (Y++[y]) (n:Int)=y:=by rw [rd_at _ _ (by omega)];simp [hY]
   have hy:=hs y (by simp)
   simp only [spec_BlockValue.l2]
   rw [e1,ey,if_pos (by omega),if_pos (by omega),if_pos (by omega),lead_f y hy (k+1) (by omega)]
   simp only [Option.bind_some,Int.toNat_natCast]
   by_cases hb:bblank y=true
   ·rw [if_pos ((blank_lead y).2 hb),if_pos (by omega),List.take_append_of_le_length (by omega),List.take_of_length_le (by omega),btail_snoc_blank _ _ hb]
    exact ih Y hY (by omega) (fun x hx=>hs x (by simp [hx])) (k+1) (by omega)
   ·rw [if_neg (fun h=>hb ((blank_lead y).1 h)),btail_snoc_not _ _ (by simpa using hb)]
    simp only [spec_BlockValue.j4]
    exact bv_l3 (Y++[y]) hl hs _ k 0 ⟨#[]⟩ (by omega) rfl (by omega) rfl
theorem bv_l1 (n:Nat):∀ (X:List ByteArray),X.length=n→X.length≤4000→(∀ x ∈ X,x.size≤2002)→∀ k,n+13000≤k→∃ r,spec_BlockValue.l1 k X=some r∧r.data.toList=jn (btail (X.dropWhile bblank)):=by
 induction n with
 | zero =>
   intro X hX hl hs k hk
   obtain rfl:X=[]:=List.eq_nil_of_length_eq_zero hX
   obtain ⟨k,rfl⟩:∃ m,k=m+2:=⟨k - 2,by omega⟩
   obtain ⟨r,h1,h2⟩:=bv_l2 0 [] rfl (by simp) (by simp) k (by omega)
   refine ⟨r,?_,h2⟩
   simp only [spec_BlockValue.l1,spec_BlockValue.j2]
   rw [if_neg (by simp)]
   exact h1
 | succ n ih =>
   intro X hX hl hs k hk
   cases X with
   | nil=>simp at hX
   | cons y Y =>
     have hY:Y.length=n:=by simpa using hX
     have hlen:(y :: Y).length=n+1:=hX
     obtain ⟨k,rfl⟩:∃ m,k=m+2:=⟨k - 2,by omega⟩
     have ey:rdOf ByteArray.empty (y :: Y) 0=y:=rfl
     have hy:=hs y (by simp)
     simp only [spec_BlockValue.l1]
     rw [ey,if_pos (by omega),if_pos (by omega),lead_f y hy (k+1) (by omega)]
     simp only [Option.bind_some]
     by_cases hb:bblank y=true
     ·rw [if_pos ((blank_lead y).2 hb),if_pos (by omega),List.dropWhile_cons,if_pos hb]
      exact ih Y hY (by omega) (fun x hx=>hs x (by simp [hx])) (k+1) (by omega)
     ·rw [if_neg (fun h=>hb ((blank_lead y).1 h)),List.dropWhile_cons,if_neg hb]
      simp only [spec_BlockValue.j2]
      exact bv_l2 (n+1) (y :: Y) hX hl hs k (by omega)
def smix (c:Int) (h:ByteArray) (T:List ByteArray) (j:Nat):List ByteArray:=h :: ((T.take j).map (scut c)++T.drop j)
theorem smix_len (c:Int) (h:ByteArray) (T:List ByteArray) (j:Nat) (hj:j≤T.length):(smix c h T j).length=T.length+1:=by simp [smix];omega
theorem smix_get (c:Int) (h:ByteArray) (T:List ByteArray) (j:Nat) (hj:j < T.length):rdOf ByteArray.empty (smix c h T j) ((j+1:Nat):Int)=T[j]:=by
 unfold rdOf smix
 have hl:((T.take j).map (scut c)).length=j:=by simp;omega
 rw [Int.toNat_natCast,List.getD_eq_getElem?_getD,List.getElem?_cons_succ,List.getElem?_append_right (by omega),hl,Nat.sub_self,List.getElem?_drop]
 simp [hj]
theorem smix_set (c:Int) (h:ByteArray) (T:List ByteArray) (j:Nat) (hj:j < T.length):(smix c h T j).set (j+1) (scut c T[j])=smix c h T (j+1):=by
 unfold smix
 have hl:((T.take j).map (scut c)).length=j:=by simp;omega
 rw [List.set_cons_succ,List.drop_eq_getElem_cons hj,List.set_append_right _ _ (by omega),hl,Nat.sub_self,List.take_succ_eq_append_getElem hj,List.map_append,List.append_assoc]
 rfl
theorem scut_size (c:Int) (x:ByteArray):(scut c x).size≤x.size:=by unfold scut;rw [ByteArray.size_extract];omega
theorem bv_l0 (c:Int) (hc:0≤c) (h:ByteArray) (T:List ByteArray) (hl:T.length < 4000) (hs:∀ x ∈ h :: T,x.size≤2002) (d:Nat):∀ (k j:Nat),j≤T.length→T.length - j=d→d+17100≤k →
 ∃ r,spec_BlockValue.l0 k (smix c h T j) c ((j+1:Nat):Int)=some r∧r.data.toList=jn (btail ((h :: T.map (scut c)).dropWhile bblank)):=by
 induction d with
 | zero =>
   intro k j h1 hd hk
   obtain ⟨k,rfl⟩:∃ m,k=m+1:=⟨k - 1,by omega⟩
   have hm:=smix_len c h T j h1
   have e:smix c h T j=h :: T.map (scut c):=by
    unfold smix;rw [List.take_of_length_le (by omega),List.drop_eq_nil_of_le (by omega)];simp
   simp only [spec_BlockValue.l0]
   rw [if_neg (by omega),e]
   refine bv_l1 (T.length+1) _ (by simp) (by simp;omega) ?_ k (by omega)
   intro x hx
   rcases List.mem_cons.1 hx with rfl | hx
   ·exact hs _ (by simp)
   ·obtain ⟨y,hy,rfl⟩:=List.mem_map.1 hx
    exact Nat.le_trans (scut_size c y) (hs y (by simp [hy]))
 | succ d ih =>
   intro k j h1 hd hk
   obtain ⟨k,rfl⟩:∃ m,k=m+1:=⟨k - 1,by omega⟩
   have hlt:j < T.length:=by omega
   have hm:=smix_len c h T j h1
   have e1:wrap64 (((j+1:Nat):Int)+1)=((j+1+1:Nat):Int):=by unfold wrap64;omega
   simp only [spec_BlockValue.l0]
   rw [smix_get c h T j hlt,e1]
   have b1:0≤mn c (T[j].size:Int)∧mn c (T[j].size:Int)≤(T[j].size:Int):=by unfold mn;split <;> omega
   rw [if_pos (by omega),if_pos (by omega),if_pos b1.1,if_pos b1.2,Int.toNat_natCast]
   have:=smix_set c h T j hlt
   unfold scut at this
   rw [this]
   exact ih k (j+1) (by omega) (by omega) (by omega)
theorem plain_l0 (L:List ByteArray) (n:Int) (hs:∀ x ∈ L,x.size≤2002) (hl:L.length≤4000) (d:Nat):∀ (k i:Nat),i≤L.length→L.length - i=d→d+2003 < k →
 ∃ b,spec_plainBlock.l0 k L n i=some b∧(b=true→∀ x ∈ L.drop i,bblank x=true→0 < x.size→¬ (x.size:Int) < n):=by
 induction d with
 | zero =>
   intro k i h1 hd hk
   obtain ⟨k,rfl⟩:∃ m,k=m+1:=⟨k - 1,by omega⟩
   refine ⟨true,?_,?_⟩
   ·simp only [spec_plainBlock.l0];rw [if_neg (by omega)]
   ·rw [List.drop_eq_nil_of_le (by omega)];simp
 | succ d ih =>
   intro k i h1 hd hk
   obtain ⟨k,rfl⟩:∃ m,k=m+1:=⟨k - 1,by omega⟩
   have hlt:i < L.length:=by omega
   have e1:wrap64 ((i:Int)+1)=((i+1:Nat):Int):=by unfold wrap64;omega
   have hx:=hs L[i] (List.getElem_mem hlt)
   obtain ⟨b,hb,hb2⟩:=ih k (i+1) (by omega) (by omega) (by omega)
   simp only [spec_plainBlock.l0]
   rw [if_pos (by omega),if_pos (by omega),rd_at L i hlt,lead_f _ hx k (by omega),List.drop_eq_getElem_cons hlt,e1]
   simp only [Option.bind_some]
   generalize L[i]=x at *
   by_cases a1:(lead x.data.toList:Int)=(x.size:Int)
   ·rw [if_pos a1]
    by_cases a2:(x.size:Int) > 0
    ·rw [if_pos a2]
     by_cases a3:(x.size:Int) < n
     ·rw [if_pos a3];exact ⟨false,rfl,by simp⟩
     ·rw [if_neg a3]
      refine ⟨b,hb,fun h y hy=>?_⟩
      rcases List.mem_cons.1 hy with rfl | hy
      ·exact fun _ _=>a3
      ·exact hb2 h y hy
    ·rw [if_neg a2]
     refine ⟨b,hb,fun h y hy=>?_⟩
     rcases List.mem_cons.1 hy with rfl | hy
     ·exact fun _ h0=>absurd h0 (by omega)
     ·exact hb2 h y hy
   ·rw [if_neg a1]
    refine ⟨b,hb,fun h y hy=>?_⟩
    rcases List.mem_cons.1 hy with rfl | hy
    ·exact fun hbl=>absurd ((blank_lead _).2 hbl) a1
    ·exact hb2 h y hy
theorem plain_f (s:ByteArray) (h:ByteArray) (T:List ByteArray) (hs:∀ x ∈ h :: T,x.size≤2002) (hl:(h :: T).length≤4000) (k:Nat) (hk:7001≤k) (hL:spec_Lines.f k s=some (h :: T)) :
 ∃ b,spec_plainBlock.f k s=some b∧(b=true→Sure (h :: T)):=by
 obtain ⟨k,rfl⟩:∃ m,k=m+1:=⟨k - 1,by omega⟩
 unfold spec_plainBlock.f
 rw [hL,Option.bind_some,common_f h T hs hl (k+1) (by omega),Option.bind_some]
 obtain ⟨b,hb,hb2⟩:=plain_l0 (h :: T) (mx (bcm (-1) T) 0) hs hl ((h :: T).length - 1) k 1 (by simp) rfl (by omega)
 have hb':spec_plainBlock.l0 k (h :: T) (mx (bcm (-1) T) 0) 1=some b:=hb
 have eh:rdOf ByteArray.empty (h :: T) 0=h:=rfl
 by_cases a1:mx (bcm (-1) T) 0 > 0
 ·rw [if_pos a1,if_pos (by simp),eh,lead_f h (hs h (by simp)) (k+1) (by omega),Option.bind_some]
  simp only [spec_plainBlock.j0]
  by_cases a2:(lead h.data.toList:Int) < (h.size:Int)
  ·exact ⟨false,by rw [if_pos (by simpa using a2)],by simp⟩
  ·refine ⟨b,by rw [if_neg (by simpa using a2)];exact hb',fun hbt=>⟨fun _=>?_,?_⟩⟩
   ·rw [← blank_lead];have:=lead_size h;omega
   ·simpa using hb2 hbt
 ·rw [if_neg a1]
  simp only [spec_plainBlock.j0]
  exact ⟨b,by rw [if_neg (by simp)];exact hb',fun hbt=>⟨fun h0=>absurd h0 a1,by simpa using hb2 hbt⟩⟩
theorem bsl_sub (L:List ByteArray) (hs:∀ x ∈ L,x.size≤2002):(bsl L).length≤L.length∧∀ x ∈ bsl L,x.size≤2002:=by
 have hc:∀ c,∀ x ∈ L.map (bcut c),x.size≤2002:=by
  intro c x hx
  obtain ⟨y,hy,rfl⟩:=List.mem_map.1 hx
  have:=hs y hy
  unfold bcut
  split
  ·exact this
  ·rw [ByteArray.size_extract];omega
 unfold bsl btail
 constructor
 ·rw [List.length_reverse]
  refine Nat.le_trans (List.dropWhile_sublist _).length_le ?_
  rw [List.length_reverse]
  refine Nat.le_trans (List.dropWhile_sublist _).length_le ?_
  split <;> simp
 ·intro x hx
  have h1:=(List.dropWhile_sublist _).subset (List.mem_reverse.1 hx)
  have h2:=(List.dropWhile_sublist _).subset (List.mem_reverse.1 h1)
  split at h2
  ·exact hc _ x h2
  ·exact hs x h2
theorem bsv_same (s:ByteArray) (h:ByteArray) (T:List ByteArray) (hl:(h :: T).length≤2003) (hz:∀ x ∈ h :: T,x.size≤2002) (k:Nat) (hk:30000≤k)
 (hL:spec_Lines.f k s=some (h :: T)) (hZ:lexer_zzLines.f k s=some (h :: T)) :
 ∃ a r,lexer_blockStringValue.f k s=some a∧spec_BlockValue.f k s=some r∧(Sure (h :: T)→a.toList=r.toList):=by
 obtain ⟨b1,b2⟩:=bsl_sub (h :: T) hz
 have hj:=jn_len (bsl (h :: T)) (by omega) b2
 obtain ⟨r,h1,h2⟩:=bv_l0 (mx (bcm (-1) T) 0) (by unfold mx;split <;> omega) h T (by simp at hl;omega) hz T.length k 0 (by omega) (by omega) (by simp at hl;omega)
 refine ⟨⟨(jn (bsl (h :: T))).toArray⟩,r,?_,?_,fun hS=>?_⟩
 ·unfold lexer_blockStringValue.f
  rw [hZ]
  simp only [Option.bind_some]
  rw [if_pos ⟨by simp,by omega,List.all_eq_true.2 fun x hx=>decide_eq_true (by have:=hz x hx;omega)⟩]
  unfold strings_Join.f
  have hj':(Lib.join ((bsl (h :: T)).map (·.data.toList)) (⟨#[10]⟩:ByteArray).data.toList).length≤140737488355328:=by
   show (jn (bsl (h :: T))).length≤_
   omega
  rw [if_pos ⟨by omega,hj'⟩]
  rfl
 ·unfold spec_BlockValue.f
  rw [hL,Option.bind_some,common_f h T hz (by omega) k (by omega),Option.bind_some]
  have e:smix (mx (bcm (-1) T) 0) h T 0=h :: T:=by simp [smix]
  rw [e] at h1
  exact h1
 ·rw [ByteArray.toList_eq,ByteArray.toList_eq,h2,same_lines _ hS]
  rfl
theorem raw_law (s:ByteArray) (hs:s.size≤2002):∃ (p:Bool) (a r:ByteArray),(∀ k,40000≤k→spec_BlockValue.f k s=some r∧spec_plainBlock.f k s=some p∧lexer_blockStringValue.f k s=some a)∧(p=true→a.toList=r.toList):=by
 obtain ⟨L,e1,e2,l0,l1,l2⟩:=lines_both s hs s.size 40000 [] 0 0 (by omega) (by omega) (by omega) (by omega) (by simp;omega)
 cases L with
 | nil=>simp at l0
 | cons h T =>
   simp only [List.nil_append] at e1 e2
   have hz:∀ x ∈ h :: T,x.size≤2002:=fun x hx=>by have:=l2 x hx;omega
   obtain ⟨p,hp,hp2⟩:=plain_f s h T hz (by omega) 40000 (by omega) e1
   obtain ⟨a,r,i1,i2,i3⟩:=bsv_same s h T (by omega) hz 40000 (by omega) e1 e2
   refine ⟨p,a,r,fun k hk=>⟨?_,?_,?_⟩,fun h=>i3 (hp2 h)⟩
   ·exact at_rounds (g:=fun k=>spec_BlockValue.f k s) (spec_BlockValue.mono s) hk i2
   ·exact at_rounds (g:=fun k=>spec_plainBlock.f k s) (spec_plainBlock.mono s) hk hp
   ·exact at_rounds (g:=fun k=>lexer_blockStringValue.f k s) (lexer_blockStringValue.mono s) hk i1
theorem blkH:BlkH:=fun o ho=>by
 obtain ⟨p,a,r,h,hp⟩:=raw_law o ho
 obtain ⟨h1,h2,h3⟩:=h 40000 (Nat.le_refl _)
 refine ⟨p,r,fun w=>spec_plainBlock.calls 40000 o p w h2,fun w=>spec_BlockValue.calls 40000 o r w h1,fun e w=>?_⟩
 have ha:a=r:=by
  have h5:=hp e
  rw [ByteArray.toList_eq,ByteArray.toList_eq] at h5
  exact ByteArray.ext (Array.toList_inj.1 h5)
 rw [ba_eta,← ha]
 exact lexer_blockStringValue.calls 40000 o a w h3
end Go.Proofs.YthgcghpcikbnkaaGreatDoor.R
