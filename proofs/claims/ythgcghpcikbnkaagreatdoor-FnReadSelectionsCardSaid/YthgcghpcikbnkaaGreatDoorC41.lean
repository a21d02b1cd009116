/- A part of the proof of the theorem of this claim: Rtk, Tdi. No condition of its own. -/
import Derived.Test.YthgcghpcikbnkaaGreatDoorC18
import Derived.Test.YthgcghpcikbnkaaGreatDoorC19
import Derived.Test.YthgcghpcikbnkaaGreatDoorC20
import Derived.Test.YthgcghpcikbnkaaGreatDoorC21
import Derived.Test.YthgcghpcikbnkaaGreatDoorC22
import Derived.Test.YthgcghpcikbnkaaGreatDoorC11
import Derived.Test.YthgcghpcikbnkaaGreatDoorC40
import Derived.Test.YthgcghpcikbnkaaGreatDoorB0
set_option maxHeartbeats 16000000
set_option maxRecDepth 100000
namespace Go.Proofs.YthgcghpcikbnkaaGreatDoor.R
open Go.RowKit Go.Proofs.YthgcghpcikbnkaaGreatDoorW.PrintWords Go.Proofs.YthgcghpcikbnkaaGreatDoorW.PrintLast Go.Proofs.YthgcghpcikbnkaaGreatDoorW.PrintMore
set_option linter.unusedVariables false
set_option linter.unusedSimpArgs false
theorem numb_cases {c:Int} (h:c=45∨isD c=true):c=45∨c=48∨c=49∨c=50∨c=51∨c=52∨c=53∨c=54∨c=55∨c=56∨c=57:=by
 rcases h with h | h
 ·exact .inl h
 ·have:=(isD_iff c).1 h;omega
theorem upper_cases {c:Int} (h:65≤c∧c≤90):c=65∨c=66∨c=67∨c=68∨c=69∨c=70∨c=71∨c=72∨c=73∨c=74∨c=75∨c=76∨c=77∨c=78∨c=79∨c=80∨c=81∨c=82∨c=83∨c=84∨c=85∨c=86∨c=87∨c=88∨c=89∨c=90:=by omega
theorem lower1_cases {c:Int} (h:c=95∨(97≤c∧c≤109)):c=95∨c=97∨c=98∨c=99∨c=100∨c=101∨c=102∨c=103∨c=104∨c=105∨c=106∨c=107∨c=108∨c=109:=by omega
theorem lower2_cases {c:Int} (h:110≤c∧c≤122):c=110∨c=111∨c=112∨c=113∨c=114∨c=115∨c=116∨c=117∨c=118∨c=119∨c=120∨c=121∨c=122:=by omega
theorem rtokS (s:ByteArray):RTokS s:=by
 intro g b cap p l hL w hS
 have BADP:∀ {e:Ending} {w':World},((∃ ge:Nat,e=.returned (.tuple #[.agg #[.int .i64 0,.int .i64 0,.int .i64 0,.string ⟨#[]⟩],.iface 206 (.pointer (some ⟨ge,0,none⟩))]))∧Below w.heap.size w w')→RdP w [] e w':=by
  rintro e w' ⟨⟨ge,h⟩,hb⟩
  exact ⟨⟨_,_,_,_,_,_,h⟩,hb⟩
 cases hL with
 | fin h1 h2=>exact (rtk_end hS p _ h1 h2).mono fun e w' q=>⟨q.1,q.2⟩
 | @tok _ q z t r h1 h2 ht _ =>
   cases ht with
   | sign a b c=>exact (rtk_sign hS p _ h1 h2 _ b c).mono fun e w' q=>⟨q.1,q.2⟩
   | spread a b c d=>exact (rtk_spread hS p _ h1 a b c d).mono fun e w' q=>⟨q.1,q.2⟩
   | name a hb =>
     have hc:(65≤bt s q∧bt s q≤90)∨(bt s q=95∨(97≤bt s q∧bt s q≤109))∨(110≤bt s q∧bt s q≤122):=by
      unfold isB at hb;simp at hb;omega
     rcases hc with hc | hc | hc
     ·exact (rtk_upper hS p _ h1 h2 (upper_cases hc)).mono fun e w' q=>⟨q.1,q.2⟩
     ·exact (rtk_lower1 hS p _ h1 h2 (lower1_cases hc)).mono fun e w' q=>⟨q.1,q.2⟩
     ·exact (rtk_lower2 hS p _ h1 h2 (lower2_cases hc)).mono fun e w' q=>⟨q.1,q.2⟩
   | numb a hb hn=>exact (rtk_numb hS p _ h1 h2 (numb_cases hb) _ _ hn).mono fun e w' q=>⟨q.1,q.2⟩
   | str a hb ht hx hz=>exact (rtk_str hS p _ h1 h2 hb ht _ _ hz hx).mono fun e w' q=>⟨q.1,q.2⟩
   | block a ht hx hz hv=>exact (rtk_blk hS p _ h1 h2 ((tri_iff s _).1 ht).1.2 ht _ _ hz hx _ hv).mono fun e w' q=>⟨q.1,q.2⟩
 | @bad _ q h1 h2 ht =>
   cases ht with
   | numb a hb hn=>exact (rtk_nobad hS p _ h1 h2 (numb_cases hb) hn).mono fun e w' q=>BADP q
   | str a hb ht hx=>exact (rtk_strbad hS p _ h1 h2 hb ht hx).mono fun e w' q=>BADP q
   | block a ht hx=>exact (rtk_blkbad hS p _ h1 h2 ((tri_iff s _).1 ht).1.2 ht hx).mono fun e w' q=>BADP q
   | dot a hb hn=>exact (rtk_dotbad hS p _ h1 h2 hb hn).mono fun e w' q=>BADP q
   | other a o1 o2 o3 o4 o5 o6=>exact (rtk_other hS p _ h1 h2 (oth_of o1 o2 o3 o4 o5 o6)).mono fun e w' q=>BADP q
def DoorI (w:World) (res:O (List Row × List Tk)) (e:Ending) (w':World):Prop :=
 Below w.heap.size w w'∧match res with
 | .out=>True
 | .bad=>e=.returned (.tuple #[.slice none 0 0,.int .i64 0,.bool false])
 | .ok (rows,l)=>∃ (A:Option Addr) (cp:Nat),e=.returned (.tuple #[.slice A rows.length cp,.int .i64 (match l with | []=>0 | t :: _=>t.a),.bool true])∧w'.ownsRow w.heap.size 55 6 (.slice A rows.length cp) rows.length (flat rows)
theorem rdSels {s:ByteArray} (hs:s.size≤2000) {w:World} (hG:Glob w) {l:List Tk} (hL:Lexes BVal s 0 l) (hll:l.length≤1000000) {f:Nat} (hf:f≤1000000) (hne:l≠[]→pSet (pSel f) f l≠.out):Calls Tryz.prog 7 #[.string s] w (DoorI w (front l (pSet (pSel f) f l))):=by
 have CB:=mkA (readSels_walk (rtokS s) hs hG hL hf hne)
 have HLL:=mkA hll
 have HFit:=mkA (show ∀ rows r,front l (pSet (pSel f) f l)=.ok (rows,r)→rows.length≤1000000 from fun rows r h=>by
  cases l with
  | nil=>cases h
  | cons t q=>have h1:=pSet_fits (pSel_fits f) f _ _ _ h;omega)
 have HNO:=mkA (show front l (pSet (pSel f) f l)≠.out by
  cases l with
  | nil=>intro e;cases e
  | cons t q=>exact hne (by simp))
 clear hs hG hL hf hne hll
 obtain ⟨RES,hR⟩:∃ RES,RES=front l (pSet (pSel f) f l):=⟨_,rfl⟩
 rw [← hR] at CB HFit HNO ⊢
 clear hR
 cases RES with
 | out=>exact absurd rfl HNO.out
 | bad =>
   go_enter Tryz.func7,Tryz.ntmps7
   go_wp2_with (first
    | (go_at_call 13;(with_reducible refine CB.out.mono ?_);rintro e w1 ⟨hB,v_,a_,te,x,rfl⟩;have HB:=mkA hB;clear hB))
   go_ret3
   exact ⟨HB.out,rfl⟩
 | ok a_ =>
   obtain ⟨rows,l_⟩:=a_
   have HR:=mkA (HFit.out rows l_ rfl)
   clear HFit HNO
   rcases l_ with _ | ⟨tq,rq⟩
   all_goals
    go_enter Tryz.func7,Tryz.ntmps7
    go_wp2_with (first
     | (go_at_call 13;(with_reducible refine CB.out.mono ?_);rintro e w1 ⟨hB,sl,hN,rfl⟩;obtain ⟨gs_,rfl⟩:=SetE.ptr hN;have HB:=mkA hB;have HN:=mkA hN;clear hB hN)
     | ((with_reducible refine gate_dst (N:=17) rfl ?_);refine bxe (cs:=#[.slice none 0 0,.slice none 0 0,.bool false]) (t:=38) ?hr ?_;(case hr=>first | (go_simp;done) | (go_simp;rfl));intro gt hg w2 hbox hb;have HB2:=mkA hb;have CT:=mkA (set_takeE (B:=w1.heap.size) (gt:=gt) (rows:=[]) ⟨by rw [hg];exact Nat.le_refl _,none,0,none,0,[],hbox,World.ownsRow_nil _ _ _ _,World.ownsRow_nil _ _ _ _⟩ hb.size (SetE.fr (SetE.fr HN.out keeps_to) (keeps_up hb)) (by rw [List.length_nil];have:=HR.out;omega));clear hbox hb hg)
     | (go_at_call 14;(with_reducible refine CT.out.mono ?_);rintro e w5 ⟨rfl,⟨lo,A4,cp4,A5,cp5,zs,q1,q2,q3⟩,qF⟩;have Q2:=mkA q2;have QF:=mkA (HB2.out.trans qF.low);have c0:=(blk_cell q1 0).trans rfl;have c2:=(blk_cell q1 2).trans rfl;clear q1 q2 q3 qF lo))
    go_quiet (fail)
    go_wp2
    go_ret3
    exact ⟨pw_below_drewN (HB.out.trans (QF.out.mono HB.out.size)) _,A4,cp4,rfl,own_less Q2.out HB.out.size⟩
end Go.Proofs.YthgcghpcikbnkaaGreatDoor.R
