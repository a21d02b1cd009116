/- A part of the proof of the theorem of this claim: Typ, Tkt, Tkv, Tky. No condition of its own. -/
import Derived.Test.YthgcghpcikbnkaaGreatDoorC9
import Derived.Test.YthgcghpcikbnkaaGreatDoorB4
import Derived.Test.YthgcghpcikbnkaaGreatDoorB0
set_option maxHeartbeats 16000000
set_option maxRecDepth 100000
namespace Go.Proofs.YthgcghpcikbnkaaGreatDoor.R
open Go.RowKit Go.Proofs.YthgcghpcikbnkaaGreatDoorW.PrintWords Go.Proofs.YthgcghpcikbnkaaGreatDoorW.PrintLast Go.Proofs.YthgcghpcikbnkaaGreatDoorW.PrintMore
set_option linter.unusedVariables false
set_option linter.unusedSimpArgs false
def TypE (ok:Ok) (w:World) (r:List Row) (v:Value):Prop:=∃ n,TypA ok w n v r
theorem TypE.shape2 {ok:Ok} {w:World} {r:List Row} {v:Value} (h:TypE ok w r v):∃ (te:TypeId) (g:Nat),v=.iface te (ptr g):=by
 obtain ⟨n,h⟩:=h
 cases n with
 | zero=>exact h.elim
 | succ n=>cases h <;> exact ⟨_,_,rfl⟩
theorem TypE.shape {ok:Ok} {w:World} {r:List Row} {v:Value} (h:TypE ok w r v):∃ (te:TypeId) (x:Value),v=.iface te x:=by
 obtain ⟨te,g,h⟩:=h.shape2;exact ⟨te,_,h⟩
theorem TypE.fr {ok ok':Ok} {w w':World} {r:List Row} {v:Value} (h:TypE ok w r v) (hf:Keeps ok ok' w w'):TypE ok' w' r v:=by
 obtain ⟨n,h⟩:=h;exact ⟨n,TypA.fr hf n _ _ h⟩
theorem TypE.lst {ok:Ok} {w:World} {g:Nat} {k:ByteArray} {l t:Value} {r:List Row} (a:At ok w g #[.string k,l,t] 127) (b:LocA ok w l) (c:TypE ok w r t):TypE ok w (nd 21 e0 e0 e0 0 r) (.iface 125 (ptr g)):=by
 obtain ⟨n,c⟩:=c;exact ⟨n+1,TypS.lst a b c⟩
theorem TypE.non {ok:Ok} {w:World} {g:Nat} {k:ByteArray} {l t:Value} {r:List Row} (a:At ok w g #[.string k,l,t] 129) (b:LocA ok w l) (c:TypE ok w r t):TypE ok w (nd 22 e0 e0 e0 0 r) (.iface 128 (ptr g)):=by
 obtain ⟨n,c⟩:=c;exact ⟨n+1,TypS.non a b c⟩
theorem TypE.named {ok:Ok} {w:World} {p:Value} {v:ByteArray} (h:NamedA ok w p v):TypE ok w (nd 20 v e0 e0 0 []) (.iface 122 p):=by
 obtain ⟨g,k,l,n,rfl,h1,h2,h3⟩:=h;exact ⟨1,TypS.named (X:=TypA ok w 0) h1 h2 h3⟩
def plainB:TypeDesc→Bool
 | .interface _=>false
 | _=>true
theorem keeps_up {n:Nat} {w w':World} (hb:Below w.heap.size w w'):Keeps (to_ n) (to_ n) w w':=fun g o hg h1=>⟨hg,blk_below h1 hb⟩
theorem ta_ne {P:Program} (t a:TypeId) (d:TypeDesc) (z:Value) (hu:P.underlying a=some d) (hp:plainB d=true) (hz:(P.info? a).map (·.zero)=some (some z)) (h:t≠a) (v:Value) (xT:TypeId) (w:World):(Instr.typeAssert (.iface t v) xT a true).run P w=.ok (.tuple #[z,.bool false]) w:=by
 obtain ⟨j,hj,hz'⟩:=Option.map_eq_some_iff.1 hz
 cases d <;> first | (cases hp;done) | simp [Instr.typeAssert,run_underlying hu,typeInfo,zeroValue,hj,hz',h]
theorem ta_eq {P:Program} (t:TypeId) (d:TypeDesc) (hu:P.underlying t=some d) (hp:plainB d=true) (v:Value) (xT:TypeId) (w:World):(Instr.typeAssert (.iface t v) xT t true).run P w=.ok (.tuple #[v,.bool true]) w:=by
 cases d <;> first | (cases hp;done) | simp [Instr.typeAssert,run_underlying hu]
theorem text_walk {ok:Ok} {w:World} {p:Value} {v:ByteArray} (h:NameA ok w p v):Calls Tryz.prog 25 #[p] w (fun e w'=>e=.returned (.string v)∧w'=w):=by
 obtain ⟨g,k,l,rfl,-,h⟩:=h
 have c0:w.cell? ⟨g,2,none⟩=some (.string v):=(blk_cell h 2).trans rfl
 clear h
 go_enter Tryz.func25,Tryz.ntmps25
 go_wp2
 go_ret
 exact ⟨rfl,rfl⟩
theorem text_nil (w:World):Calls Tryz.prog 25 #[.pointer none] w (fun e w'=>e=.returned (.string ⟨#[]⟩)∧w'=w):=by
 go_enter Tryz.func25,Tryz.ntmps25
 go_wp2
 go_ret
 exact ⟨rfl,rfl⟩
theorem on_walk {ok:Ok} {w:World} {p:Value} {v:ByteArray} (h:NamedA ok w p v):Calls Tryz.prog 51 #[p] w (fun e w'=>e=.returned (.string v)∧w'=w):=by
 obtain ⟨g,k,l,n,rfl,hA,hl,hN⟩:=h
 have c0:w.cell? ⟨g,2,none⟩=some n:=(blk_cell hA.2 2).trans rfl
 have CT:=mkA (text_walk hN)
 clear hA hl hN
 go_enter Tryz.func51,Tryz.ntmps51
 go_wp2_with (first
  | (go_at_call 25;(with_reducible refine CT.out.mono ?_);rintro e w_ ⟨rfl,rfl⟩))
 go_ret
 exact ⟨rfl,rfl⟩
theorem on_nil (w:World):Calls Tryz.prog 51 #[.pointer none] w (fun e w'=>e=.returned (.string ⟨#[]⟩)∧w'=w):=by
 go_enter Tryz.func51,Tryz.ntmps51
 go_wp2
 go_ret
 exact ⟨rfl,rfl⟩
theorem tv_var {w:World} {B gt g:Nat} {rows:List Row} {k v:ByteArray} {l n:Value} (hT:TK B gt w rows) (hB:B≤w.heap.size) (hA:At (to_ B) w g #[.string k,l,n] 83) (hN:NameA (to_ B) w n v) (hL:LocA (to_ B) w l) (hn:rows.length+(nd 11 v e0 e0 0 []).length≤1000000):Calls Tryz.prog 29 #[ptr gt,.iface 73 (ptr g)] w (TP B gt w (rows++nd 11 v e0 e0 0 [])):=by
 have HTK:=mkA hT
 have HBW:=mkA hB
 have HN:=mkA hn
 have HA:=mkA hA
 have HL:=mkA hL
 have HNN:=mkA hN
 have a73:=fun w=>ta_eq (P:=Tryz.prog) 73 (.pointer 83) (by kernel_rfl) rfl (R.ptr g) 77 w
 clear hT hB hn hA hL hN
 obtain ⟨gl,la,lz,ls,rfl,HLC⟩:=HL.out
 go_enter Tryz.func29,Tryz.ntmps29
 go_upto_region 6 with (first
  | ((with_reducible refine gate_dst (N:=2) rfl ?_);refine bxe (cs:=#[R.ptr gt]) (t:=35) ?hr ?_;(case hr=>first | (go_simp;done) | (go_simp;rfl));intro gx hg w2 hbox hb;have B2:=mkA hb;have BX:=mkA hbox;clear hbox hb hg))
 have KP:=mkA (keeps_up (n:=B) B2.out)
 have AL:=mkA (show At (to_ B) w2 g #[.string k,R.ptr gl,n] 83 from HA.out.fr KP.out)
 have LCL:=mkA (show LocA (to_ B) w2 (R.ptr gl) from HL.out.fr KP.out)
 have NML:=mkA (show NameA (to_ B) w2 n v from HNN.out.fr KP.out)
 have s_0:w2.cell? ⟨gx,0,none⟩=some (R.ptr gt):=(blk_cell BX.out 0).trans rfl
 have c_0:w2.cell? ⟨g,1,none⟩=some (R.ptr gl):=(blk_cell AL.out.2 1).trans rfl
 have c_1:w2.cell? ⟨g,2,none⟩=some (n):=(blk_cell AL.out.2 2).trans rfl
 have T4:=mkA (show TK B gt w2 (rows) from HTK.out.step B2.out)
 have cT0:=mkA (fun (u:World) (hu:Below w2.heap.size w2 u)=>(show Calls Tryz.prog 25 #[n] u (fun e w'=>e=.returned (.string v)∧w'=u) from text_walk (NML.out.fr (keeps_up hu))))
 have cP:=mkA (fun (u:World) (hu:Below w2.heap.size w2 u)=>(show Calls Tryz.prog 26 #[R.ptr gt,R.ptr gl,.agg #[.int .i64 11,.string v,.string ⟨#[]⟩,.string ⟨#[]⟩,.int .i64 0,.int .i64 0],.nilFunc] u (TP B gt w ((rows)++nd 11 v ⟨#[]⟩ ⟨#[]⟩ 0 [])) from (put_walk (T4.out.step hu) (LCL.out.fr (keeps_up hu)) (Nat.le_trans HBW.out (below_step B2.out hu).size) (by have h_:=HN.out;rw [nd_len] at h_;omega) (.inl ⟨rfl,rfl⟩)).mono fun e w' q=>⟨q.1,q.2.1,(TF.of HBW.out (below_step B2.out hu)).trans q.2.2⟩))
 go_still_tail 11,(by kernel_rfl)
 still_call (cT0.out _ (by first | exact below_drew1 (Below.refl _ _) | exact Below.refl _ _))
 repeat still_step
 refine wpStill_nil ?_
 go_wp2_with (first
  | (go_at_call 26;refine (cP.out _ ?_).mono ?_;(first | exact below_drew1 (Below.refl _ _) | exact Below.refl _ _);rintro e w5 ⟨rfl,q1,q2⟩;have Q1:=mkA q1;have Q2:=mkA q2;clear q1 q2))
 go_end0
 exact ⟨rfl,Q1.out,Q2.out⟩
theorem tv_int {w:World} {B gt g:Nat} {rows:List Row} {k v:ByteArray} {l:Value} (hT:TK B gt w rows) (hB:B≤w.heap.size) (hA:At (to_ B) w g #[.string k,l,.string v] 131) (hL:LocA (to_ B) w l) (hn:rows.length+(nd 12 e0 e0 v 0 []).length≤1000000):Calls Tryz.prog 29 #[ptr gt,.iface 130 (ptr g)] w (TP B gt w (rows++nd 12 e0 e0 v 0 [])):=by
 have HTK:=mkA hT
 have HBW:=mkA hB
 have HN:=mkA hn
 have HA:=mkA hA
 have HL:=mkA hL
 have a73:=fun w=>ta_ne (P:=Tryz.prog) 130 73 (.pointer 83) (.pointer none) (by kernel_rfl) rfl (by kernel_rfl) (by decide) (R.ptr g) 77 w
 have a130:=fun w=>ta_eq (P:=Tryz.prog) 130 (.pointer 131) (by kernel_rfl) rfl (R.ptr g) 77 w
 clear hT hB hn hA hL
 obtain ⟨gl,la,lz,ls,rfl,HLC⟩:=HL.out
 go_enter Tryz.func29,Tryz.ntmps29
 go_upto_region 9 with (first
  | ((with_reducible refine gate_dst (N:=2) rfl ?_);refine bxe (cs:=#[R.ptr gt]) (t:=35) ?hr ?_;(case hr=>first | (go_simp;done) | (go_simp;rfl));intro gx hg w2 hbox hb;have B2:=mkA hb;have BX:=mkA hbox;clear hbox hb hg))
 have KP:=mkA (keeps_up (n:=B) B2.out)
 have AL:=mkA (show At (to_ B) w2 g #[.string k,R.ptr gl,.string v] 131 from HA.out.fr KP.out)
 have LCL:=mkA (show LocA (to_ B) w2 (R.ptr gl) from HL.out.fr KP.out)
 have s_0:w2.cell? ⟨gx,0,none⟩=some (R.ptr gt):=(blk_cell BX.out 0).trans rfl
 have c_0:w2.cell? ⟨g,1,none⟩=some (R.ptr gl):=(blk_cell AL.out.2 1).trans rfl
 have c_1:w2.cell? ⟨g,2,none⟩=some (.string v):=(blk_cell AL.out.2 2).trans rfl
 have T4:=mkA (show TK B gt w2 (rows) from HTK.out.step B2.out)
 have cP:=mkA (fun (u:World) (hu:Below w2.heap.size w2 u)=>(show Calls Tryz.prog 26 #[R.ptr gt,R.ptr gl,.agg #[.int .i64 12,.string ⟨#[]⟩,.string ⟨#[]⟩,.string v,.int .i64 0,.int .i64 0],.nilFunc] u (TP B gt w ((rows)++nd 12 ⟨#[]⟩ ⟨#[]⟩ v 0 [])) from (put_walk (T4.out.step hu) (LCL.out.fr (keeps_up hu)) (Nat.le_trans HBW.out (below_step B2.out hu).size) (by have h_:=HN.out;rw [nd_len] at h_;omega) (.inl ⟨rfl,rfl⟩)).mono fun e w' q=>⟨q.1,q.2.1,(TF.of HBW.out (below_step B2.out hu)).trans q.2.2⟩))
 go_still_tail 10,(by kernel_rfl)
 go_wp2_with (first
  | (go_at_call 26;refine (cP.out _ ?_).mono ?_;(first | exact below_drew1 (Below.refl _ _) | exact Below.refl _ _);rintro e w5 ⟨rfl,q1,q2⟩;have Q1:=mkA q1;have Q2:=mkA q2;clear q1 q2))
 go_end0
 exact ⟨rfl,Q1.out,Q2.out⟩
theorem tv_flt {w:World} {B gt g:Nat} {rows:List Row} {k v:ByteArray} {l:Value} (hT:TK B gt w rows) (hB:B≤w.heap.size) (hA:At (to_ B) w g #[.string k,l,.string v] 133) (hL:LocA (to_ B) w l) (hn:rows.length+(nd 13 e0 e0 v 0 []).length≤1000000):Calls Tryz.prog 29 #[ptr gt,.iface 132 (ptr g)] w (TP B gt w (rows++nd 13 e0 e0 v 0 [])):=by
 have HTK:=mkA hT
 have HBW:=mkA hB
 have HN:=mkA hn
 have HA:=mkA hA
 have HL:=mkA hL
 have a73:=fun w=>ta_ne (P:=Tryz.prog) 132 73 (.pointer 83) (.pointer none) (by kernel_rfl) rfl (by kernel_rfl) (by decide) (R.ptr g) 77 w
 have a130:=fun w=>ta_ne (P:=Tryz.prog) 132 130 (.pointer 131) (.pointer none) (by kernel_rfl) rfl (by kernel_rfl) (by decide) (R.ptr g) 77 w
 have a132:=fun w=>ta_eq (P:=Tryz.prog) 132 (.pointer 133) (by kernel_rfl) rfl (R.ptr g) 77 w
 clear hT hB hn hA hL
 obtain ⟨gl,la,lz,ls,rfl,HLC⟩:=HL.out
 go_enter Tryz.func29,Tryz.ntmps29
 go_upto_region 12 with (first
  | ((with_reducible refine gate_dst (N:=2) rfl ?_);refine bxe (cs:=#[R.ptr gt]) (t:=35) ?hr ?_;(case hr=>first | (go_simp;done) | (go_simp;rfl));intro gx hg w2 hbox hb;have B2:=mkA hb;have BX:=mkA hbox;clear hbox hb hg))
 have KP:=mkA (keeps_up (n:=B) B2.out)
 have AL:=mkA (show At (to_ B) w2 g #[.string k,R.ptr gl,.string v] 133 from HA.out.fr KP.out)
 have LCL:=mkA (show LocA (to_ B) w2 (R.ptr gl) from HL.out.fr KP.out)
 have s_0:w2.cell? ⟨gx,0,none⟩=some (R.ptr gt):=(blk_cell BX.out 0).trans rfl
 have c_0:w2.cell? ⟨g,1,none⟩=some (R.ptr gl):=(blk_cell AL.out.2 1).trans rfl
 have c_1:w2.cell? ⟨g,2,none⟩=some (.string v):=(blk_cell AL.out.2 2).trans rfl
 have T4:=mkA (show TK B gt w2 (rows) from HTK.out.step B2.out)
 have cP:=mkA (fun (u:World) (hu:Below w2.heap.size w2 u)=>(show Calls Tryz.prog 26 #[R.ptr gt,R.ptr gl,.agg #[.int .i64 13,.string ⟨#[]⟩,.string ⟨#[]⟩,.string v,.int .i64 0,.int .i64 0],.nilFunc] u (TP B gt w ((rows)++nd 13 ⟨#[]⟩ ⟨#[]⟩ v 0 [])) from (put_walk (T4.out.step hu) (LCL.out.fr (keeps_up hu)) (Nat.le_trans HBW.out (below_step B2.out hu).size) (by have h_:=HN.out;rw [nd_len] at h_;omega) (.inl ⟨rfl,rfl⟩)).mono fun e w' q=>⟨q.1,q.2.1,(TF.of HBW.out (below_step B2.out hu)).trans q.2.2⟩))
 go_still_tail 10,(by kernel_rfl)
 go_wp2_with (first
  | (go_at_call 26;refine (cP.out _ ?_).mono ?_;(first | exact below_drew1 (Below.refl _ _) | exact Below.refl _ _);rintro e w5 ⟨rfl,q1,q2⟩;have Q1:=mkA q1;have Q2:=mkA q2;clear q1 q2))
 go_end0
 exact ⟨rfl,Q1.out,Q2.out⟩
theorem tv_str {w:World} {B gt g:Nat} {rows:List Row} {k v:ByteArray} {l:Value} (hT:TK B gt w rows) (hB:B≤w.heap.size) (hA:At (to_ B) w g #[.string k,l,.string v] 135) (hL:LocA (to_ B) w l) (hn:rows.length+(nd 14 e0 e0 v 0 []).length≤1000000):Calls Tryz.prog 29 #[ptr gt,.iface 134 (ptr g)] w (TP B gt w (rows++nd 14 e0 e0 v 0 [])):=by
 have HTK:=mkA hT
 have HBW:=mkA hB
 have HN:=mkA hn
 have HA:=mkA hA
 have HL:=mkA hL
 have a73:=fun w=>ta_ne (P:=Tryz.prog) 134 73 (.pointer 83) (.pointer none) (by kernel_rfl) rfl (by kernel_rfl) (by decide) (R.ptr g) 77 w
 have a130:=fun w=>ta_ne (P:=Tryz.prog) 134 130 (.pointer 131) (.pointer none) (by kernel_rfl) rfl (by kernel_rfl) (by decide) (R.ptr g) 77 w
 have a132:=fun w=>ta_ne (P:=Tryz.prog) 134 132 (.pointer 133) (.pointer none) (by kernel_rfl) rfl (by kernel_rfl) (by decide) (R.ptr g) 77 w
 have a134:=fun w=>ta_eq (P:=Tryz.prog) 134 (.pointer 135) (by kernel_rfl) rfl (R.ptr g) 77 w
 clear hT hB hn hA hL
 obtain ⟨gl,la,lz,ls,rfl,HLC⟩:=HL.out
 go_enter Tryz.func29,Tryz.ntmps29
 go_upto_region 15 with (first
  | ((with_reducible refine gate_dst (N:=2) rfl ?_);refine bxe (cs:=#[R.ptr gt]) (t:=35) ?hr ?_;(case hr=>first | (go_simp;done) | (go_simp;rfl));intro gx hg w2 hbox hb;have B2:=mkA hb;have BX:=mkA hbox;clear hbox hb hg))
 have KP:=mkA (keeps_up (n:=B) B2.out)
 have AL:=mkA (show At (to_ B) w2 g #[.string k,R.ptr gl,.string v] 135 from HA.out.fr KP.out)
 have LCL:=mkA (show LocA (to_ B) w2 (R.ptr gl) from HL.out.fr KP.out)
 have s_0:w2.cell? ⟨gx,0,none⟩=some (R.ptr gt):=(blk_cell BX.out 0).trans rfl
 have c_0:w2.cell? ⟨g,1,none⟩=some (R.ptr gl):=(blk_cell AL.out.2 1).trans rfl
 have c_1:w2.cell? ⟨g,2,none⟩=some (.string v):=(blk_cell AL.out.2 2).trans rfl
 have T4:=mkA (show TK B gt w2 (rows) from HTK.out.step B2.out)
 have cP:=mkA (fun (u:World) (hu:Below w2.heap.size w2 u)=>(show Calls Tryz.prog 26 #[R.ptr gt,R.ptr gl,.agg #[.int .i64 14,.string ⟨#[]⟩,.string ⟨#[]⟩,.string v,.int .i64 0,.int .i64 0],.nilFunc] u (TP B gt w ((rows)++nd 14 ⟨#[]⟩ ⟨#[]⟩ v 0 [])) from (put_walk (T4.out.step hu) (LCL.out.fr (keeps_up hu)) (Nat.le_trans HBW.out (below_step B2.out hu).size) (by have h_:=HN.out;rw [nd_len] at h_;omega) (.inl ⟨rfl,rfl⟩)).mono fun e w' q=>⟨q.1,q.2.1,(TF.of HBW.out (below_step B2.out hu)).trans q.2.2⟩))
 go_still_tail 10,(by kernel_rfl)
 go_wp2_with (first
  | (go_at_call 26;refine (cP.out _ ?_).mono ?_;(first | exact below_drew1 (Below.refl _ _) | exact Below.refl _ _);rintro e w5 ⟨rfl,q1,q2⟩;have Q1:=mkA q1;have Q2:=mkA q2;clear q1 q2))
 go_end0
 exact ⟨rfl,Q1.out,Q2.out⟩
theorem tv_enm {w:World} {B gt g:Nat} {rows:List Row} {k v:ByteArray} {l:Value} (hT:TK B gt w rows) (hB:B≤w.heap.size) (hA:At (to_ B) w g #[.string k,l,.string v] 140) (hL:LocA (to_ B) w l) (hn:rows.length+(nd 16 v e0 e0 0 []).length≤1000000):Calls Tryz.prog 29 #[ptr gt,.iface 139 (ptr g)] w (TP B gt w (rows++nd 16 v e0 e0 0 [])):=by
 have HTK:=mkA hT
 have HBW:=mkA hB
 have HN:=mkA hn
 have HA:=mkA hA
 have HL:=mkA hL
 have a73:=fun w=>ta_ne (P:=Tryz.prog) 139 73 (.pointer 83) (.pointer none) (by kernel_rfl) rfl (by kernel_rfl) (by decide) (R.ptr g) 77 w
 have a130:=fun w=>ta_ne (P:=Tryz.prog) 139 130 (.pointer 131) (.pointer none) (by kernel_rfl) rfl (by kernel_rfl) (by decide) (R.ptr g) 77 w
 have a132:=fun w=>ta_ne (P:=Tryz.prog) 139 132 (.pointer 133) (.pointer none) (by kernel_rfl) rfl (by kernel_rfl) (by decide) (R.ptr g) 77 w
 have a134:=fun w=>ta_ne (P:=Tryz.prog) 139 134 (.pointer 135) (.pointer none) (by kernel_rfl) rfl (by kernel_rfl) (by decide) (R.ptr g) 77 w
 have a136:=fun w=>ta_ne (P:=Tryz.prog) 139 136 (.pointer 138) (.pointer none) (by kernel_rfl) rfl (by kernel_rfl) (by decide) (R.ptr g) 77 w
 have a139:=fun w=>ta_eq (P:=Tryz.prog) 139 (.pointer 140) (by kernel_rfl) rfl (R.ptr g) 77 w
 clear hT hB hn hA hL
 obtain ⟨gl,la,lz,ls,rfl,HLC⟩:=HL.out
 go_enter Tryz.func29,Tryz.ntmps29
 go_upto_region 24 with (first
  | ((with_reducible refine gate_dst (N:=2) rfl ?_);refine bxe (cs:=#[R.ptr gt]) (t:=35) ?hr ?_;(case hr=>first | (go_simp;done) | (go_simp;rfl));intro gx hg w2 hbox hb;have B2:=mkA hb;have BX:=mkA hbox;clear hbox hb hg))
 have KP:=mkA (keeps_up (n:=B) B2.out)
 have AL:=mkA (show At (to_ B) w2 g #[.string k,R.ptr gl,.string v] 140 from HA.out.fr KP.out)
 have LCL:=mkA (show LocA (to_ B) w2 (R.ptr gl) from HL.out.fr KP.out)
 have s_0:w2.cell? ⟨gx,0,none⟩=some (R.ptr gt):=(blk_cell BX.out 0).trans rfl
 have c_0:w2.cell? ⟨g,1,none⟩=some (R.ptr gl):=(blk_cell AL.out.2 1).trans rfl
 have c_1:w2.cell? ⟨g,2,none⟩=some (.string v):=(blk_cell AL.out.2 2).trans rfl
 have T4:=mkA (show TK B gt w2 (rows) from HTK.out.step B2.out)
 have cP:=mkA (fun (u:World) (hu:Below w2.heap.size w2 u)=>(show Calls Tryz.prog 26 #[R.ptr gt,R.ptr gl,.agg #[.int .i64 16,.string v,.string ⟨#[]⟩,.string ⟨#[]⟩,.int .i64 0,.int .i64 0],.nilFunc] u (TP B gt w ((rows)++nd 16 v ⟨#[]⟩ ⟨#[]⟩ 0 [])) from (put_walk (T4.out.step hu) (LCL.out.fr (keeps_up hu)) (Nat.le_trans HBW.out (below_step B2.out hu).size) (by have h_:=HN.out;rw [nd_len] at h_;omega) (.inl ⟨rfl,rfl⟩)).mono fun e w' q=>⟨q.1,q.2.1,(TF.of HBW.out (below_step B2.out hu)).trans q.2.2⟩))
 go_still_tail 10,(by kernel_rfl)
 go_wp2_with (first
  | (go_at_call 26;refine (cP.out _ ?_).mono ?_;(first | exact below_drew1 (Below.refl _ _) | exact Below.refl _ _);rintro e w5 ⟨rfl,q1,q2⟩;have Q1:=mkA q1;have Q2:=mkA q2;clear q1 q2))
 go_end0
 exact ⟨rfl,Q1.out,Q2.out⟩
theorem clo_56 {w:World} {gt gx gv g:Nat} {x:Value} {R:Ending→World→Prop} (hx:w.heap[gx]?=some (.cells #[ptr gt] 35 (0,0))) (hv:w.heap[gv]?=some (.cells #[ptr g] 149 (0,0))) (hj:w.cell? ⟨g,3,none⟩=some x) (hc:∀ u,Below w.heap.size w u→Calls Tryz.prog 29 #[ptr gt,x] u R) (hR:∀ e w',R e w'→e=.returned (.tuple #[])):Calls Tryz.prog 56 #[ptr gx,ptr gv] w R:=by
 have s_0:w.cell? ⟨gx,0,none⟩=some (ptr gt):=(blk_cell hx 0).trans rfl
 have s_1:w.cell? ⟨gv,0,none⟩=some (ptr g):=(blk_cell hv 0).trans rfl
 have CP:=mkA hc
 have HR:=mkA hR
 clear hx hv hc hR
 go_enter Tryz.func56,Tryz.ntmps56
 go_still_tail 5,(by kernel_rfl)
 go_wp2_with (first
  | (go_at_call 29;refine (CP.out _ ?_).mono ?_;(first | exact below_drew1 (Below.refl _ _) | exact Below.refl _ _);rintro e w5 q1;obtain rfl:=HR.out _ _ q1;have Q1:=mkA q1;clear q1))
 go_end0
 exact Q1.out
theorem clo_89 {w:World} {gt gx gv g:Nat} {x:Value} {R:Ending→World→Prop} (hx:w.heap[gx]?=some (.cells #[ptr gt] 35 (0,0))) (hv:w.heap[gv]?=some (.cells #[ptr g] 191 (0,0))) (hj:w.cell? ⟨g,3,none⟩=some x) (hc:∀ u,Below w.heap.size w u→Calls Tryz.prog 29 #[ptr gt,x] u R) (hR:∀ e w',R e w'→e=.returned (.tuple #[])):Calls Tryz.prog 89 #[ptr gx,ptr gv] w R:=by
 have s_0:w.cell? ⟨gx,0,none⟩=some (ptr gt):=(blk_cell hx 0).trans rfl
 have s_1:w.cell? ⟨gv,0,none⟩=some (ptr g):=(blk_cell hv 0).trans rfl
 have CP:=mkA hc
 have HR:=mkA hR
 clear hx hv hc hR
 go_enter Tryz.func89,Tryz.ntmps89
 go_still_tail 5,(by kernel_rfl)
 go_wp2_with (first
  | (go_at_call 29;refine (CP.out _ ?_).mono ?_;(first | exact below_drew1 (Below.refl _ _) | exact Below.refl _ _);rintro e w5 q1;obtain rfl:=HR.out _ _ q1;have Q1:=mkA q1;clear q1))
 go_end0
 exact Q1.out
theorem clo_90 {w:World} {gt gx gv g:Nat} {x:Value} {R:Ending→World→Prop} (hx:w.heap[gx]?=some (.cells #[ptr gt] 35 (0,0))) (hv:w.heap[gv]?=some (.cells #[ptr g] 194 (0,0))) (hj:w.cell? ⟨g,3,none⟩=some x) (hc:∀ u,Below w.heap.size w u→Calls Tryz.prog 61 #[ptr gt,x] u R) (hR:∀ e w',R e w'→e=.returned (.tuple #[])):Calls Tryz.prog 90 #[ptr gx,ptr gv] w R:=by
 have s_0:w.cell? ⟨gx,0,none⟩=some (ptr gt):=(blk_cell hx 0).trans rfl
 have s_1:w.cell? ⟨gv,0,none⟩=some (ptr g):=(blk_cell hv 0).trans rfl
 have CP:=mkA hc
 have HR:=mkA hR
 clear hx hv hc hR
 go_enter Tryz.func90,Tryz.ntmps90
 go_still_tail 5,(by kernel_rfl)
 go_wp2_with (first
  | (go_at_call 61;refine (CP.out _ ?_).mono ?_;(first | exact below_drew1 (Below.refl _ _) | exact Below.refl _ _);rintro e w5 q1;obtain rfl:=HR.out _ _ q1;have Q1:=mkA q1;clear q1))
 go_end0
 exact Q1.out
theorem clo_63 {w:World} {gt gx gv g:Nat} {x:Value} {R:Ending→World→Prop} (hx:w.heap[gx]?=some (.cells #[ptr gt] 35 (0,0))) (hv:w.heap[gv]?=some (.cells #[ptr g] 161 (0,0))) (hj:w.cell? ⟨g,3,none⟩=some x) (hc:∀ u,Below w.heap.size w u→Calls Tryz.prog 62 #[ptr gt,x] u R) (hR:∀ e w',R e w'→e=.returned (.tuple #[])):Calls Tryz.prog 63 #[ptr gx,ptr gv] w R:=by
 have s_0:w.cell? ⟨gx,0,none⟩=some (ptr gt):=(blk_cell hx 0).trans rfl
 have s_1:w.cell? ⟨gv,0,none⟩=some (ptr g):=(blk_cell hv 0).trans rfl
 have CP:=mkA hc
 have HR:=mkA hR
 clear hx hv hc hR
 go_enter Tryz.func63,Tryz.ntmps63
 go_still_tail 5,(by kernel_rfl)
 go_wp2_with (first
  | (go_at_call 62;refine (CP.out _ ?_).mono ?_;(first | exact below_drew1 (Below.refl _ _) | exact Below.refl _ _);rintro e w5 q1;obtain rfl:=HR.out _ _ q1;have Q1:=mkA q1;clear q1))
 go_end0
 exact Q1.out
end Go.Proofs.YthgcghpcikbnkaaGreatDoor.R
