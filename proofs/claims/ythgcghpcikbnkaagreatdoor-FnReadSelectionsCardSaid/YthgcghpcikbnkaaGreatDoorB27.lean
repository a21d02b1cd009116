/- A part of the proof of the theorem of this claim: PFnReadVariablesx5. No condition of its own. -/
import Derived.Test.YthgcghpcikbnkaaGreatDoorB3
import Derived.Test.YthgcghpcikbnkaaGreatDoorB26
set_option maxHeartbeats 16000000
set_option maxRecDepth 100000
namespace Go.Proofs.YthgcghpcikbnkaaGreatDoor.PFnReadVariables
open Go.RowKit Go.Proofs.YthgcghpcikbnkaaGreatDoorW.PrintWords Go.Proofs.YthgcghpcikbnkaaGreatDoorW.PrintLast Go.Proofs.YthgcghpcikbnkaaGreatDoorW.PrintMore
attribute [local go_sem] max2_int min2_int max_two min_two max_three min_three max_four min_four
set_option linter.unusedVariables false
set_option linter.unusedSimpArgs false
mutual
def spec_plainBlock.j0:Nat→List ByteArray→Int→Bool→Option (Bool)
 | 0,_,_,_=>none
 | k+1,x3,x4,x22=>if x22=true then (some false) else (spec_plainBlock.l0 k x3 x4 1)
def spec_plainBlock.l0:Nat→List ByteArray→Int→Int→Option (Bool)
 | 0,_,_,_=>none
 | k+1,x3,x4,x5=>if x5 < (x3.length:Int) then (if 0≤x5 then ((spec_leading.f k (rdOf ByteArray.empty x3 x5)).bind fun t191=>(if t191=((rdOf ByteArray.empty x3 x5).size:Int) then (if ((rdOf ByteArray.empty x3 x5).size:Int) > 0 then (if ((rdOf ByteArray.empty x3 x5).size:Int) < x4 then (some false) else (spec_plainBlock.l0 k x3 x4 (wrap64 (x5+1)))) else (spec_plainBlock.l0 k x3 x4 (wrap64 (x5+1)))) else (spec_plainBlock.l0 k x3 x4 (wrap64 (x5+1))))) else (none)) else (some true)
end
def spec_plainBlock.f (k:Nat) (a0:ByteArray):Option (Bool):=(spec_Lines.f k a0).bind fun t183=>((spec_common.f k t183).bind fun t186=>(if t186 > 0 then (if 0 < (t183.length:Int) then ((spec_leading.f k (rdOf ByteArray.empty t183 0)).bind fun t188=>(spec_plainBlock.j0 k t183 t186 (decide (t188 < ((rdOf ByteArray.empty t183 0).size:Int))))) else (none)) else (spec_plainBlock.j0 k t183 t186 false)))
theorem spec_plainBlock.mono_l:∀ k,(∀ y0 y1 y2,LeO (spec_plainBlock.j0 k y0 y1 y2) (spec_plainBlock.j0 (k+1) y0 y1 y2))∧(∀ y0 y1 y2,LeO (spec_plainBlock.l0 k y0 y1 y2) (spec_plainBlock.l0 (k+1) y0 y1 y2))
 | 0=>⟨fun _ _ _ r h=>by simp [spec_plainBlock.j0] at h,fun _ _ _ r h=>by simp [spec_plainBlock.l0] at h⟩
 | k+1=>by
   obtain ⟨ih0,ih1⟩:=spec_plainBlock.mono_l k
   refine ⟨?_,?_⟩
   ·intro y0 y1 y2
    unfold spec_plainBlock.j0
    repeat' first
    | (with_reducible exact ih0 _ _ _)
    | (with_reducible exact ih1 _ _ _)
    | (with_reducible exact spec_Lines.mono _ _)
    | (with_reducible exact spec_common.mono _ _)
    | (with_reducible exact spec_leading.mono _ _)
    | (with_reducible exact LeO.refl _)
    | (with_reducible exact LeO.none _)
    | (with_reducible refine LeO.ite ?_ ?_)
    | (with_reducible refine LeO.bind ?_ (fun _=>?_))
   ·intro y0 y1 y2
    unfold spec_plainBlock.l0
    repeat' first
    | (with_reducible exact ih0 _ _ _)
    | (with_reducible exact ih1 _ _ _)
    | (with_reducible exact spec_Lines.mono _ _)
    | (with_reducible exact spec_common.mono _ _)
    | (with_reducible exact spec_leading.mono _ _)
    | (with_reducible exact LeO.refl _)
    | (with_reducible exact LeO.none _)
    | (with_reducible refine LeO.ite ?_ ?_)
    | (with_reducible refine LeO.bind ?_ (fun _=>?_))
theorem spec_plainBlock.mono:∀ a0 k,LeO (spec_plainBlock.f k a0) (spec_plainBlock.f (k+1) a0):=by
 intro a0 k
 obtain ⟨ih0,ih1⟩:=spec_plainBlock.mono_l k
 unfold spec_plainBlock.f
 repeat' first
  | (with_reducible exact ih0 _ _ _)
  | (with_reducible exact ih1 _ _ _)
  | (with_reducible exact spec_Lines.mono _ _)
  | (with_reducible exact spec_common.mono _ _)
  | (with_reducible exact spec_leading.mono _ _)
  | (with_reducible exact LeO.refl _)
  | (with_reducible exact LeO.none _)
  | (with_reducible refine LeO.ite ?_ ?_)
  | (with_reducible refine LeO.bind ?_ (fun _=>?_))
set_option maxHeartbeats 8000000 in
set_option maxRecDepth 100000 in
theorem spec_plainBlock.calls (k:Nat) (a0:ByteArray) (r:Bool) (w:World) (h:spec_plainBlock.f k a0=some r) :
 Calls Tryz.prog 93 #[.string a0] w fun e w'=>e=.returned (.bool r)∧Below w.heap.size w w':=by
 have HB:=Aside0.mk (Below.refl w.heap.size w)
 have H:((spec_Lines.f k a0).bind fun t183=>((spec_common.f k t183).bind fun t186=>(if t186 > 0 then (if 0 < (t183.length:Int) then ((spec_leading.f k (rdOf ByteArray.empty t183 0)).bind fun t188=>(spec_plainBlock.j0 k t183 t186 (decide (t188 < ((rdOf ByteArray.empty t183 0).size:Int))))) else (none)) else (spec_plainBlock.j0 k t183 t186 false))))=some r:=h
 clear h
 replace H:=Option.bind_eq_some_iff.mp H
 obtain ⟨t183,A20,H⟩:=H
 replace H:((spec_common.f k t183).bind fun t186=>(if t186 > 0 then (if 0 < (t183.length:Int) then ((spec_leading.f k (rdOf ByteArray.empty t183 0)).bind fun t188=>(spec_plainBlock.j0 k t183 t186 (decide (t188 < ((rdOf ByteArray.empty t183 0).size:Int))))) else (none)) else (spec_plainBlock.j0 k t183 t186 false)))=some r:=H
 have A2:=Aside0.mk A20
 clear A20
 replace H:=Option.bind_eq_some_iff.mp H
 obtain ⟨t186,A30,H⟩:=H
 replace H:(if t186 > 0 then (if 0 < (t183.length:Int) then ((spec_leading.f k (rdOf ByteArray.empty t183 0)).bind fun t188=>(spec_plainBlock.j0 k t183 t186 (decide (t188 < ((rdOf ByteArray.empty t183 0).size:Int))))) else (none)) else (spec_plainBlock.j0 k t183 t186 false))=some r:=H
 have A3:=Aside0.mk A30
 clear A30
 have HC4:=Aside0.mk H
 clear H
 go_enter Tryz.func93,Tryz.ntmps93
 go_upto_region 3 with (first | (go_at_call 122;(with_reducible refine (spec_Lines.calls k a0 t183 _ A2.out).mono ?_);rintro e w5 ⟨v184,rfl,ho0,hb⟩;have n0_:=Aside0.mk (Kd.R_lower ho0 (below_size (by repeat (first | (with_reducible first | exact HB.out | apply below_alloc | apply pw_below_drewN | apply below_drew1) | exact HB.out))));have n1_:=Aside0.mk (below_step (by repeat (first | (with_reducible first | exact HB.out | apply below_alloc | apply pw_below_drewN | apply below_drew1) | exact HB.out)) hb);clear HB;have HO185:=n0_;have HB:=n1_;clear n0_ n1_;(try clear hb);(try clear hb2);(try clear hk);(try clear hi);(try clear ho0);obtain ⟨Ao6,co6,eo6⟩:=Kd.R_slice HO185.out;subst eo6) | (go_at_call 123;(with_reducible refine (spec_common.calls k _ _ t183 t186 _ ?side1 ?side2 A3.out).mono ?_);(case side1=>repeat (first | exact (Kd.R_reads' HO185.out).2.2 | (with_reducible refine Kd.C_alloc ?_ _) | (with_reducible refine Kd.C_drewN ?_ _) | (with_reducible refine Kd.C_drew ?_)));(case side2=>exact (Kd.R_reads' HO185.out).2.1);rintro e w7 ⟨rfl,hb⟩;have n0_:=Aside0.mk (Kd.R_below (by (with_reducible repeat (first | apply Kd.R_alloc | apply Kd.R_drewN | apply Kd.R_drew));exact HO185.out) hb);have n1_:=Aside0.mk (below_step (by repeat (first | (with_reducible first | exact HB.out | apply below_alloc | apply pw_below_drewN | apply below_drew1) | exact HB.out)) hb);clear HO185;clear HB;have HO185:=n0_;have HB:=n1_;clear n0_ n1_;(try clear hb);(try clear hb2);(try clear hk);(try clear hi)))
 repeat (go_quiet (first | (go_at_call 122;(with_reducible refine (spec_Lines.calls k a0 t183 _ A2.out).mono ?_);rintro e w5 ⟨v184,rfl,ho0,hb⟩;have n0_:=Aside0.mk (Kd.R_lower ho0 (below_size (by repeat (first | (with_reducible first | exact HB.out | apply below_alloc | apply pw_below_drewN | apply below_drew1) | exact HB.out))));have n1_:=Aside0.mk (below_step (by repeat (first | (with_reducible first | exact HB.out | apply below_alloc | apply pw_below_drewN | apply below_drew1) | exact HB.out)) hb);clear HB;have HO185:=n0_;have HB:=n1_;clear n0_ n1_;(try clear hb);(try clear hb2);(try clear hk);(try clear hi);(try clear ho0);obtain ⟨Ao6,co6,eo6⟩:=Kd.R_slice HO185.out;subst eo6) | (go_at_call 123;(with_reducible refine (spec_common.calls k _ _ t183 t186 _ ?side1 ?side2 A3.out).mono ?_);(case side1=>repeat (first | exact (Kd.R_reads' HO185.out).2.2 | (with_reducible refine Kd.C_alloc ?_ _) | (with_reducible refine Kd.C_drewN ?_ _) | (with_reducible refine Kd.C_drew ?_)));(case side2=>exact (Kd.R_reads' HO185.out).2.1);rintro e w7 ⟨rfl,hb⟩;have n0_:=Aside0.mk (Kd.R_below (by (with_reducible repeat (first | apply Kd.R_alloc | apply Kd.R_drewN | apply Kd.R_drew));exact HO185.out) hb);have n1_:=Aside0.mk (below_step (by repeat (first | (with_reducible first | exact HB.out | apply below_alloc | apply pw_below_drewN | apply below_drew1) | exact HB.out)) hb);clear HO185;clear HB;have HO185:=n0_;have HB:=n1_;clear n0_ n1_;(try clear hb);(try clear hb2);(try clear hk);(try clear hi)));go_upto_region 3 with (first | (go_at_call 122;(with_reducible refine (spec_Lines.calls k a0 t183 _ A2.out).mono ?_);rintro e w5 ⟨v184,rfl,ho0,hb⟩;have n0_:=Aside0.mk (Kd.R_lower ho0 (below_size (by repeat (first | (with_reducible first | exact HB.out | apply below_alloc | apply pw_below_drewN | apply below_drew1) | exact HB.out))));have n1_:=Aside0.mk (below_step (by repeat (first | (with_reducible first | exact HB.out | apply below_alloc | apply pw_below_drewN | apply below_drew1) | exact HB.out)) hb);clear HB;have HO185:=n0_;have HB:=n1_;clear n0_ n1_;(try clear hb);(try clear hb2);(try clear hk);(try clear hi);(try clear ho0);obtain ⟨Ao6,co6,eo6⟩:=Kd.R_slice HO185.out;subst eo6) | (go_at_call 123;(with_reducible refine (spec_common.calls k _ _ t183 t186 _ ?side1 ?side2 A3.out).mono ?_);(case side1=>repeat (first | exact (Kd.R_reads' HO185.out).2.2 | (with_reducible refine Kd.C_alloc ?_ _) | (with_reducible refine Kd.C_drewN ?_ _) | (with_reducible refine Kd.C_drew ?_)));(case side2=>exact (Kd.R_reads' HO185.out).2.1);rintro e w7 ⟨rfl,hb⟩;have n0_:=Aside0.mk (Kd.R_below (by (with_reducible repeat (first | apply Kd.R_alloc | apply Kd.R_drewN | apply Kd.R_drew));exact HO185.out) hb);have n1_:=Aside0.mk (below_step (by repeat (first | (with_reducible first | exact HB.out | apply below_alloc | apply pw_below_drewN | apply below_drew1) | exact HB.out)) hb);clear HO185;clear HB;have HO185:=n0_;have HB:=n1_;clear n0_ n1_;(try clear hb);(try clear hb2);(try clear hk);(try clear hi))))
 (try simp only [Act.put,List.setIfInBounds_toArray,List.set_cons_zero,List.set_cons_succ])
 go_cut [22] (fun v22 wc=>∃ (kq:Nat) (x22_3:Bool),v22=.bool x22_3∧Aside0 (spec_plainBlock.j0 kq t183 t186 x22_3=some r)∧Aside0 (kq≤k)∧Aside0 (Kd.R Kd.string 9 wc w.heap.size (fun _=>True) (.slice Ao6 t183.length co6) t183)∧Aside0 (Below w.heap.size w wc))
 case first =>
  have H:=HC4.out
  clear HC4
  by_cases c8:t186 > 0
  ·rw [if_pos c8] at H
   have c8b0:decide (0 < t186)=true:=decide_eq_true c8
   clear c8
   (first | rw [c8b0] | (simp only [i64_w,i32_w];rw [c8b0]) | skip)
   by_cases c9:0 < (t183.length:Int)
   ·rw [if_pos c9] at H
    have c9b0:decide (0 < (t183.length:Int))=true:=decide_eq_true c9
    have c9b1:decide (0 < t183.length)=true:=decide_eq_true (by omega)
    clear c9
    replace H:=Option.bind_eq_some_iff.mp H
    obtain ⟨t188,A100,H⟩:=H
    replace H:(spec_plainBlock.j0 k t183 t186 (decide (t188 < ((rdOf ByteArray.empty t183 0).size:Int))))=some r:=H
    have A10:=Aside0.mk A100
    clear A100
    have H':=Aside0.mk H
    clear H
    have p187:0≤(0:Int):=(by omega)
    have q187:0 < (t183.length:Int):=of_decide_eq_true (by first | (with_reducible assumption) | assumption)
    obtain ⟨ad187,e187,hx187_0⟩:=Kd.at_string (Kd.R_reads' HO185.out).2.2 0 p187 q187
    cases e187
    have qi187:(0 < t183.length)=True:=eq_true (by omega)
    (try rw [show ((0:Int)).toNat=0 from rfl] at hx187_0)
    (try rw [Addr.add_zero'] at hx187_0)
    replace p187:=eq_true p187
    replace q187:=eq_true q187
    go_wp2_with (first | (go_at_call 124;(with_reducible refine (spec_leading.calls k (rdOf ByteArray.empty t183 0) t188 _ A10.out).mono ?_);rintro e w' ⟨rfl,⟨nd,rfl⟩⟩;(try first | exact ⟨rfl,_,World.drewN_drewN _ _ _⟩ | exact ⟨rfl,_,Eq.trans (World.drewN_drewN _ _ _) (congrArg (World.drewN _) (Nat.add_assoc _ _ _))⟩)))
    repeat (go_quiet (first | (go_at_call 124;(with_reducible refine (spec_leading.calls k (rdOf ByteArray.empty t183 0) t188 _ A10.out).mono ?_);rintro e w' ⟨rfl,⟨nd,rfl⟩⟩;(try first | exact ⟨rfl,_,World.drewN_drewN _ _ _⟩ | exact ⟨rfl,_,Eq.trans (World.drewN_drewN _ _ _) (congrArg (World.drewN _) (Nat.add_assoc _ _ _))⟩)));try go_wp2_with (first | (go_at_call 124;(with_reducible refine (spec_leading.calls k (rdOf ByteArray.empty t183 0) t188 _ A10.out).mono ?_);rintro e w' ⟨rfl,⟨nd,rfl⟩⟩;(try first | exact ⟨rfl,_,World.drewN_drewN _ _ _⟩ | exact ⟨rfl,_,Eq.trans (World.drewN_drewN _ _ _) (congrArg (World.drewN _) (Nat.add_assoc _ _ _))⟩))))
    go_meet
    case rel=>exact ⟨_,(decide (t188 < ((rdOf ByteArray.empty t183 0).size:Int))),(by first | rfl | (simp;done) | (simp [*];done)),H',⟨by first | omega | exact Nat.le_refl _⟩,⟨by (with_reducible repeat (first | apply Kd.R_alloc | apply Kd.R_drewN | apply Kd.R_drew));exact HO185.out⟩,⟨by repeat (first | (with_reducible first | exact HB.out | apply below_alloc | apply pw_below_drewN | apply below_drew1) | exact HB.out)⟩⟩
   ·rw [if_neg c9] at H
    exact absurd H (by simp)
  ·rw [if_neg c8] at H
   have c8b0:decide (0 < t186)=false:=decide_eq_false c8
   clear c8
   (first | rw [c8b0] | (simp only [i64_w,i32_w];rw [c8b0]) | skip)
   have H':=Aside0.mk H
   clear H
   go_wp2
   repeat (go_quiet (fail);try go_wp2)
   go_meet
   case rel=>exact ⟨_,(false),(by first | rfl | (simp;done) | (simp [*];done)),H',⟨by first | omega | exact Nat.le_refl _⟩,⟨by (with_reducible repeat (first | apply Kd.R_alloc | apply Kd.R_drewN | apply Kd.R_drew));exact HO185.out⟩,⟨by repeat (first | (with_reducible first | exact HB.out | apply below_alloc | apply pw_below_drewN | apply below_drew1) | exact HB.out)⟩⟩
 case rest =>
  clear HC4
  try clear p1
  try clear q1
  try clear hx1
  try clear qi1
  try clear p2
  try clear c8
  try clear c8b0
  try clear c9
  try clear c9b0
  try clear c9b1
  try clear hx187_0
  try clear hx189_0
  try clear p187
  try clear p189
  try clear q187
  try clear q189
  obtain ⟨kq,x22_3,rfl,HA,HJ3,HO_3,HB⟩:=hcut
  cases kq with
  | zero=>exact absurd HA.out (by simp [spec_plainBlock.j0])
  | succ kj3 =>
    have H:=HA.out
    clear HA
    simp only [spec_plainBlock.j0] at H
    by_cases c11:x22_3=true
    ·subst c11
     have H1:(some false)=some r:=by rw [if_pos rfl] at H;exact H
     clear H
     have H:=H1
     clear H1
     obtain rfl:=Option.some.inj H
     go_wp2
     repeat (go_quiet (fail);try go_wp2)
     go_ret
     exact ⟨by first | rfl | (simp [errW_none,errW_some] <;> rfl) | (simp [*,errW_none,errW_some] <;> rfl),by repeat (first | (with_reducible first | exact HB.out | apply below_alloc | apply pw_below_drewN | apply below_drew1) | exact HB.out)⟩
    ·replace c11:=Bool.eq_false_iff.mpr c11
     subst c11
     have H1:(spec_plainBlock.l0 kj3 t183 t186 1)=some r:=by rw [if_neg (show ¬ (false=true) by decide)] at H;exact H
     clear H
     have H:=H1
     clear H1
     have H':=Aside0.mk H
     clear H
     go_wp2
     repeat (go_quiet (fail);try go_wp2)
     go_loopg [5] kj3 (fun kq v5 w'=>∃ (x5_2:Int),v5=.int .i64 x5_2∧Aside0 (spec_plainBlock.l0 kq t183 t186 x5_2=some r)∧Aside0 (kq≤kj3)∧Aside0 (Kd.R Kd.string 9 w' w.heap.size (fun _=>True) (.slice Ao6 t183.length co6) t183)∧Aside0 (Below w.heap.size w w'))
     case atStart=>exact ⟨(1),(by first | rfl | (simp;done) | (simp [*];done)),H',⟨Nat.le_refl _⟩,⟨by (with_reducible repeat (first | apply Kd.R_alloc | apply Kd.R_drewN | apply Kd.R_drew));exact HO_3.out⟩,⟨by repeat (first | (with_reducible first | exact HB.out | apply below_alloc | apply pw_below_drewN | apply below_drew1) | exact HB.out)⟩⟩
     case round =>
      clear H'
      try clear c1
      try clear p1
      try clear q1
      try clear hx1
      try clear qi1
      try clear p2
      try clear c8
      try clear c8b0
      try clear c9
      try clear c9b0
      try clear c9b1
      try clear c11
      try clear hx187_0
      try clear hx189_0
      try clear p187
      try clear p189
      try clear q187
      try clear q189
      obtain ⟨x5_2,rfl,HA,HK2,HO_3,HB⟩:=hrel
      cases gk with
      | zero=>exact absurd HA.out (by simp [spec_plainBlock.l0])
      | succ k2 =>
        have H:=HA.out
        clear HA
        simp only [spec_plainBlock.l0] at H
        by_cases c12:x5_2 < (t183.length:Int)
        ·rw [if_pos c12] at H
         have c12b0:decide (x5_2 < (t183.length:Int))=true:=decide_eq_true c12
         clear c12
         by_cases c13:0≤x5_2
         ·rw [if_pos c13] at H
          have c13b0:decide (0≤x5_2)=true:=decide_eq_true c13
          clear c13
          replace H:=Option.bind_eq_some_iff.mp H
          obtain ⟨t191,A140,H⟩:=H
          replace H:(if t191=((rdOf ByteArray.empty t183 x5_2).size:Int) then (if ((rdOf ByteArray.empty t183 x5_2).size:Int) > 0 then (if ((rdOf ByteArray.empty t183 x5_2).size:Int) < t186 then (some false) else (spec_plainBlock.l0 k2 t183 t186 (wrap64 (x5_2+1)))) else (spec_plainBlock.l0 k2 t183 t186 (wrap64 (x5_2+1)))) else (spec_plainBlock.l0 k2 t183 t186 (wrap64 (x5_2+1))))=some r:=H
          have A14:=Aside0.mk A140
          clear A140
          by_cases c15:t191=((rdOf ByteArray.empty t183 x5_2).size:Int)
          ·rw [if_pos c15] at H
           have c15b0:(t191 == ((rdOf ByteArray.empty t183 x5_2).size:Int))=true:=beq_iff_eq.mpr c15
           have c15b1:(t191 != ((rdOf ByteArray.empty t183 x5_2).size:Int))=false:=bne_eq_false_iff_eq.mpr c15
           clear c15
           by_cases c16:((rdOf ByteArray.empty t183 x5_2).size:Int) > 0
           ·rw [if_pos c16] at H
            have c16b0:decide (0 < ((rdOf ByteArray.empty t183 x5_2).size:Int))=true:=decide_eq_true c16
            have c16b1:decide (0 < (rdOf ByteArray.empty t183 x5_2).size)=true:=decide_eq_true (by omega)
            clear c16
            by_cases c17:((rdOf ByteArray.empty t183 x5_2).size:Int) < t186
            ·rw [if_pos c17] at H
             have c17b0:decide (((rdOf ByteArray.empty t183 x5_2).size:Int) < t186)=true:=decide_eq_true c17
             clear c17
             obtain rfl:=Option.some.inj H
             have p190:0≤(x5_2:Int):=of_decide_eq_true (by first | (with_reducible assumption) | assumption)
             have q190:x5_2 < (t183.length:Int):=of_decide_eq_true (by first | (with_reducible assumption) | assumption)
             obtain ⟨ad190,e190,hx190_0⟩:=Kd.at_string (Kd.R_reads' HO_3.out).2.2 x5_2 p190 q190
             cases e190
             replace p190:=eq_true p190
             replace q190:=eq_true q190
             go_wp2_with (first | (go_at_call 124;(with_reducible refine (spec_leading.calls k2 (rdOf ByteArray.empty t183 x5_2) t191 _ A14.out).mono ?_);rintro e w' ⟨rfl,⟨nd,rfl⟩⟩;(try first | exact ⟨rfl,_,World.drewN_drewN _ _ _⟩ | exact ⟨rfl,_,Eq.trans (World.drewN_drewN _ _ _) (congrArg (World.drewN _) (Nat.add_assoc _ _ _))⟩)))
             repeat (go_quiet (first | (go_at_call 124;(with_reducible refine (spec_leading.calls k2 (rdOf ByteArray.empty t183 x5_2) t191 _ A14.out).mono ?_);rintro e w' ⟨rfl,⟨nd,rfl⟩⟩;(try first | exact ⟨rfl,_,World.drewN_drewN _ _ _⟩ | exact ⟨rfl,_,Eq.trans (World.drewN_drewN _ _ _) (congrArg (World.drewN _) (Nat.add_assoc _ _ _))⟩)));try go_wp2_with (first | (go_at_call 124;(with_reducible refine (spec_leading.calls k2 (rdOf ByteArray.empty t183 x5_2) t191 _ A14.out).mono ?_);rintro e w' ⟨rfl,⟨nd,rfl⟩⟩;(try first | exact ⟨rfl,_,World.drewN_drewN _ _ _⟩ | exact ⟨rfl,_,Eq.trans (World.drewN_drewN _ _ _) (congrArg (World.drewN _) (Nat.add_assoc _ _ _))⟩))))
             go_ret
             exact ⟨by first | rfl | (simp [errW_none,errW_some] <;> rfl) | (simp [*,errW_none,errW_some] <;> rfl),by repeat (first | (with_reducible first | exact HB.out | apply below_alloc | apply pw_below_drewN | apply below_drew1) | exact HB.out)⟩
            ·rw [if_neg c17] at H
             have c17b0:decide (((rdOf ByteArray.empty t183 x5_2).size:Int) < t186)=false:=decide_eq_false c17
             clear c17
             have H':=Aside0.mk H
             clear H
             have p190:0≤(x5_2:Int):=of_decide_eq_true (by first | (with_reducible assumption) | assumption)
             have q190:x5_2 < (t183.length:Int):=of_decide_eq_true (by first | (with_reducible assumption) | assumption)
             obtain ⟨ad190,e190,hx190_0⟩:=Kd.at_string (Kd.R_reads' HO_3.out).2.2 x5_2 p190 q190
             cases e190
             replace p190:=eq_true p190
             replace q190:=eq_true q190
             go_wp2_with (first | (go_at_call 124;(with_reducible refine (spec_leading.calls k2 (rdOf ByteArray.empty t183 x5_2) t191 _ A14.out).mono ?_);rintro e w' ⟨rfl,⟨nd,rfl⟩⟩;(try first | exact ⟨rfl,_,World.drewN_drewN _ _ _⟩ | exact ⟨rfl,_,Eq.trans (World.drewN_drewN _ _ _) (congrArg (World.drewN _) (Nat.add_assoc _ _ _))⟩)))
             repeat (go_quiet (first | (go_at_call 124;(with_reducible refine (spec_leading.calls k2 (rdOf ByteArray.empty t183 x5_2) t191 _ A14.out).mono ?_);rintro e w' ⟨rfl,⟨nd,rfl⟩⟩;(try first | exact ⟨rfl,_,World.drewN_drewN _ _ _⟩ | exact ⟨rfl,_,Eq.trans (World.drewN_drewN _ _ _) (congrArg (World.drewN _) (Nat.add_assoc _ _ _))⟩)));try go_wp2_with (first | (go_at_call 124;(with_reducible refine (spec_leading.calls k2 (rdOf ByteArray.empty t183 x5_2) t191 _ A14.out).mono ?_);rintro e w' ⟨rfl,⟨nd,rfl⟩⟩;(try first | exact ⟨rfl,_,World.drewN_drewN _ _ _⟩ | exact ⟨rfl,_,Eq.trans (World.drewN_drewN _ _ _) (congrArg (World.drewN _) (Nat.add_assoc _ _ _))⟩))))
             go_roundg k2
             case measure=>have:=HJ3.out;have:=HK2.out;omega
             case rel=>exact ⟨(wrap64 (x5_2+1)),(by first | rfl | (simp;done) | (simp [*];done)),H',⟨by have:=HJ3.out;have:=HK2.out;omega⟩,⟨by (with_reducible repeat (first | apply Kd.R_alloc | apply Kd.R_drewN | apply Kd.R_drew));exact HO_3.out⟩,⟨by repeat (first | (with_reducible first | exact HB.out | apply below_alloc | apply pw_below_drewN | apply below_drew1) | exact HB.out)⟩⟩
           ·rw [if_neg c16] at H
            have c16b0:decide (0 < ((rdOf ByteArray.empty t183 x5_2).size:Int))=false:=decide_eq_false c16
            have c16b1:decide (0 < (rdOf ByteArray.empty t183 x5_2).size)=false:=decide_eq_false (by omega)
            clear c16
            have H':=Aside0.mk H
            clear H
            have p190:0≤(x5_2:Int):=of_decide_eq_true (by first | (with_reducible assumption) | assumption)
            have q190:x5_2 < (t183.length:Int):=of_decide_eq_true (by first | (with_reducible assumption) | assumption)
            obtain ⟨ad190,e190,hx190_0⟩:=Kd.at_string (Kd.R_reads' HO_3.out).2.2 x5_2 p190 q190
            cases e190
            replace p190:=eq_true p190
            replace q190:=eq_true q190
            go_wp2_with (first | (go_at_call 124;(with_reducible refine (spec_leading.calls k2 (rdOf ByteArray.empty t183 x5_2) t191 _ A14.out).mono ?_);rintro e w' ⟨rfl,⟨nd,rfl⟩⟩;(try first | exact ⟨rfl,_,World.drewN_drewN _ _ _⟩ | exact ⟨rfl,_,Eq.trans (World.drewN_drewN _ _ _) (congrArg (World.drewN _) (Nat.add_assoc _ _ _))⟩)))
            repeat (go_quiet (first | (go_at_call 124;(with_reducible refine (spec_leading.calls k2 (rdOf ByteArray.empty t183 x5_2) t191 _ A14.out).mono ?_);rintro e w' ⟨rfl,⟨nd,rfl⟩⟩;(try first | exact ⟨rfl,_,World.drewN_drewN _ _ _⟩ | exact ⟨rfl,_,Eq.trans (World.drewN_drewN _ _ _) (congrArg (World.drewN _) (Nat.add_assoc _ _ _))⟩)));try go_wp2_with (first | (go_at_call 124;(with_reducible refine (spec_leading.calls k2 (rdOf ByteArray.empty t183 x5_2) t191 _ A14.out).mono ?_);rintro e w' ⟨rfl,⟨nd,rfl⟩⟩;(try first | exact ⟨rfl,_,World.drewN_drewN _ _ _⟩ | exact ⟨rfl,_,Eq.trans (World.drewN_drewN _ _ _) (congrArg (World.drewN _) (Nat.add_assoc _ _ _))⟩))))
            go_roundg k2
            case measure=>have:=HJ3.out;have:=HK2.out;omega
            case rel=>exact ⟨(wrap64 (x5_2+1)),(by first | rfl | (simp;done) | (simp [*];done)),H',⟨by have:=HJ3.out;have:=HK2.out;omega⟩,⟨by (with_reducible repeat (first | apply Kd.R_alloc | apply Kd.R_drewN | apply Kd.R_drew));exact HO_3.out⟩,⟨by repeat (first | (with_reducible first | exact HB.out | apply below_alloc | apply pw_below_drewN | apply below_drew1) | exact HB.out)⟩⟩
          ·rw [if_neg c15] at H
           have c15b0:(t191 == ((rdOf ByteArray.empty t183 x5_2).size:Int))=false:=beq_eq_false_iff_ne.mpr c15
           have c15b1:(t191 != ((rdOf ByteArray.empty t183 x5_2).size:Int))=true:=bne_iff_ne.mpr c15
           have H':=Aside0.mk H
           clear H
           have p190:0≤(x5_2:Int):=of_decide_eq_true (by first | (with_reducible assumption) | assumption)
           have q190:x5_2 < (t183.length:Int):=of_decide_eq_true (by first | (with_reducible assumption) | assumption)
           obtain ⟨ad190,e190,hx190_0⟩:=Kd.at_string (Kd.R_reads' HO_3.out).2.2 x5_2 p190 q190
           cases e190
           replace p190:=eq_true p190
           replace q190:=eq_true q190
           go_wp2_with (first | (go_at_call 124;(with_reducible refine (spec_leading.calls k2 (rdOf ByteArray.empty t183 x5_2) t191 _ A14.out).mono ?_);rintro e w' ⟨rfl,⟨nd,rfl⟩⟩;(try first | exact ⟨rfl,_,World.drewN_drewN _ _ _⟩ | exact ⟨rfl,_,Eq.trans (World.drewN_drewN _ _ _) (congrArg (World.drewN _) (Nat.add_assoc _ _ _))⟩)))
           repeat (go_quiet (first | (go_at_call 124;(with_reducible refine (spec_leading.calls k2 (rdOf ByteArray.empty t183 x5_2) t191 _ A14.out).mono ?_);rintro e w' ⟨rfl,⟨nd,rfl⟩⟩;(try first | exact ⟨rfl,_,World.drewN_drewN _ _ _⟩ | exact ⟨rfl,_,Eq.trans (World.drewN_drewN _ _ _) (congrArg (World.drewN _) (Nat.add_assoc _ _ _))⟩)));try go_wp2_with (first | (go_at_call 124;(with_reducible refine (spec_leading.calls k2 (rdOf ByteArray.empty t183 x5_2) t191 _ A14.out).mono ?_);rintro e w' ⟨rfl,⟨nd,rfl⟩⟩;(try first | exact ⟨rfl,_,World.drewN_drewN _ _ _⟩ | exact ⟨rfl,_,Eq.trans (World.drewN_drewN _ _ _) (congrArg (World.drewN _) (Nat.add_assoc _ _ _))⟩))))
           go_roundg k2
           case measure=>have:=HJ3.out;have:=HK2.out;omega
           case rel=>exact ⟨(wrap64 (x5_2+1)),(by first | rfl | (simp;done) | (simp [*];done)),H',⟨by have:=HJ3.out;have:=HK2.out;omega⟩,⟨by (with_reducible repeat (first | apply Kd.R_alloc | apply Kd.R_drewN | apply Kd.R_drew));exact HO_3.out⟩,⟨by repeat (first | (with_reducible first | exact HB.out | apply below_alloc | apply pw_below_drewN | apply below_drew1) | exact HB.out)⟩⟩
         ·rw [if_neg c13] at H
          exact absurd H (by simp)
        ·rw [if_neg c12] at H
         have c12b0:decide (x5_2 < (t183.length:Int))=false:=decide_eq_false c12
         clear c12
         obtain rfl:=Option.some.inj H
         go_wp2
         repeat (go_quiet (fail);try go_wp2)
         go_ret
         exact ⟨by first | rfl | (simp [errW_none,errW_some] <;> rfl) | (simp [*,errW_none,errW_some] <;> rfl),by repeat (first | (with_reducible first | exact HB.out | apply below_alloc | apply pw_below_drewN | apply below_drew1) | exact HB.out)⟩
end Go.Proofs.YthgcghpcikbnkaaGreatDoor.PFnReadVariables
