/- A part of the proof of the theorem of this claim: PblockStringValuex0, PblockStringValuex1, PblockStringValuex2. No condition of its own. -/
import Derived.Laws.RangeAny
import Derived.Laws.AppendOwn
import Derived.Laws.StructEq
import Derived.Test.YthgcghpcikbnkaaGreatDoorC15
import Derived.Test.YthgcghpcikbnkaaGreatDoorB1
import Derived.Test.YthgcghpcikbnkaaGreatDoorB2
set_option maxHeartbeats 16000000
set_option maxRecDepth 100000
namespace Go.Proofs.YthgcghpcikbnkaaGreatDoor.PblockStringValue
open Go.RowKit Go.Proofs.YthgcghpcikbnkaaGreatDoorW.PrintWords Go.Proofs.YthgcghpcikbnkaaGreatDoorW.PrintLast Go.Proofs.YthgcghpcikbnkaaGreatDoorW.PrintMore
attribute [local go_sem] max2_int min2_int max_two min_two max_three min_three max_four min_four
set_option linter.unusedVariables false
set_option linter.unusedSimpArgs false
theorem info9:(Tryz.prog.info? 9).map (fun i=>(i.zero,i.size,i.bytes))=some (some (.string ⟨#[]⟩),1,16):=by kernel_rfl

end Go.Proofs.YthgcghpcikbnkaaGreatDoor.PblockStringValue
namespace Go.Proofs.YthgcghpcikbnkaaGreatDoor.PblockStringValue
open Go.RowKit Go.Proofs.YthgcghpcikbnkaaGreatDoorW.PrintWords Go.Proofs.YthgcghpcikbnkaaGreatDoorW.PrintLast Go.Proofs.YthgcghpcikbnkaaGreatDoorW.PrintMore
attribute [local go_sem] max2_int min2_int max_two min_two max_three min_three max_four min_four
set_option linter.unusedVariables false
set_option linter.unusedSimpArgs false
mutual
def lexer_zzLines.l0:Nat→ByteArray→List ByteArray→Int→Int→Option (List ByteArray)
 | 0,_,_,_,_=>none
 | k+1,x0,x3,x4,x5=>if x5 < (x0.size:Int) then (if 0≤x5 then (if (bt x0 x5)=13 then (lexer_zzLines.j1 k x0 x3 x4 x5 false) else (lexer_zzLines.j1 k x0 x3 x4 x5 ((bt x0 x5) != 10))) else (none)) else (if 0≤x4 then (if x4≤(x0.size:Int) then (if x3.length < 8796093022208 then (some (x3++[x0.extract (x4:Int).toNat x0.size])) else (none)) else (none)) else (none))
def lexer_zzLines.j1:Nat→ByteArray→List ByteArray→Int→Int→Bool→Option (List ByteArray)
 | 0,_,_,_,_,_=>none
 | k+1,x0,x3,x4,x5,x21=>if x21=true then (lexer_zzLines.l0 k x0 x3 x4 (wrap64 (x5+1))) else (if 0≤x4 then (if x4≤x5 then (if x5≤(x0.size:Int) then (if x3.length < 8796093022208 then ((some (x3++[x0.extract (x4:Int).toNat (x5:Int).toNat]:List ByteArray)).bind fun y104=>(if 0≤x5 then (if x5 < (x0.size:Int) then (if (bt x0 x5)=13 then (if (wrap64 (x5+1)) < (x0.size:Int) then (if 0≤(wrap64 (x5+1)) then (if (bt x0 (wrap64 (x5+1)))=10 then (lexer_zzLines.l0 k x0 y104 (wrap64 ((wrap64 (x5+1))+1)) (wrap64 ((wrap64 (x5+1))+1))) else (lexer_zzLines.l0 k x0 y104 (wrap64 (x5+1)) (wrap64 (x5+1)))) else (none)) else (lexer_zzLines.l0 k x0 y104 (wrap64 (x5+1)) (wrap64 (x5+1)))) else (lexer_zzLines.l0 k x0 y104 (wrap64 (x5+1)) (wrap64 (x5+1)))) else (none)) else (none))) else (none)) else (none)) else (none)) else (none))
end
def lexer_zzLines.f (k:Nat) (a0:ByteArray):Option (List ByteArray):=lexer_zzLines.l0 k a0 ([]:List ByteArray) 0 0
theorem lexer_zzLines.mono_l:∀ k,(∀ y0 y1 y2 y3,LeO (lexer_zzLines.l0 k y0 y1 y2 y3) (lexer_zzLines.l0 (k+1) y0 y1 y2 y3))∧(∀ y0 y1 y2 y3 y4,LeO (lexer_zzLines.j1 k y0 y1 y2 y3 y4) (lexer_zzLines.j1 (k+1) y0 y1 y2 y3 y4))
 | 0=>⟨fun _ _ _ _ r h=>by simp [lexer_zzLines.l0] at h,fun _ _ _ _ _ r h=>by simp [lexer_zzLines.j1] at h⟩
 | k+1=>by
   obtain ⟨ih0,ih1⟩:=lexer_zzLines.mono_l k
   refine ⟨?_,?_⟩
   ·intro y0 y1 y2 y3
    unfold lexer_zzLines.l0
    repeat' first
    | (with_reducible exact ih0 _ _ _ _)
    | (with_reducible exact ih1 _ _ _ _ _)
    | (with_reducible exact LeO.refl _)
    | (with_reducible exact LeO.none _)
    | (with_reducible refine LeO.ite ?_ ?_)
    | (with_reducible refine LeO.bind ?_ (fun _=>?_))
   ·intro y0 y1 y2 y3 y4
    unfold lexer_zzLines.j1
    repeat' first
    | (with_reducible exact ih0 _ _ _ _)
    | (with_reducible exact ih1 _ _ _ _ _)
    | (with_reducible exact LeO.refl _)
    | (with_reducible exact LeO.none _)
    | (with_reducible refine LeO.ite ?_ ?_)
    | (with_reducible refine LeO.bind ?_ (fun _=>?_))
theorem lexer_zzLines.mono:∀ a0 k,LeO (lexer_zzLines.f k a0) (lexer_zzLines.f (k+1) a0):=by
 intro a0 k
 obtain ⟨ih0,ih1⟩:=lexer_zzLines.mono_l k
 unfold lexer_zzLines.f
 repeat' first
  | (with_reducible exact ih0 _ _ _ _)
  | (with_reducible exact ih1 _ _ _ _ _)
  | (with_reducible exact LeO.refl _)
  | (with_reducible exact LeO.none _)
  | (with_reducible refine LeO.ite ?_ ?_)
  | (with_reducible refine LeO.bind ?_ (fun _=>?_))
set_option maxHeartbeats 8000000 in
set_option maxRecDepth 100000 in
theorem lexer_zzLines.calls (k:Nat) (a0:ByteArray) (r:List ByteArray) (w:World) (h:lexer_zzLines.f k a0=some r) :
 Calls Tryz.prog 159 #[.string a0] w fun e w'=>∃ v0_:Value,e=.returned (v0_)∧Kd.R Kd.string 9 w' w.heap.size (fun _=>True) v0_ r∧Below w.heap.size w w':=by
 have HB:=Aside0.mk (Below.refl w.heap.size w)
 have H:(lexer_zzLines.l0 k a0 ([]:List ByteArray) 0 0)=some r:=h
 clear h
 have H':=Aside0.mk H
 clear H
 go_enter Tryz.func159,Tryz.ntmps159
 go_wp2
 go_loopg [3,4,5] k (fun kq v3 v4 v5 w'=>∃ (x3_1:List ByteArray) (x4_1:Int) (x5_1:Int),v4=.int .i64 x4_1∧v5=.int .i64 x5_1∧Aside0 (lexer_zzLines.l0 kq a0 x3_1 x4_1 x5_1=some r)∧Aside0 (kq≤k)∧Aside0 (Kd.R Kd.string 9 w' w.heap.size (fun _=>True) v3 x3_1)∧Aside0 (Below w.heap.size w w'))
 case atStart=>exact ⟨(([]:List ByteArray)),(0),(0),(by first | rfl | (simp;done) | (simp [*];done)),(by first | rfl | (simp;done) | (simp [*];done)),H',⟨Nat.le_refl _⟩,⟨by first | exact Kd.R_nil _ _ _ _ _ | exact Kd.N_nil _ _ _ _ _ | exact Kd.V_nil _ _ _ _ _ | exact Kd.Q_nil _ _ _ _ _ | exact Kd.S_nil _ _ _ _ _⟩,⟨by repeat (first | (with_reducible first | exact HB.out | apply below_alloc | apply pw_below_drewN | apply below_drew1) | exact HB.out)⟩⟩
 case round =>
  clear H'
  try clear c1
  obtain ⟨x3_1,x4_1,x5_1,rfl,rfl,HA,HK1,HO_3,HB⟩:=hrel
  cases gk with
  | zero=>exact absurd HA.out (by simp [lexer_zzLines.l0])
  | succ k1 =>
    have H:=HA.out
    clear HA
    simp only [lexer_zzLines.l0] at H
    by_cases c2:x5_1 < (a0.size:Int)
    ·rw [if_pos c2] at H
     have c2b0:decide (x5_1 < (a0.size:Int))=true:=decide_eq_true c2
     clear c2
     have HC3:=Aside0.mk H
     clear H
     go_upto_region 6 with (fail)
     go_cut [21] (fun v21 wc=>∃ (kq:Nat) (x21_2:Bool),v21=.bool x21_2∧Aside0 (lexer_zzLines.j1 kq a0 x3_1 x4_1 x5_1 x21_2=some r)∧Aside0 (kq≤k1)∧Aside0 (Kd.R Kd.string 9 wc w.heap.size (fun _=>True) u3 x3_1)∧Aside0 (Below w.heap.size w wc))
     case first =>
      have H:=HC3.out
      clear HC3
      by_cases c4:0≤x5_1
      ·rw [if_pos c4] at H
       have c4b0:decide (0≤x5_1)=true:=decide_eq_true c4
       clear c4
       (first | rw [c4b0] | (simp only [i64_w,i32_w];rw [c4b0]) | skip)
       by_cases c6:(bt a0 x5_1)=13
       ·rw [if_pos c6] at H
        have c6b0:((bt a0 x5_1) == 13)=true:=beq_iff_eq.mpr c6
        have c6b1:((bt a0 x5_1) != 13)=false:=bne_eq_false_iff_eq.mpr c6
        clear c6
        have H':=Aside0.mk H
        clear H
        have p5:0≤(x5_1:Int):=of_decide_eq_true (by first | (with_reducible assumption) | assumption)
        have q5:x5_1 < (a0.size:Int):=of_decide_eq_true (by first | (with_reducible assumption) | assumption)
        have hx5:=bt_at a0 x5_1
        replace p5:=eq_true p5
        replace q5:=eq_true q5
        go_wp2
        go_meet
        case rel=>exact ⟨_,(false),(by first | rfl | (simp;done) | (simp [*];done)),H',⟨by have:=HK1.out;first | omega | exact Nat.le_refl _⟩,⟨by (with_reducible repeat (first | apply Kd.R_alloc | apply Kd.R_drewN | apply Kd.R_drew));exact HO_3.out⟩,⟨by repeat (first | (with_reducible first | exact HB.out | apply below_alloc | apply pw_below_drewN | apply below_drew1) | exact HB.out)⟩⟩
       ·rw [if_neg c6] at H
        have c6b0:((bt a0 x5_1) == 13)=false:=beq_eq_false_iff_ne.mpr c6
        have c6b1:((bt a0 x5_1) != 13)=true:=bne_iff_ne.mpr c6
        have H':=Aside0.mk H
        clear H
        have p5:0≤(x5_1:Int):=of_decide_eq_true (by first | (with_reducible assumption) | assumption)
        have q5:x5_1 < (a0.size:Int):=of_decide_eq_true (by first | (with_reducible assumption) | assumption)
        have hx5:=bt_at a0 x5_1
        replace p5:=eq_true p5
        replace q5:=eq_true q5
        have p7:0≤(x5_1:Int):=of_decide_eq_true (by first | (with_reducible assumption) | assumption)
        have q7:x5_1 < (a0.size:Int):=of_decide_eq_true (by first | (with_reducible assumption) | assumption)
        have hx7:=bt_at a0 x5_1
        replace p7:=eq_true p7
        replace q7:=eq_true q7
        go_wp2
        go_meet
        case rel=>exact ⟨_,(((bt a0 x5_1) != 10)),(by first | rfl | (simp;done) | (simp [*];done)),H',⟨by have:=HK1.out;first | omega | exact Nat.le_refl _⟩,⟨by (with_reducible repeat (first | apply Kd.R_alloc | apply Kd.R_drewN | apply Kd.R_drew));exact HO_3.out⟩,⟨by repeat (first | (with_reducible first | exact HB.out | apply below_alloc | apply pw_below_drewN | apply below_drew1) | exact HB.out)⟩⟩
      ·rw [if_neg c4] at H
       exact absurd H (by simp)
     case rest =>
      clear HC3
      try clear c1
      try clear c2
      try clear c2b0
      try clear p2
      try clear c4
      try clear c4b0
      try clear p5
      try clear q5
      try clear hx5
      try clear c6
      try clear c6b0
      try clear c6b1
      try clear p7
      try clear q7
      try clear hx7
      obtain ⟨kq,x21_2,rfl,HA,HJ2,HO_3,HB⟩:=hcut
      cases kq with
      | zero=>exact absurd HA.out (by simp [lexer_zzLines.j1])
      | succ kj2 =>
        have H:=HA.out
        clear HA
        simp only [lexer_zzLines.j1] at H
        by_cases c8:x21_2=true
        ·subst c8
         have H1:(lexer_zzLines.l0 kj2 a0 x3_1 x4_1 (wrap64 (x5_1+1)))=some r:=by rw [if_pos rfl] at H;exact H
         clear H
         have H:=H1
         clear H1
         have H':=Aside0.mk H
         clear H
         go_wp2
         go_roundg kj2
         case measure=>have:=HK1.out;have:=HJ2.out;omega
         case rel=>exact ⟨(x3_1),(x4_1),(wrap64 (x5_1+1)),(by first | rfl | (simp;done) | (simp [*];done)),(by first | rfl | (simp;done) | (simp [*];done)),H',⟨by have:=HK1.out;have:=HJ2.out;omega⟩,⟨by (with_reducible repeat (first | apply Kd.R_alloc | apply Kd.R_drewN | apply Kd.R_drew));exact HO_3.out⟩,⟨by repeat (first | (with_reducible first | exact HB.out | apply below_alloc | apply pw_below_drewN | apply below_drew1) | exact HB.out)⟩⟩
        ·replace c8:=Bool.eq_false_iff.mpr c8
         subst c8
         have H1:(if 0≤x4_1 then (if x4_1≤x5_1 then (if x5_1≤(a0.size:Int) then (if x3_1.length < 8796093022208 then ((some (x3_1++[a0.extract (x4_1:Int).toNat (x5_1:Int).toNat]:List ByteArray)).bind fun y104=>(if 0≤x5_1 then (if x5_1 < (a0.size:Int) then (if (bt a0 x5_1)=13 then (if (wrap64 (x5_1+1)) < (a0.size:Int) then (if 0≤(wrap64 (x5_1+1)) then (if (bt a0 (wrap64 (x5_1+1)))=10 then (lexer_zzLines.l0 kj2 a0 y104 (wrap64 ((wrap64 (x5_1+1))+1)) (wrap64 ((wrap64 (x5_1+1))+1))) else (lexer_zzLines.l0 kj2 a0 y104 (wrap64 (x5_1+1)) (wrap64 (x5_1+1)))) else (none)) else (lexer_zzLines.l0 kj2 a0 y104 (wrap64 (x5_1+1)) (wrap64 (x5_1+1)))) else (lexer_zzLines.l0 kj2 a0 y104 (wrap64 (x5_1+1)) (wrap64 (x5_1+1)))) else (none)) else (none))) else (none)) else (none)) else (none)) else (none))=some r:=by rw [if_neg (show ¬ (false=true) by decide)] at H;exact H
         clear H
         have H:=H1
         clear H1
         by_cases c9:0≤x4_1
         ·rw [if_pos c9] at H
          have c9b0:=eq_true c9
          try (have c9s:=c9;simp only [ByteArray.size_append,ByteArray.size_extract] at c9s)
          have c9b1:decide (0≤x4_1)=true:=decide_eq_true c9
          clear c9
          by_cases c10:x4_1≤x5_1
          ·rw [if_pos c10] at H
           have c10b0:=eq_true c10
           try (have c10s:=c10;simp only [ByteArray.size_append,ByteArray.size_extract] at c10s)
           have c10b1:decide (x4_1≤x5_1)=true:=decide_eq_true c10
           clear c10
           by_cases c11:x5_1≤(a0.size:Int)
           ·rw [if_pos c11] at H
            have c11b0:=eq_true c11
            try (have c11s:=c11;simp only [ByteArray.size_append,ByteArray.size_extract] at c11s)
            have c11b1:decide (x5_1≤(a0.size:Int))=true:=decide_eq_true c11
            clear c11
            by_cases c12:x3_1.length < 8796093022208
            ·rw [if_pos c12] at H
             have LMc12:=Aside0.mk c12
             clear c12
             obtain ⟨y104,hy104⟩:∃ y_:List ByteArray,y_=(x3_1++[a0.extract (x4_1:Int).toNat (x5_1:Int).toNat]):=⟨_,rfl⟩
             replace H:(if 0≤x5_1 then (if x5_1 < (a0.size:Int) then (if (bt a0 x5_1)=13 then (if (wrap64 (x5_1+1)) < (a0.size:Int) then (if 0≤(wrap64 (x5_1+1)) then (if (bt a0 (wrap64 (x5_1+1)))=10 then (lexer_zzLines.l0 kj2 a0 y104 (wrap64 ((wrap64 (x5_1+1))+1)) (wrap64 ((wrap64 (x5_1+1))+1))) else (lexer_zzLines.l0 kj2 a0 y104 (wrap64 (x5_1+1)) (wrap64 (x5_1+1)))) else (none)) else (lexer_zzLines.l0 kj2 a0 y104 (wrap64 (x5_1+1)) (wrap64 (x5_1+1)))) else (lexer_zzLines.l0 kj2 a0 y104 (wrap64 (x5_1+1)) (wrap64 (x5_1+1)))) else (none)) else (none))=some r:=by first | (rw [hy104];with_reducible exact H) | (have H2_:=(Option.bind_some _ _).symm.trans H;rw [hy104];with_reducible exact H2_) | (have H2_:=(Option.bind_some _ _).symm.trans H;with_reducible exact H2_) | with_reducible exact H | (rw [hy104];exact H) | exact H
             have Ny104:=Aside0.mk hy104
             clear hy104
             by_cases c13:0≤x5_1
             ·rw [if_pos c13] at H
              have c13b0:decide (0≤x5_1)=true:=decide_eq_true c13
              clear c13
              by_cases c14:x5_1 < (a0.size:Int)
              ·rw [if_pos c14] at H
               have c14b0:decide (x5_1 < (a0.size:Int))=true:=decide_eq_true c14
               clear c14
               by_cases c16:(bt a0 x5_1)=13
               ·rw [if_pos c16] at H
                have c16b0:((bt a0 x5_1) == 13)=true:=beq_iff_eq.mpr c16
                have c16b1:((bt a0 x5_1) != 13)=false:=bne_eq_false_iff_eq.mpr c16
                clear c16
                by_cases c17:(wrap64 (x5_1+1)) < (a0.size:Int)
                ·rw [if_pos c17] at H
                 have c17b0:decide ((wrap64 (x5_1+1)) < (a0.size:Int))=true:=decide_eq_true c17
                 clear c17
                 obtain ⟨ji18,hji18⟩:∃ j_:Int,(wrap64 (x5_1+1))=j_:=⟨_,rfl⟩
                 replace H:(if 0≤(ji18) then (if (bt a0 (ji18))=10 then (lexer_zzLines.l0 kj2 a0 y104 (wrap64 ((ji18)+1)) (wrap64 ((ji18)+1))) else (lexer_zzLines.l0 kj2 a0 y104 ji18 ji18)) else (none))=some r:=by first | (rw [hji18] at H;exact H) | (simp only [hji18] at H ⊢;exact H)
                 (try rw [hji18] at c17b0)
                 have hji18w:(IntKind.i64.wrap (x5_1+1))=ji18:=(i64_w _).trans hji18
                 by_cases c19:0≤(ji18)
                 ·rw [if_pos c19] at H
                  have c19b0:decide (0≤(ji18))=true:=decide_eq_true c19
                  clear c19
                  by_cases c21:(bt a0 (ji18))=10
                  ·rw [if_pos c21] at H
                   have c21b0:((bt a0 (ji18)) == 10)=true:=beq_iff_eq.mpr c21
                   have c21b1:((bt a0 (ji18)) != 10)=false:=bne_eq_false_iff_eq.mpr c21
                   clear c21
                   have H':=Aside0.mk H
                   clear H
                   go_wp2_with (first | ((with_reducible refine gate_builtin (b:=.append) (xs:=#[.tmp 22,.tmp 27]) rfl ?_);(try (refine gate_guard (by rfl) ?_;dsimp only));at_builtin;refine Kd.R_append Kd.string (w0:=w) w.heap.size rfl (.tmp 22) (.tmp 27) 233 9 (.string ⟨#[]⟩) 16 rfl Tryz.underlying233 info9 rfl (by decide) (by omega) u3 x3_1 (a0.extract (x4_1:Int).toNat (x5_1:Int).toNat) [.string (a0.extract (x4_1:Int).toNat (x5_1:Int).toNat)] (fun _=>True) (fun _=>False) rfl rfl ?aP (fun _ hk=>hk.elim) ?aF ?aO ?aB ?aS ?aL ?_;(case aP=>exact rfl);(case aB=>exact (by repeat (first | (with_reducible first | exact HB.out | apply below_alloc | apply pw_below_drewN | apply below_drew1) | exact HB.out)));(case aF=>exact (fun _ _=>trivial));(case aO=>exact (by (with_reducible repeat (first | apply Kd.R_alloc | apply Kd.R_drewN | apply Kd.R_drew));exact HO_3.out));(case aS=>exact (below_size (by repeat (first | (with_reducible first | exact HB.out | apply below_alloc | apply pw_below_drewN | apply below_drew1) | exact HB.out))));(case aL=>have:=LMc12.out;omega);intro v105 w22 ho hb hg hat;rw [← Ny104.out] at ho;have n0_:=Aside0.mk (hb);have n1_:=Aside0.mk (ho);clear HB;clear HO_3;have HB:=n0_;have HO106:=n1_;clear n0_ n1_;clear ho hb hg hat;have p15:0≤(x5_1:Int):=of_decide_eq_true (by first | (with_reducible assumption) | assumption);have q15:x5_1 < (a0.size:Int):=of_decide_eq_true (by first | (with_reducible assumption) | assumption);have hx15:=bt_at a0 x5_1;replace p15:=eq_true p15;replace q15:=eq_true q15;have p20:0≤((ji18):Int):=of_decide_eq_true (by first | (with_reducible assumption) | assumption);have q20:(ji18) < (a0.size:Int):=of_decide_eq_true (by first | (with_reducible assumption) | assumption);have hx20:=bt_at a0 (ji18);replace p20:=eq_true p20;replace q20:=eq_true q20))
                   go_roundg kj2
                   case measure=>have:=HK1.out;have:=HJ2.out;omega
                   case rel=>exact ⟨(y104),(wrap64 ((ji18)+1)),(wrap64 ((ji18)+1)),(by first | rfl | (simp;done) | (simp only [← hji18] <;> (first | rfl | simp)) | (simp [*];done)),(by first | rfl | (simp;done) | (simp only [← hji18] <;> (first | rfl | simp)) | (simp [*];done)),H',⟨by have:=HK1.out;have:=HJ2.out;omega⟩,⟨by (with_reducible repeat (first | apply Kd.R_alloc | apply Kd.R_drewN | apply Kd.R_drew));exact HO106.out⟩,⟨by repeat (first | (with_reducible first | exact HB.out | apply below_alloc | apply pw_below_drewN | apply below_drew1) | exact HB.out)⟩⟩
                  ·rw [if_neg c21] at H
                   have c21b0:((bt a0 (ji18)) == 10)=false:=beq_eq_false_iff_ne.mpr c21
                   have c21b1:((bt a0 (ji18)) != 10)=true:=bne_iff_ne.mpr c21
                   have H':=Aside0.mk H
                   clear H
                   go_wp2_with (first | ((with_reducible refine gate_builtin (b:=.append) (xs:=#[.tmp 22,.tmp 27]) rfl ?_);(try (refine gate_guard (by rfl) ?_;dsimp only));at_builtin;refine Kd.R_append Kd.string (w0:=w) w.heap.size rfl (.tmp 22) (.tmp 27) 233 9 (.string ⟨#[]⟩) 16 rfl Tryz.underlying233 info9 rfl (by decide) (by omega) u3 x3_1 (a0.extract (x4_1:Int).toNat (x5_1:Int).toNat) [.string (a0.extract (x4_1:Int).toNat (x5_1:Int).toNat)] (fun _=>True) (fun _=>False) rfl rfl ?aP (fun _ hk=>hk.elim) ?aF ?aO ?aB ?aS ?aL ?_;(case aP=>exact rfl);(case aB=>exact (by repeat (first | (with_reducible first | exact HB.out | apply below_alloc | apply pw_below_drewN | apply below_drew1) | exact HB.out)));(case aF=>exact (fun _ _=>trivial));(case aO=>exact (by (with_reducible repeat (first | apply Kd.R_alloc | apply Kd.R_drewN | apply Kd.R_drew));exact HO_3.out));(case aS=>exact (below_size (by repeat (first | (with_reducible first | exact HB.out | apply below_alloc | apply pw_below_drewN | apply below_drew1) | exact HB.out))));(case aL=>have:=LMc12.out;omega);intro v105 w23 ho hb hg hat;rw [← Ny104.out] at ho;have n0_:=Aside0.mk (hb);have n1_:=Aside0.mk (ho);clear HB;clear HO_3;have HB:=n0_;have HO106:=n1_;clear n0_ n1_;clear ho hb hg hat;have p15:0≤(x5_1:Int):=of_decide_eq_true (by first | (with_reducible assumption) | assumption);have q15:x5_1 < (a0.size:Int):=of_decide_eq_true (by first | (with_reducible assumption) | assumption);have hx15:=bt_at a0 x5_1;replace p15:=eq_true p15;replace q15:=eq_true q15;have p20:0≤((ji18):Int):=of_decide_eq_true (by first | (with_reducible assumption) | assumption);have q20:(ji18) < (a0.size:Int):=of_decide_eq_true (by first | (with_reducible assumption) | assumption);have hx20:=bt_at a0 (ji18);replace p20:=eq_true p20;replace q20:=eq_true q20))
                   go_roundg kj2
                   case measure=>have:=HK1.out;have:=HJ2.out;omega
                   case rel=>exact ⟨(y104),(ji18),(ji18),(by first | rfl | (simp;done) | (simp only [← hji18] <;> (first | rfl | simp)) | (simp [*];done)),(by first | rfl | (simp;done) | (simp only [← hji18] <;> (first | rfl | simp)) | (simp [*];done)),H',⟨by have:=HK1.out;have:=HJ2.out;omega⟩,⟨by (with_reducible repeat (first | apply Kd.R_alloc | apply Kd.R_drewN | apply Kd.R_drew));exact HO106.out⟩,⟨by repeat (first | (with_reducible first | exact HB.out | apply below_alloc | apply pw_below_drewN | apply below_drew1) | exact HB.out)⟩⟩
                 ·rw [if_neg c19] at H
                  exact absurd H (by simp)
                ·rw [if_neg c17] at H
                 have c17b0:decide ((wrap64 (x5_1+1)) < (a0.size:Int))=false:=decide_eq_false c17
                 clear c17
                 have H':=Aside0.mk H
                 clear H
                 go_wp2_with (first | ((with_reducible refine gate_builtin (b:=.append) (xs:=#[.tmp 22,.tmp 27]) rfl ?_);(try (refine gate_guard (by rfl) ?_;dsimp only));at_builtin;refine Kd.R_append Kd.string (w0:=w) w.heap.size rfl (.tmp 22) (.tmp 27) 233 9 (.string ⟨#[]⟩) 16 rfl Tryz.underlying233 info9 rfl (by decide) (by omega) u3 x3_1 (a0.extract (x4_1:Int).toNat (x5_1:Int).toNat) [.string (a0.extract (x4_1:Int).toNat (x5_1:Int).toNat)] (fun _=>True) (fun _=>False) rfl rfl ?aP (fun _ hk=>hk.elim) ?aF ?aO ?aB ?aS ?aL ?_;(case aP=>exact rfl);(case aB=>exact (by repeat (first | (with_reducible first | exact HB.out | apply below_alloc | apply pw_below_drewN | apply below_drew1) | exact HB.out)));(case aF=>exact (fun _ _=>trivial));(case aO=>exact (by (with_reducible repeat (first | apply Kd.R_alloc | apply Kd.R_drewN | apply Kd.R_drew));exact HO_3.out));(case aS=>exact (below_size (by repeat (first | (with_reducible first | exact HB.out | apply below_alloc | apply pw_below_drewN | apply below_drew1) | exact HB.out))));(case aL=>have:=LMc12.out;omega);intro v105 w24 ho hb hg hat;rw [← Ny104.out] at ho;have n0_:=Aside0.mk (hb);have n1_:=Aside0.mk (ho);clear HB;clear HO_3;have HB:=n0_;have HO106:=n1_;clear n0_ n1_;clear ho hb hg hat;have p15:0≤(x5_1:Int):=of_decide_eq_true (by first | (with_reducible assumption) | assumption);have q15:x5_1 < (a0.size:Int):=of_decide_eq_true (by first | (with_reducible assumption) | assumption);have hx15:=bt_at a0 x5_1;replace p15:=eq_true p15;replace q15:=eq_true q15))
                 go_roundg kj2
                 case measure=>have:=HK1.out;have:=HJ2.out;omega
                 case rel=>exact ⟨(y104),(wrap64 (x5_1+1)),(wrap64 (x5_1+1)),(by first | rfl | (simp;done) | (simp [*];done)),(by first | rfl | (simp;done) | (simp [*];done)),H',⟨by have:=HK1.out;have:=HJ2.out;omega⟩,⟨by (with_reducible repeat (first | apply Kd.R_alloc | apply Kd.R_drewN | apply Kd.R_drew));exact HO106.out⟩,⟨by repeat (first | (with_reducible first | exact HB.out | apply below_alloc | apply pw_below_drewN | apply below_drew1) | exact HB.out)⟩⟩
               ·rw [if_neg c16] at H
                have c16b0:((bt a0 x5_1) == 13)=false:=beq_eq_false_iff_ne.mpr c16
                have c16b1:((bt a0 x5_1) != 13)=true:=bne_iff_ne.mpr c16
                have H':=Aside0.mk H
                clear H
                go_wp2_with (first | ((with_reducible refine gate_builtin (b:=.append) (xs:=#[.tmp 22,.tmp 27]) rfl ?_);(try (refine gate_guard (by rfl) ?_;dsimp only));at_builtin;refine Kd.R_append Kd.string (w0:=w) w.heap.size rfl (.tmp 22) (.tmp 27) 233 9 (.string ⟨#[]⟩) 16 rfl Tryz.underlying233 info9 rfl (by decide) (by omega) u3 x3_1 (a0.extract (x4_1:Int).toNat (x5_1:Int).toNat) [.string (a0.extract (x4_1:Int).toNat (x5_1:Int).toNat)] (fun _=>True) (fun _=>False) rfl rfl ?aP (fun _ hk=>hk.elim) ?aF ?aO ?aB ?aS ?aL ?_;(case aP=>exact rfl);(case aB=>exact (by repeat (first | (with_reducible first | exact HB.out | apply below_alloc | apply pw_below_drewN | apply below_drew1) | exact HB.out)));(case aF=>exact (fun _ _=>trivial));(case aO=>exact (by (with_reducible repeat (first | apply Kd.R_alloc | apply Kd.R_drewN | apply Kd.R_drew));exact HO_3.out));(case aS=>exact (below_size (by repeat (first | (with_reducible first | exact HB.out | apply below_alloc | apply pw_below_drewN | apply below_drew1) | exact HB.out))));(case aL=>have:=LMc12.out;omega);intro v105 w25 ho hb hg hat;rw [← Ny104.out] at ho;have n0_:=Aside0.mk (hb);have n1_:=Aside0.mk (ho);clear HB;clear HO_3;have HB:=n0_;have HO106:=n1_;clear n0_ n1_;clear ho hb hg hat;have p15:0≤(x5_1:Int):=of_decide_eq_true (by first | (with_reducible assumption) | assumption);have q15:x5_1 < (a0.size:Int):=of_decide_eq_true (by first | (with_reducible assumption) | assumption);have hx15:=bt_at a0 x5_1;replace p15:=eq_true p15;replace q15:=eq_true q15))
                go_roundg kj2
                case measure=>have:=HK1.out;have:=HJ2.out;omega
                case rel=>exact ⟨(y104),(wrap64 (x5_1+1)),(wrap64 (x5_1+1)),(by first | rfl | (simp;done) | (simp [*];done)),(by first | rfl | (simp;done) | (simp [*];done)),H',⟨by have:=HK1.out;have:=HJ2.out;omega⟩,⟨by (with_reducible repeat (first | apply Kd.R_alloc | apply Kd.R_drewN | apply Kd.R_drew));exact HO106.out⟩,⟨by repeat (first | (with_reducible first | exact HB.out | apply below_alloc | apply pw_below_drewN | apply below_drew1) | exact HB.out)⟩⟩
              ·rw [if_neg c14] at H
               exact absurd H (by simp)
             ·rw [if_neg c13] at H
              exact absurd H (by simp)
            ·rw [if_neg c12] at H
             exact absurd H (by simp)
           ·rw [if_neg c11] at H
            exact absurd H (by simp)
          ·rw [if_neg c10] at H
           exact absurd H (by simp)
         ·rw [if_neg c9] at H
          exact absurd H (by simp)
    ·rw [if_neg c2] at H
     have c2b0:decide (x5_1 < (a0.size:Int))=false:=decide_eq_false c2
     clear c2
     by_cases c26:0≤x4_1
     ·rw [if_pos c26] at H
      have c26b0:=eq_true c26
      try (have c26s:=c26;simp only [ByteArray.size_append,ByteArray.size_extract] at c26s)
      have c26b1:decide (0≤x4_1)=true:=decide_eq_true c26
      clear c26
      by_cases c27:x4_1≤(a0.size:Int)
      ·rw [if_pos c27] at H
       have c27b0:=eq_true c27
       try (have c27s:=c27;simp only [ByteArray.size_append,ByteArray.size_extract] at c27s)
       have c27b1:decide (x4_1≤(a0.size:Int))=true:=decide_eq_true c27
       clear c27
       by_cases c28:x3_1.length < 8796093022208
       ·rw [if_pos c28] at H
        have LMc28:=Aside0.mk c28
        clear c28
        obtain ⟨y101,hy101⟩:∃ y_:List ByteArray,y_=(x3_1++[a0.extract (x4_1:Int).toNat a0.size]):=⟨_,rfl⟩
        replace H:(some y101)=some r:=by first | (rw [hy101];with_reducible exact H) | (have H2_:=(Option.bind_some _ _).symm.trans H;rw [hy101];with_reducible exact H2_) | (have H2_:=(Option.bind_some _ _).symm.trans H;with_reducible exact H2_) | with_reducible exact H | (rw [hy101];exact H) | exact H
        have Ny101:=Aside0.mk hy101
        clear hy101
        obtain rfl:=Option.some.inj H
        go_wp2_with (first | ((with_reducible refine gate_builtin (b:=.append) (xs:=#[.tmp 51,.tmp 55]) rfl ?_);(try (refine gate_guard (by rfl) ?_;dsimp only));at_builtin;refine Kd.R_append Kd.string (w0:=w) w.heap.size rfl (.tmp 51) (.tmp 55) 233 9 (.string ⟨#[]⟩) 16 rfl Tryz.underlying233 info9 rfl (by decide) (by omega) u3 x3_1 (a0.extract (x4_1:Int).toNat a0.size) [.string (a0.extract (x4_1:Int).toNat a0.size)] (fun _=>True) (fun _=>False) rfl rfl ?aP (fun _ hk=>hk.elim) ?aF ?aO ?aB ?aS ?aL ?_;(case aP=>exact rfl);(case aB=>exact (by repeat (first | (with_reducible first | exact HB.out | apply below_alloc | apply pw_below_drewN | apply below_drew1) | exact HB.out)));(case aF=>exact (fun _ _=>trivial));(case aO=>exact (by (with_reducible repeat (first | apply Kd.R_alloc | apply Kd.R_drewN | apply Kd.R_drew));exact HO_3.out));(case aS=>exact (below_size (by repeat (first | (with_reducible first | exact HB.out | apply below_alloc | apply pw_below_drewN | apply below_drew1) | exact HB.out))));(case aL=>have:=LMc28.out;omega);intro v102 w29 ho hb hg hat;rw [← Ny101.out] at ho;have n0_:=Aside0.mk (hb);have n1_:=Aside0.mk (ho);clear HB;clear HO_3;have HB:=n0_;have HO103:=n1_;clear n0_ n1_;clear ho hb hg hat))
        go_ret
        exact ⟨_,by first | rfl | (simp [errW_none,errW_some] <;> rfl) | (simp [*,errW_none,errW_some] <;> rfl),by (with_reducible repeat (first | apply Kd.R_alloc | apply Kd.R_drewN | apply Kd.R_drew));exact HO103.out,by repeat (first | (with_reducible first | exact HB.out | apply below_alloc | apply pw_below_drewN | apply below_drew1) | exact HB.out)⟩
       ·rw [if_neg c28] at H
        exact absurd H (by simp)
      ·rw [if_neg c27] at H
       exact absurd H (by simp)
     ·rw [if_neg c26] at H
      exact absurd H (by simp)
end Go.Proofs.YthgcghpcikbnkaaGreatDoor.PblockStringValue
namespace Go.Proofs.YthgcghpcikbnkaaGreatDoor.PblockStringValue
open Go.RowKit Go.Proofs.YthgcghpcikbnkaaGreatDoorW.PrintWords Go.Proofs.YthgcghpcikbnkaaGreatDoorW.PrintLast Go.Proofs.YthgcghpcikbnkaaGreatDoorW.PrintMore
attribute [local go_sem] max2_int min2_int max_two min_two max_three min_three max_four min_four
set_option linter.unusedVariables false
set_option linter.unusedSimpArgs false
def lead:List UInt8→Nat
 | []=>0
 | c :: t=>if c=32∨c=9 then lead t+1 else 0
theorem lead_le (l:List UInt8):lead l≤l.length:=by
 induction l with
 | nil=>simp [lead]
 | cons c t ih=>simp only [lead,List.length_cons];split <;> omega
theorem lead_drop (s:ByteArray) (k:Nat) (h:k < s.size):lead (s.data.toList.drop k)=if s[k]=32∨s[k]=9 then lead (s.data.toList.drop (k+1))+1 else 0:=by
 have h':k < s.data.toList.length:=by simpa using h
 rw [List.drop_eq_getElem_cons h']
 rfl
theorem u8eq (c:UInt8) (n:Nat) (hn:n < 256):((c.toNat:Int)=(n:Int)) ↔ c=UInt8.ofNat n:=by
 constructor
 ·intro h
  apply UInt8.toNat_inj.mp
  simp;omega
 ·rintro rfl;simp;omega
set_option maxRecDepth 100000 in
theorem lexer_lead_walk (s:ByteArray) (w:World) (hs:s.size≤9223372036854775807) :
 Calls Tryz.prog 160 #[.string s] w fun e w'=>e=.returned (.int .i64 (lead s.data.toList))∧Below w.heap.size w w':=by
 go_enter Tryz.func160,Tryz.ntmps160
 go_wp2
 go_loopw [2] (fun v2 wr=>∃ k:Nat,k≤s.size∧wr=w.iter s k∧v2=.int .i64 k∧Aside0 (lead s.data.toList=k+lead (s.data.toList.drop k))) (fun _ wr=>s.size - wr.iterPos w.heap.size)
 case atStart=>exact ⟨0,Nat.zero_le _,rfl,rfl,⟨by simp⟩⟩
 case round =>
  obtain ⟨k,hk,rfl,rfl,HL⟩:=hrel
  have hbel:∀ j,Below w.heap.size w (w.iter s j):=fun j=>Below.alloc (Below.refl _ _) (Nat.le_refl _) _
  have HB:=Aside0.mk hbel
  clear hbel
  by_cases hlt:k < s.size
  ·have HD:=Aside0.mk (lead_drop s k hlt)
   by_cases hc:s[k]=32∨s[k]=9
   ·have ha:(s[k]'hlt).toNat < 128:=by rcases hc with h | h <;> rw [h] <;> decide
    have hnx:∀ ty,(Instr.next (.pointer (some ⟨w.heap.size,0,none⟩)) true ty).run Tryz.prog (w.iter s k)=_:=fun ty=>run_next_ascii w s k ty hlt ha
    have HC:=Aside0.mk hc
    rcases hc with h | h
    ·have e:((s[k]'hlt).toNat:Int)=32:=by rw [h];rfl
     rw [e] at hnx
     clear e h ha
     go_wp2
     go_roundw
     case rel=>exact ⟨k+1,by omega,rfl,by go_num,⟨by rw [HL.out,HD.out,if_pos HC.out];omega⟩⟩
     case measure=>simp;omega
    ·have e:((s[k]'hlt).toNat:Int)=9:=by rw [h];rfl
     rw [e] at hnx
     clear e h ha
     go_wp2
     go_roundw
     case rel=>exact ⟨k+1,by omega,rfl,by go_num,⟨by rw [HL.out,HD.out,if_pos HC.out];omega⟩⟩
     case measure=>simp;omega
   ·obtain ⟨r,n,hnx,h1,h2⟩:∃ (r:Int) (n:Nat),(∀ ty,(Instr.next (.pointer (some ⟨w.heap.size,0,none⟩)) true ty).run Tryz.prog (w.iter s k)=.ok (.tuple #[.bool true,.int .i64 k,.int .i32 r]) (w.iter s n))∧r≠32∧r≠9:=by
     refine ⟨_,_,fun ty=>run_next_any w s k ty hlt,?_⟩
     by_cases ha:(s[k]'hlt).toNat < 128
     ·rw [decode_ascii s k hlt ha]
      refine ⟨fun h=>hc (.inl ?_),fun h=>hc (.inr ?_)⟩
      ·exact (u8eq _ 32 (by omega)).1 h
      ·exact (u8eq _ 9 (by omega)).1 h
     ·have:=decode_high s k hlt (by omega)
      exact ⟨by omega,by omega⟩
    have b1:(r == 32)=false:=beq_eq_false_iff_ne.2 h1
    have b2:(r == 9)=false:=beq_eq_false_iff_ne.2 h2
    have HC:=Aside0.mk hc
    clear h1 h2 hc
    go_wp2
    go_ret
    exact ⟨by rw [HL.out,HD.out,if_neg HC.out];simp,HB.out _⟩
  ·have hnx:∀ ty,(Instr.next (.pointer (some ⟨w.heap.size,0,none⟩)) true ty).run Tryz.prog (w.iter s k)=_:=fun ty=>run_next_end w s k ty hlt
   have HD:=Aside0.mk (show s.data.toList.drop k=[] from List.drop_eq_nil_of_le (by simp;omega))
   go_wp2
   go_ret
   exact ⟨by rw [HL.out,HD.out];simp [lead],HB.out _⟩
def lexer_leadingWhitespaceLen.f (a0:ByteArray):Option (Int):=if a0.size≤9223372036854775807 then (some (lead a0.data.toList:Int)) else (none)
theorem lexer_leadingWhitespaceLen.calls (a0:ByteArray) (r:Int) (w:World) (h:lexer_leadingWhitespaceLen.f a0=some r) :
 Calls Tryz.prog 160 #[.string a0] w fun e w'=>e=.returned (.int .i64 r)∧Below w.heap.size w w':=by
 unfold lexer_leadingWhitespaceLen.f at h
 by_cases hn:a0.size≤9223372036854775807
 ·rw [if_pos hn] at h
  obtain rfl:=Option.some.inj h
  exact lexer_lead_walk a0 w hn
 ·rw [if_neg hn] at h
  cases h
def lexer_lineIsBlank.f (a0:ByteArray):Option (Bool):=(lexer_leadingWhitespaceLen.f a0).bind fun t107=>(some (t107 == (a0.size:Int)))
set_option maxHeartbeats 8000000 in
set_option maxRecDepth 100000 in
theorem lexer_lineIsBlank.calls (a0:ByteArray) (r:Bool) (w:World) (h:lexer_lineIsBlank.f a0=some r) :
 Calls Tryz.prog 161 #[.string a0] w fun e w'=>e=.returned (.bool r)∧Below w.heap.size w w':=by
 have HB:=Aside0.mk (Below.refl w.heap.size w)
 have H:((lexer_leadingWhitespaceLen.f a0).bind fun t107=>(some (t107 == (a0.size:Int))))=some r:=h
 clear h
 replace H:=Option.bind_eq_some_iff.mp H
 obtain ⟨t107,A20,H⟩:=H
 replace H:(some (t107 == (a0.size:Int)))=some r:=H
 have A2:=Aside0.mk A20
 clear A20
 obtain rfl:=Option.some.inj H
 go_enter Tryz.func161,Tryz.ntmps161
 go_wp2_with (first | ((with_reducible refine gate_callee (f:=160) rfl ?_);refine goesL_ (some 4) rfl rfl Tryz.func160 (by kernel_rfl) rfl #[.string a0] rfl (by (try simp only [List.map_toArray,List.map_cons,List.map_nil]);first | done | rfl | (simp only [List.length_drop,List.length_take];rfl)) ?_;(with_reducible refine (lexer_leadingWhitespaceLen.calls a0 t107 _ A2.out).mono ?_);rintro e w3 ⟨rfl,hb⟩;refine ⟨_,rfl,?_⟩;have n0_:=Aside0.mk (below_step (by repeat (first | (with_reducible first | exact HB.out | apply below_alloc | apply pw_below_drewN | apply below_drew1) | exact HB.out)) hb);clear HB;have HB:=n0_;clear n0_;(try clear hb);(try clear hb2);(try clear hk);(try clear hi)))
 go_ret
 exact ⟨by first | rfl | (simp [errW_none,errW_some] <;> rfl) | (simp [*,errW_none,errW_some] <;> rfl),by repeat (first | (with_reducible first | exact HB.out | apply below_alloc | apply pw_below_drewN | apply below_drew1) | exact HB.out)⟩







def strings_Join.f (l0:List (ByteArray)) (a1:ByteArray):Option (ByteArray):=if l0.length≤140737488355328∧(Lib.join (l0.map (·.data.toList)) a1.data.toList).length≤140737488355328 then (some ⟨(Lib.join (l0.map (·.data.toList)) a1.data.toList).toArray⟩) else (none)
theorem strings_Join.calls (A0:Option Addr) (c0:Nat) (l0:List (ByteArray)) (a1:ByteArray) (r:ByteArray) (w:World) (hr0:Kd.C Kd.string w A0 l0.length l0) (hc0:l0.length≤c0) (h:strings_Join.f l0 a1=some r) :
 Calls Tryz.prog 162 #[.slice A0 l0.length c0,.string a1] w fun e w'=>e=.returned (.string r)∧Below w.heap.size w w':=by
 unfold strings_Join.f at h
 by_cases hn:l0.length≤140737488355328∧(Lib.join (l0.map (·.data.toList)) a1.data.toList).length≤140737488355328
 ·rw [if_pos hn] at h
  obtain rfl:=Option.some.inj h
  by_cases h0:l0=[]
  ·subst h0
   refine (Tryz.strings_Join_none A0 c0 a1 w).mono fun e w' ⟨he,hw⟩=>?_
   subst hw
   exact ⟨by rw [he];rfl,Below.refl _ _⟩
  ·have hp:0 < l0.length:=by cases l0 with | nil=>exact absurd rfl h0 | cons=>simp
   obtain ⟨ad,e0,_⟩:=Kd.at_string hr0 0 (Int.le_refl _) (by omega)
   have hall:∀ (j:Nat) x,l0[j]?=some x→w.cell? (ad.add j)=some (.string x):=by
    intro j x hx
    obtain ⟨hj,hxx⟩:=List.getElem?_eq_some_iff.1 hx
    obtain ⟨ad1,e1,hc⟩:=Kd.at_string hr0 (j:Int) (by omega) (by omega)
    rw [e0] at e1
    obtain rfl:=Option.some.inj e1
    simp only [Int.toNat_natCast,rdOf,List.getD_eq_getElem?_getD,hx,Option.getD_some] at hc
    exact hc
   subst e0
   obtain ⟨bk,o,sp⟩:=ad
   have hc0':=hall 0 l0[0] (by simp [hp])
   have hsp:sp=none:=by simpa [Addr.add] using World.cell?_spot hc0'
   subst hsp
   have hbk:bk < w.heap.size:=by simpa [Addr.add] using World.block_lt_of_cell? w _ hc0'
   refine (Tryz.strings_Join bk o c0 l0 a1 w (fun j x hx=>by have:=hall j x hx;rwa [Addr.add_lit] at this) hbk hn.1 hc0 hn.2)
 ·rw [if_neg hn] at h
  cases h
end Go.Proofs.YthgcghpcikbnkaaGreatDoor.PblockStringValue
