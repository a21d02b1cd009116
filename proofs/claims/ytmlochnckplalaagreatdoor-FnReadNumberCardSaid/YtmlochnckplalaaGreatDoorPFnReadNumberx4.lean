/- FnReadNumber: the Go functions that the law reaches as Lean functions, and that the Go code answers what these answer, for every input and in every world that the statements name. Written by this session's program extprint.py over hand-written contracts of some functions. -/
import Derived.Test.YtmlochnckplalaaGreatDoorPFnReadNumberx0
import Derived.Test.YtmlochnckplalaaGreatDoorPFnReadNumberx3
namespace Go.Proofs.YtmlochnckplalaaGreatDoor.PFnReadNumber
open Go.RowKit Go.Proofs.YtmlochnckplalaaGreatDoorW.PrintWords Go.Proofs.YtmlochnckplalaaGreatDoorW.PrintLast Go.Proofs.YtmlochnckplalaaGreatDoorW.PrintMore
attribute [local go_sem] max2_int min2_int max_two min_two max_three min_three max_four min_four   -- for this text's walks alone
set_option linter.unusedVariables false
set_option linter.unusedSimpArgs false

/-! ### spec_lexer_numeral: function 9 -/
mutual
def spec_lexer_numeral.j0 : Nat → Int → ByteArray → Int → List (S24) → Bool → Bool → Option (Int × Int × ByteArray × Int × Bool × Bool)
  | 0, _, _, _, _, _, _ => none
  | k + 1, x1, x1000, x1001, x1002, x1003, x1004 => (spec_lexer_digits.f k x1000 x1001 x1002 x1003 x1004 x1).bind fun bt115 => (if bt115.1 = x1 then (spec_lexer_numeral.j1 k bt115.1 true bt115.2.1 bt115.2.2.1 x1002 bt115.2.2.2.1 bt115.2.2.2.2) else (if 0 ≤ x1 then (if x1 < (bt115.2.1.size : Int) then (if (bt bt115.2.1 x1) = 48 then (spec_lexer_numeral.j1 k bt115.1 (decide (bt115.1 > (wrap64 (x1 + 1)))) bt115.2.1 bt115.2.2.1 x1002 bt115.2.2.2.1 bt115.2.2.2.2) else (spec_lexer_numeral.j1 k bt115.1 false bt115.2.1 bt115.2.2.1 x1002 bt115.2.2.2.1 bt115.2.2.2.2)) else (none)) else (none)))
def spec_lexer_numeral.j1 : Nat → Int → Bool → ByteArray → Int → List (S24) → Bool → Bool → Option (Int × Int × ByteArray × Int × Bool × Bool)
  | 0, _, _, _, _, _, _, _ => none
  | k + 1, x5, x34, x1000, x1001, x1002, x1003, x1004 => if x34 = true then (some (0, 0, x1000, x1001, x1003, x1004)) else ((spec_lexer_next.f x1000 x1001 x1002 x1003 x1004 x5).bind fun bt120 => (if bt120.1 = 46 then ((spec_lexer_digits.f k bt120.2.1 bt120.2.2.1 x1002 bt120.2.2.2.1 bt120.2.2.2.2 (wrap64 (x5 + 1))).bind fun bt125 => (if bt125.1 = (wrap64 (x5 + 1)) then (some (0, 0, bt125.2.1, bt125.2.2.1, bt125.2.2.2.1, bt125.2.2.2.2)) else (spec_lexer_numeral.j2 k 17 bt125.1 bt125.2.1 bt125.2.2.1 x1002 bt125.2.2.2.1 bt125.2.2.2.2))) else (spec_lexer_numeral.j2 k 16 x5 bt120.2.1 bt120.2.2.1 x1002 bt120.2.2.2.1 bt120.2.2.2.2)))
def spec_lexer_numeral.j2 : Nat → Int → Int → ByteArray → Int → List (S24) → Bool → Bool → Option (Int × Int × ByteArray × Int × Bool × Bool)
  | 0, _, _, _, _, _, _, _ => none
  | k + 1, x4, x5, x1000, x1001, x1002, x1003, x1004 => (spec_lexer_next.f x1000 x1001 x1002 x1003 x1004 x5).bind fun bt130 => (if bt130.1 = 101 then (spec_lexer_numeral.j3 k x4 x5 true bt130.2.1 bt130.2.2.1 x1002 bt130.2.2.2.1 bt130.2.2.2.2) else (spec_lexer_numeral.j3 k x4 x5 (bt130.1 == 69) bt130.2.1 bt130.2.2.1 x1002 bt130.2.2.2.1 bt130.2.2.2.2))
def spec_lexer_numeral.j3 : Nat → Int → Int → Bool → ByteArray → Int → List (S24) → Bool → Bool → Option (Int × Int × ByteArray × Int × Bool × Bool)
  | 0, _, _, _, _, _, _, _, _ => none
  | k + 1, x4, x5, x56, x1000, x1001, x1002, x1003, x1004 => if x56 = true then ((spec_lexer_next.f x1000 x1001 x1002 x1003 x1004 (wrap64 (x5 + 1))).bind fun bt135 => (if bt135.1 = 43 then (spec_lexer_numeral.j4 k (wrap64 (x5 + 1)) 17 true bt135.2.1 bt135.2.2.1 x1002 bt135.2.2.2.1 bt135.2.2.2.2) else (spec_lexer_numeral.j4 k (wrap64 (x5 + 1)) 17 (bt135.1 == 45) bt135.2.1 bt135.2.2.1 x1002 bt135.2.2.2.1 bt135.2.2.2.2))) else (some (x4, x5, x1000, x1001, x1003, x1004))
def spec_lexer_numeral.j4 : Nat → Int → Int → Bool → ByteArray → Int → List (S24) → Bool → Bool → Option (Int × Int × ByteArray × Int × Bool × Bool)
  | 0, _, _, _, _, _, _, _, _ => none
  | k + 1, x1, x4, x67, x1000, x1001, x1002, x1003, x1004 => if x67 = true then ((spec_lexer_digits.f k x1000 x1001 x1002 x1003 x1004 (wrap64 (x1 + 1))).bind fun bt140 => (if bt140.1 = (wrap64 (x1 + 1)) then (some (0, 0, bt140.2.1, bt140.2.2.1, bt140.2.2.2.1, bt140.2.2.2.2)) else (some (x4, bt140.1, bt140.2.1, bt140.2.2.1, bt140.2.2.2.1, bt140.2.2.2.2)))) else ((spec_lexer_digits.f k x1000 x1001 x1002 x1003 x1004 x1).bind fun bt145 => (if bt145.1 = x1 then (some (0, 0, bt145.2.1, bt145.2.2.1, bt145.2.2.2.1, bt145.2.2.2.2)) else (some (x4, bt145.1, bt145.2.1, bt145.2.2.1, bt145.2.2.2.1, bt145.2.2.2.2))))
end
def spec_lexer_numeral.f (k : Nat) (s0_0 : ByteArray) (s0_1 : Int) (s0_2 : List (S24)) (s0_3 : Bool) (s0_4 : Bool) (a1 : Int) : Option (Int × Int × ByteArray × Int × Bool × Bool) := (spec_lexer_next.f s0_0 s0_1 s0_2 s0_3 s0_4 a1).bind fun bt110 => (if bt110.1 = 45 then (spec_lexer_numeral.j0 k (wrap64 (a1 + 1)) bt110.2.1 bt110.2.2.1 s0_2 bt110.2.2.2.1 bt110.2.2.2.2) else (spec_lexer_numeral.j0 k a1 bt110.2.1 bt110.2.2.1 s0_2 bt110.2.2.2.1 bt110.2.2.2.2))
theorem spec_lexer_numeral.mono_l : ∀ k, (∀ y0 y1 y2 y3 y4 y5, LeO (spec_lexer_numeral.j0 k y0 y1 y2 y3 y4 y5) (spec_lexer_numeral.j0 (k + 1) y0 y1 y2 y3 y4 y5)) ∧ (∀ y0 y1 y2 y3 y4 y5 y6, LeO (spec_lexer_numeral.j1 k y0 y1 y2 y3 y4 y5 y6) (spec_lexer_numeral.j1 (k + 1) y0 y1 y2 y3 y4 y5 y6)) ∧ (∀ y0 y1 y2 y3 y4 y5 y6, LeO (spec_lexer_numeral.j2 k y0 y1 y2 y3 y4 y5 y6) (spec_lexer_numeral.j2 (k + 1) y0 y1 y2 y3 y4 y5 y6)) ∧ (∀ y0 y1 y2 y3 y4 y5 y6 y7, LeO (spec_lexer_numeral.j3 k y0 y1 y2 y3 y4 y5 y6 y7) (spec_lexer_numeral.j3 (k + 1) y0 y1 y2 y3 y4 y5 y6 y7)) ∧ (∀ y0 y1 y2 y3 y4 y5 y6 y7, LeO (spec_lexer_numeral.j4 k y0 y1 y2 y3 y4 y5 y6 y7) (spec_lexer_numeral.j4 (k + 1) y0 y1 y2 y3 y4 y5 y6 y7))
  | 0 => ⟨fun _ _ _ _ _ _ r h => by simp [spec_lexer_numeral.j0] at h, fun _ _ _ _ _ _ _ r h => by simp [spec_lexer_numeral.j1] at h, fun _ _ _ _ _ _ _ r h => by simp [spec_lexer_numeral.j2] at h, fun _ _ _ _ _ _ _ _ r h => by simp [spec_lexer_numeral.j3] at h, fun _ _ _ _ _ _ _ _ r h => by simp [spec_lexer_numeral.j4] at h⟩
  | k + 1 => by
    obtain ⟨ih0, ih1, ih2, ih3, ih4⟩ := spec_lexer_numeral.mono_l k
    refine ⟨?_, ?_, ?_, ?_, ?_⟩
    · intro y0 y1 y2 y3 y4 y5
      unfold spec_lexer_numeral.j0
      repeat' first
      | (with_reducible exact ih0 _ _ _ _ _ _)
      | (with_reducible exact ih1 _ _ _ _ _ _ _)
      | (with_reducible exact ih2 _ _ _ _ _ _ _)
      | (with_reducible exact ih3 _ _ _ _ _ _ _ _)
      | (with_reducible exact ih4 _ _ _ _ _ _ _ _)
      | (with_reducible exact spec_lexer_digits.mono _ _ _ _ _ _ _)
      | (with_reducible exact LeO.refl _)
      | (with_reducible exact LeO.none _)
      | (with_reducible refine LeO.ite ?_ ?_)
      | (with_reducible refine LeO.bind ?_ (fun _ => ?_))
      | exact ih0 _ _ _ _ _ _
      | exact ih1 _ _ _ _ _ _ _
      | exact ih2 _ _ _ _ _ _ _
      | exact ih3 _ _ _ _ _ _ _ _
      | exact ih4 _ _ _ _ _ _ _ _
      | exact spec_lexer_digits.mono _ _ _ _ _ _ _
      | exact LeO.none _
      | refine LeO.ite ?_ ?_
      | refine LeO.bind ?_ (fun _ => ?_)
    · intro y0 y1 y2 y3 y4 y5 y6
      unfold spec_lexer_numeral.j1
      repeat' first
      | (with_reducible exact ih0 _ _ _ _ _ _)
      | (with_reducible exact ih1 _ _ _ _ _ _ _)
      | (with_reducible exact ih2 _ _ _ _ _ _ _)
      | (with_reducible exact ih3 _ _ _ _ _ _ _ _)
      | (with_reducible exact ih4 _ _ _ _ _ _ _ _)
      | (with_reducible exact spec_lexer_digits.mono _ _ _ _ _ _ _)
      | (with_reducible exact LeO.refl _)
      | (with_reducible exact LeO.none _)
      | (with_reducible refine LeO.ite ?_ ?_)
      | (with_reducible refine LeO.bind ?_ (fun _ => ?_))
      | exact ih0 _ _ _ _ _ _
      | exact ih1 _ _ _ _ _ _ _
      | exact ih2 _ _ _ _ _ _ _
      | exact ih3 _ _ _ _ _ _ _ _
      | exact ih4 _ _ _ _ _ _ _ _
      | exact spec_lexer_digits.mono _ _ _ _ _ _ _
      | exact LeO.none _
      | refine LeO.ite ?_ ?_
      | refine LeO.bind ?_ (fun _ => ?_)
    · intro y0 y1 y2 y3 y4 y5 y6
      unfold spec_lexer_numeral.j2
      repeat' first
      | (with_reducible exact ih0 _ _ _ _ _ _)
      | (with_reducible exact ih1 _ _ _ _ _ _ _)
      | (with_reducible exact ih2 _ _ _ _ _ _ _)
      | (with_reducible exact ih3 _ _ _ _ _ _ _ _)
      | (with_reducible exact ih4 _ _ _ _ _ _ _ _)
      | (with_reducible exact spec_lexer_digits.mono _ _ _ _ _ _ _)
      | (with_reducible exact LeO.refl _)
      | (with_reducible exact LeO.none _)
      | (with_reducible refine LeO.ite ?_ ?_)
      | (with_reducible refine LeO.bind ?_ (fun _ => ?_))
      | exact ih0 _ _ _ _ _ _
      | exact ih1 _ _ _ _ _ _ _
      | exact ih2 _ _ _ _ _ _ _
      | exact ih3 _ _ _ _ _ _ _ _
      | exact ih4 _ _ _ _ _ _ _ _
      | exact spec_lexer_digits.mono _ _ _ _ _ _ _
      | exact LeO.none _
      | refine LeO.ite ?_ ?_
      | refine LeO.bind ?_ (fun _ => ?_)
    · intro y0 y1 y2 y3 y4 y5 y6 y7
      unfold spec_lexer_numeral.j3
      repeat' first
      | (with_reducible exact ih0 _ _ _ _ _ _)
      | (with_reducible exact ih1 _ _ _ _ _ _ _)
      | (with_reducible exact ih2 _ _ _ _ _ _ _)
      | (with_reducible exact ih3 _ _ _ _ _ _ _ _)
      | (with_reducible exact ih4 _ _ _ _ _ _ _ _)
      | (with_reducible exact spec_lexer_digits.mono _ _ _ _ _ _ _)
      | (with_reducible exact LeO.refl _)
      | (with_reducible exact LeO.none _)
      | (with_reducible refine LeO.ite ?_ ?_)
      | (with_reducible refine LeO.bind ?_ (fun _ => ?_))
      | exact ih0 _ _ _ _ _ _
      | exact ih1 _ _ _ _ _ _ _
      | exact ih2 _ _ _ _ _ _ _
      | exact ih3 _ _ _ _ _ _ _ _
      | exact ih4 _ _ _ _ _ _ _ _
      | exact spec_lexer_digits.mono _ _ _ _ _ _ _
      | exact LeO.none _
      | refine LeO.ite ?_ ?_
      | refine LeO.bind ?_ (fun _ => ?_)
    · intro y0 y1 y2 y3 y4 y5 y6 y7
      unfold spec_lexer_numeral.j4
      repeat' first
      | (with_reducible exact ih0 _ _ _ _ _ _)
      | (with_reducible exact ih1 _ _ _ _ _ _ _)
      | (with_reducible exact ih2 _ _ _ _ _ _ _)
      | (with_reducible exact ih3 _ _ _ _ _ _ _ _)
      | (with_reducible exact ih4 _ _ _ _ _ _ _ _)
      | (with_reducible exact spec_lexer_digits.mono _ _ _ _ _ _ _)
      | (with_reducible exact LeO.refl _)
      | (with_reducible exact LeO.none _)
      | (with_reducible refine LeO.ite ?_ ?_)
      | (with_reducible refine LeO.bind ?_ (fun _ => ?_))
      | exact ih0 _ _ _ _ _ _
      | exact ih1 _ _ _ _ _ _ _
      | exact ih2 _ _ _ _ _ _ _
      | exact ih3 _ _ _ _ _ _ _ _
      | exact ih4 _ _ _ _ _ _ _ _
      | exact spec_lexer_digits.mono _ _ _ _ _ _ _
      | exact LeO.none _
      | refine LeO.ite ?_ ?_
      | refine LeO.bind ?_ (fun _ => ?_)
theorem spec_lexer_numeral.mono : ∀ a0 a1 a2 a3 a4 a5 k, LeO (spec_lexer_numeral.f k a0 a1 a2 a3 a4 a5) (spec_lexer_numeral.f (k + 1) a0 a1 a2 a3 a4 a5) := by
  intro a0 a1 a2 a3 a4 a5 k
  obtain ⟨ih0, ih1, ih2, ih3, ih4⟩ := spec_lexer_numeral.mono_l k
  unfold spec_lexer_numeral.f
  repeat' first
      | (with_reducible exact ih0 _ _ _ _ _ _)
      | (with_reducible exact ih1 _ _ _ _ _ _ _)
      | (with_reducible exact ih2 _ _ _ _ _ _ _)
      | (with_reducible exact ih3 _ _ _ _ _ _ _ _)
      | (with_reducible exact ih4 _ _ _ _ _ _ _ _)
      | (with_reducible exact spec_lexer_digits.mono _ _ _ _ _ _ _)
      | (with_reducible exact LeO.refl _)
      | (with_reducible exact LeO.none _)
      | (with_reducible refine LeO.ite ?_ ?_)
      | (with_reducible refine LeO.bind ?_ (fun _ => ?_))
      | exact ih0 _ _ _ _ _ _
      | exact ih1 _ _ _ _ _ _ _
      | exact ih2 _ _ _ _ _ _ _
      | exact ih3 _ _ _ _ _ _ _ _
      | exact ih4 _ _ _ _ _ _ _ _
      | exact spec_lexer_digits.mono _ _ _ _ _ _ _
      | exact LeO.none _
      | refine LeO.ite ?_ ?_
      | refine LeO.bind ?_ (fun _ => ?_)
set_option maxHeartbeats 8000000 in
set_option maxRecDepth 100000 in
theorem spec_lexer_numeral.calls (k : Nat) (g : Nat) (s0_0 : ByteArray) (s0_1 : Int) (s0_2 : List (S24)) (s0_3 : Bool) (s0_4 : Bool) (a1 : Int) (r1 : Int) (r2 : Int) (r3 : ByteArray) (r4 : Int) (r5 : Bool) (r6 : Bool) (w0 w : World) (hI : IsS33 w0 w g s0_0 s0_1 s0_2 s0_3 s0_4) (hB : Below w0.heap.size w0 w) (h : spec_lexer_numeral.f k s0_0 s0_1 s0_2 s0_3 s0_4 a1 = some (r1, r2, r3, r4, r5, r6)) :
    Calls Tryz.prog 9 #[.pointer (some ⟨g, 0, none⟩), .int .i64 a1] w fun e w' => e = .returned (.tuple #[.int .i64 r1, .int .i64 r2]) ∧ IsS33 w0 w' g r3 r4 s0_2 r5 r6 ∧ Below w0.heap.size w0 w' ∧ KeepBut w w' g none := by
  have HI0 := Aside0.mk hI
  have HK := Aside0.mk (KeepBut.refl w g none)
  have HL := Aside0.mk hB.size
  clear hI
  have HW0 := Aside0.mk hB.size
  have HB := Aside0.mk hB
  clear hB
  have H : ((spec_lexer_next.f s0_0 s0_1 s0_2 s0_3 s0_4 a1).bind fun bt110 => (if bt110.1 = 45 then (spec_lexer_numeral.j0 k (wrap64 (a1 + 1)) bt110.2.1 bt110.2.2.1 s0_2 bt110.2.2.2.1 bt110.2.2.2.2) else (spec_lexer_numeral.j0 k a1 bt110.2.1 bt110.2.2.1 s0_2 bt110.2.2.2.1 bt110.2.2.2.2))) = some (r1, r2, r3, r4, r5, r6) := h
  clear h
  replace H := Option.bind_eq_some_iff.mp H
  obtain ⟨⟨t110, t111, t112, t113, t114⟩, A30, H⟩ := H
  replace H : (if t110 = 45 then (spec_lexer_numeral.j0 k (wrap64 (a1 + 1)) t111 t112 s0_2 t113 t114) else (spec_lexer_numeral.j0 k a1 t111 t112 s0_2 t113 t114)) = some (r1, r2, r3, r4, r5, r6) := H
  have A3 := Aside0.mk A30
  clear A30
  have HC4 := Aside0.mk H
  clear H
  go_enter Tryz.func9, Tryz.ntmps9
  go_upto_if 11 with (first | ((with_reducible refine gate_callee (f := 13) rfl ?_); refine goesL_ (some 10) rfl rfl Tryz.func13 (by kernel_rfl) rfl #[.pointer (some ⟨g, 0, none⟩), .int .i64 a1] rfl (by (try simp only [List.map_toArray, List.map_cons, List.map_nil]); first | done | rfl | (simp only [List.length_drop, List.length_take]; rfl)) ?_; (with_reducible refine (spec_lexer_next.calls g s0_0 s0_1 s0_2 s0_3 s0_4 a1 t110 t111 t112 t113 t114 w0 _ ?side1 ?side2 A3.out).mono ?_); (case side1 => repeat (first | (with_reducible first | exact HI0.out | apply IsS33.alloc | apply IsS33.drewN | apply IsS33.drew | apply IsS33.set_0 | apply IsS33.set_1 | apply IsS33.set_3 | apply IsS33.set_4) | exact HI0.out)); (case side2 => repeat (first | (with_reducible first | exact HB.out | apply below_alloc | apply pw_below_drewN | apply below_drew1 | refine below_set ?_ (IsS33.ge HI0.out)) | exact HB.out)); rintro e w5 ⟨rfl, hi, hb, hk⟩; refine ⟨_, rfl, ?_⟩; have n0_ := Aside0.mk (KeepBut.trans (by repeat (first | (with_reducible first | exact HK.out | apply KeepBut.set_ | apply keep_drewN | apply keep_drew | apply keep_alloc) | exact HK.out)) hk (.inl rfl)); have n1_ := Aside0.mk (hb); have n2_ := Aside0.mk (hi); clear HK; clear HB; clear HI0; have HK := n0_; have HB := n1_; have HI0 := n2_; clear n0_ n1_ n2_; (try clear hb); (try clear hb2); (try clear hk); (try clear hi)))
  (try simp only [Act.put, List.setIfInBounds_toArray, List.set_cons_zero, List.set_cons_succ])
  go_cut [1] (fun v1 wc => ∃ (kq : Nat) (x1_3 : Int), v1 = .int .i64 x1_3 ∧ Aside0 (spec_lexer_numeral.j0 kq x1_3 t111 t112 s0_2 t113 t114 = some (r1, r2, r3, r4, r5, r6)) ∧ Aside0 (kq ≤ k) ∧ Aside0 (IsS33 w0 wc g t111 t112 s0_2 t113 t114) ∧ Aside0 (KeepBut w wc g none) ∧ Aside0 (Below w0.heap.size w0 wc))
  case first =>
    have H := HC4.out
    clear HC4
    by_cases c6 : t110 = 45
    · rw [if_pos c6] at H
      have c6b0 : (t110 == 45) = true := beq_iff_eq.mpr c6
      have c6b1 : (t110 != 45) = false := bne_eq_false_iff_eq.mpr c6
      clear c6
      (first | rw [c6b0] | (simp only [i64_w, i32_w]; rw [c6b0]) | skip)
      have H' := Aside0.mk H
      clear H
      go_wp2
      go_meet
      case rel => exact ⟨_, (wrap64 (a1 + 1)), (by first | rfl | (simp; done) | (simp [*]; done)), H', ⟨by first | omega | exact Nat.le_refl _⟩, ⟨by repeat (first | (with_reducible first | exact HI0.out | apply IsS33.alloc | apply IsS33.drewN | apply IsS33.drew | apply IsS33.set_0 | apply IsS33.set_1 | apply IsS33.set_3 | apply IsS33.set_4) | exact HI0.out)⟩, ⟨by repeat (first | (with_reducible first | exact HK.out | apply KeepBut.set_ | apply keep_drewN | apply keep_drew | apply keep_alloc) | exact HK.out)⟩, ⟨by repeat (first | (with_reducible first | exact HB.out | apply below_alloc | apply pw_below_drewN | apply below_drew1 | refine below_set ?_ (IsS33.ge HI0.out)) | exact HB.out)⟩⟩
    · rw [if_neg c6] at H
      have c6b0 : (t110 == 45) = false := beq_eq_false_iff_ne.mpr c6
      have c6b1 : (t110 != 45) = true := bne_iff_ne.mpr c6
      (first | rw [c6b0] | (simp only [i64_w, i32_w]; rw [c6b0]) | skip)
      have H' := Aside0.mk H
      clear H
      go_wp2
      go_meet
      case rel => exact ⟨_, (a1), (by first | rfl | (simp; done) | (simp [*]; done)), H', ⟨by first | omega | exact Nat.le_refl _⟩, ⟨by repeat (first | (with_reducible first | exact HI0.out | apply IsS33.alloc | apply IsS33.drewN | apply IsS33.drew | apply IsS33.set_0 | apply IsS33.set_1 | apply IsS33.set_3 | apply IsS33.set_4) | exact HI0.out)⟩, ⟨by repeat (first | (with_reducible first | exact HK.out | apply KeepBut.set_ | apply keep_drewN | apply keep_drew | apply keep_alloc) | exact HK.out)⟩, ⟨by repeat (first | (with_reducible first | exact HB.out | apply below_alloc | apply pw_below_drewN | apply below_drew1 | refine below_set ?_ (IsS33.ge HI0.out)) | exact HB.out)⟩⟩
  case rest =>
    clear HC4
    try clear c1
    try clear p2
    try clear c6
    try clear c6b0
    try clear c6b1
    try clear p6
    obtain ⟨kq, x1_3, rfl, HA, HJ3, HI0, HK, HB⟩ := hcut
    cases kq with
    | zero => exact absurd HA.out (by simp [spec_lexer_numeral.j0])
    | succ kj3 =>
      have H := HA.out
      clear HA
      simp only [spec_lexer_numeral.j0] at H
      replace H := Option.bind_eq_some_iff.mp H
      obtain ⟨⟨t115, t116, t117, t118, t119⟩, A70, H⟩ := H
      replace H : (if t115 = x1_3 then (spec_lexer_numeral.j1 kj3 t115 true t116 t117 s0_2 t118 t119) else (if 0 ≤ x1_3 then (if x1_3 < (t116.size : Int) then (if (bt t116 x1_3) = 48 then (spec_lexer_numeral.j1 kj3 t115 (decide (t115 > (wrap64 (x1_3 + 1)))) t116 t117 s0_2 t118 t119) else (spec_lexer_numeral.j1 kj3 t115 false t116 t117 s0_2 t118 t119)) else (none)) else (none))) = some (r1, r2, r3, r4, r5, r6) := H
      have A7 := Aside0.mk A70
      clear A70
      have HC8 := Aside0.mk H
      clear H
      go_upto_region 4 with (first | ((with_reducible refine gate_callee (f := 14) rfl ?_); refine goesL_ (some 16) rfl rfl Tryz.func14 (by kernel_rfl) rfl #[.pointer (some ⟨g, 0, none⟩), .int .i64 x1_3] rfl (by (try simp only [List.map_toArray, List.map_cons, List.map_nil]); first | done | rfl | (simp only [List.length_drop, List.length_take]; rfl)) ?_; (with_reducible refine (spec_lexer_digits.calls kj3 g t111 t112 s0_2 t113 t114 x1_3 t115 t116 t117 t118 t119 w0 _ ?side1 ?side2 A7.out).mono ?_); (case side1 => repeat (first | (with_reducible first | exact HI0.out | apply IsS33.alloc | apply IsS33.drewN | apply IsS33.drew | apply IsS33.set_0 | apply IsS33.set_1 | apply IsS33.set_3 | apply IsS33.set_4) | exact HI0.out)); (case side2 => repeat (first | (with_reducible first | exact HB.out | apply below_alloc | apply pw_below_drewN | apply below_drew1 | refine below_set ?_ (IsS33.ge HI0.out)) | exact HB.out)); rintro e w9 ⟨rfl, hi, hb, hk⟩; refine ⟨_, rfl, ?_⟩; have n0_ := Aside0.mk (KeepBut.trans (by repeat (first | (with_reducible first | exact HK.out | apply KeepBut.set_ | apply keep_drewN | apply keep_drew | apply keep_alloc) | exact HK.out)) hk (.inl rfl)); have n1_ := Aside0.mk (hb); have n2_ := Aside0.mk (hi); clear HK; clear HB; clear HI0; have HK := n0_; have HB := n1_; have HI0 := n2_; clear n0_ n1_ n2_; (try clear hb); (try clear hb2); (try clear hk); (try clear hi)))
      (try simp only [Act.put, List.setIfInBounds_toArray, List.set_cons_zero, List.set_cons_succ])
      go_cut [34] (fun v34 wc => ∃ (kq : Nat) (x34_7 : Bool), v34 = .bool x34_7 ∧ Aside0 (spec_lexer_numeral.j1 kq t115 x34_7 t116 t117 s0_2 t118 t119 = some (r1, r2, r3, r4, r5, r6)) ∧ Aside0 (kq ≤ kj3) ∧ Aside0 (IsS33 w0 wc g t116 t117 s0_2 t118 t119) ∧ Aside0 (KeepBut w wc g none) ∧ Aside0 (Below w0.heap.size w0 wc))
      case first =>
        have H := HC8.out
        clear HC8
        by_cases c10 : t115 = x1_3
        · rw [if_pos c10] at H
          have c10b0 : (t115 == x1_3) = true := beq_iff_eq.mpr c10
          have c10b1 : (t115 != x1_3) = false := bne_eq_false_iff_eq.mpr c10
          clear c10
          (first | rw [c10b0] | (simp only [i64_w, i32_w]; rw [c10b0]) | skip)
          have H' := Aside0.mk H
          clear H
          go_wp2
          go_meet
          case rel => exact ⟨_, (true), (by first | rfl | (simp; done) | (simp [*]; done)), H', ⟨by have := HJ3.out; first | omega | exact Nat.le_refl _⟩, ⟨by repeat (first | (with_reducible first | exact HI0.out | apply IsS33.alloc | apply IsS33.drewN | apply IsS33.drew | apply IsS33.set_0 | apply IsS33.set_1 | apply IsS33.set_3 | apply IsS33.set_4) | exact HI0.out)⟩, ⟨by repeat (first | (with_reducible first | exact HK.out | apply KeepBut.set_ | apply keep_drewN | apply keep_drew | apply keep_alloc) | exact HK.out)⟩, ⟨by repeat (first | (with_reducible first | exact HB.out | apply below_alloc | apply pw_below_drewN | apply below_drew1 | refine below_set ?_ (IsS33.ge HI0.out)) | exact HB.out)⟩⟩
        · rw [if_neg c10] at H
          have c10b0 : (t115 == x1_3) = false := beq_eq_false_iff_ne.mpr c10
          have c10b1 : (t115 != x1_3) = true := bne_iff_ne.mpr c10
          (first | rw [c10b0] | (simp only [i64_w, i32_w]; rw [c10b0]) | skip)
          by_cases c11 : 0 ≤ x1_3
          · rw [if_pos c11] at H
            have c11b0 : decide (0 ≤ x1_3) = true := decide_eq_true c11
            clear c11
            by_cases c12 : x1_3 < (t116.size : Int)
            · rw [if_pos c12] at H
              have c12b0 : decide (x1_3 < (t116.size : Int)) = true := decide_eq_true c12
              clear c12
              by_cases c14 : (bt t116 x1_3) = 48
              · rw [if_pos c14] at H
                have c14b0 : ((bt t116 x1_3) == 48) = true := beq_iff_eq.mpr c14
                have c14b1 : ((bt t116 x1_3) != 48) = false := bne_eq_false_iff_eq.mpr c14
                clear c14
                have H' := Aside0.mk H
                clear H
                obtain ⟨ASz15_2, cSz15_2, HGz15, hgz15, HSz15_2⟩ := HI0.out
                have hcz15_0 := cellS33_0 HGz15
                have hcz15_1 := cellS33_1 HGz15
                have hcz15_2 := cellS33_2 HGz15
                have hcz15_3 := cellS33_3 HGz15
                have hcz15_4 := cellS33_4 HGz15
                have hfz15_0 := blk_frozen HGz15 0
                have hfz15_1 := blk_frozen HGz15 1
                have hfz15_3 := blk_frozen HGz15 3
                have hfz15_4 := blk_frozen HGz15 4
                clear HGz15 hgz15
                have p13 : 0 ≤ (x1_3 : Int) := of_decide_eq_true (by first | (with_reducible assumption) | assumption)
                have q13 : x1_3 < (t116.size : Int) := of_decide_eq_true (by first | (with_reducible assumption) | assumption)
                have hx13 := bt_at t116 x1_3
                replace p13 := eq_true p13
                replace q13 := eq_true q13
                go_wp2
                go_meet
                case rel => exact ⟨_, (decide (t115 > (wrap64 (x1_3 + 1)))), (by first | rfl | (simp; done) | (simp [*]; done)), H', ⟨by have := HJ3.out; first | omega | exact Nat.le_refl _⟩, ⟨by repeat (first | (with_reducible first | exact HI0.out | apply IsS33.alloc | apply IsS33.drewN | apply IsS33.drew | apply IsS33.set_0 | apply IsS33.set_1 | apply IsS33.set_3 | apply IsS33.set_4) | exact HI0.out)⟩, ⟨by repeat (first | (with_reducible first | exact HK.out | apply KeepBut.set_ | apply keep_drewN | apply keep_drew | apply keep_alloc) | exact HK.out)⟩, ⟨by repeat (first | (with_reducible first | exact HB.out | apply below_alloc | apply pw_below_drewN | apply below_drew1 | refine below_set ?_ (IsS33.ge HI0.out)) | exact HB.out)⟩⟩
              · rw [if_neg c14] at H
                have c14b0 : ((bt t116 x1_3) == 48) = false := beq_eq_false_iff_ne.mpr c14
                have c14b1 : ((bt t116 x1_3) != 48) = true := bne_iff_ne.mpr c14
                have H' := Aside0.mk H
                clear H
                obtain ⟨ASz16_2, cSz16_2, HGz16, hgz16, HSz16_2⟩ := HI0.out
                have hcz16_0 := cellS33_0 HGz16
                have hcz16_1 := cellS33_1 HGz16
                have hcz16_2 := cellS33_2 HGz16
                have hcz16_3 := cellS33_3 HGz16
                have hcz16_4 := cellS33_4 HGz16
                have hfz16_0 := blk_frozen HGz16 0
                have hfz16_1 := blk_frozen HGz16 1
                have hfz16_3 := blk_frozen HGz16 3
                have hfz16_4 := blk_frozen HGz16 4
                clear HGz16 hgz16
                have p13 : 0 ≤ (x1_3 : Int) := of_decide_eq_true (by first | (with_reducible assumption) | assumption)
                have q13 : x1_3 < (t116.size : Int) := of_decide_eq_true (by first | (with_reducible assumption) | assumption)
                have hx13 := bt_at t116 x1_3
                replace p13 := eq_true p13
                replace q13 := eq_true q13
                go_wp2
                go_meet
                case rel => exact ⟨_, (false), (by first | rfl | (simp; done) | (simp [*]; done)), H', ⟨by have := HJ3.out; first | omega | exact Nat.le_refl _⟩, ⟨by repeat (first | (with_reducible first | exact HI0.out | apply IsS33.alloc | apply IsS33.drewN | apply IsS33.drew | apply IsS33.set_0 | apply IsS33.set_1 | apply IsS33.set_3 | apply IsS33.set_4) | exact HI0.out)⟩, ⟨by repeat (first | (with_reducible first | exact HK.out | apply KeepBut.set_ | apply keep_drewN | apply keep_drew | apply keep_alloc) | exact HK.out)⟩, ⟨by repeat (first | (with_reducible first | exact HB.out | apply below_alloc | apply pw_below_drewN | apply below_drew1 | refine below_set ?_ (IsS33.ge HI0.out)) | exact HB.out)⟩⟩
            · rw [if_neg c12] at H
              exact absurd H (by simp)
          · rw [if_neg c11] at H
            exact absurd H (by simp)
      case rest =>
        clear HC8
        try clear c1
        try clear p1
        try clear q1
        try clear hx1
        try clear p2
        try clear c6
        try clear c6b0
        try clear c6b1
        try clear p6
        try clear c9
        try clear c10
        try clear c10b0
        try clear c10b1
        try clear c11
        try clear c11b0
        try clear c12
        try clear c12b0
        try clear c13
        try clear p13
        try clear q13
        try clear hx13
        try clear c14
        try clear c14b0
        try clear c14b1
        try clear hcz15_0
        try clear hcz15_1
        try clear hcz15_2
        try clear hcz15_3
        try clear hcz15_4
        try clear hcz16_0
        try clear hcz16_1
        try clear hcz16_2
        try clear hcz16_3
        try clear hcz16_4
        try clear hfz15_0
        try clear hfz15_1
        try clear hfz15_3
        try clear hfz15_4
        try clear hfz16_0
        try clear hfz16_1
        try clear hfz16_3
        try clear hfz16_4
        try clear p13
        try clear p2
        try clear p6
        try clear q13
        obtain ⟨kq, x34_7, rfl, HA, HJ7, HI0, HK, HB⟩ := hcut
        cases kq with
        | zero => exact absurd HA.out (by simp [spec_lexer_numeral.j1])
        | succ kj7 =>
          have H := HA.out
          clear HA
          simp only [spec_lexer_numeral.j1] at H
          by_cases c17 : x34_7 = true
          · subst c17
            have H1 : (some (0, 0, t116, t117, t118, t119)) = some (r1, r2, r3, r4, r5, r6) := by rw [if_pos rfl] at H; exact H
            clear H
            have H := H1
            clear H1
            simp only [Option.some.injEq, Prod.mk.injEq] at H
            obtain ⟨rfl, rfl, rfl, rfl, rfl, rfl⟩ := H
            go_wp2
            go_ret2
            exact ⟨by first | rfl | (simp [errW_none, errW_some] <;> rfl) | (simp [*, errW_none, errW_some] <;> rfl), by repeat (first | (with_reducible first | exact HI0.out | apply IsS33.alloc | apply IsS33.drewN | apply IsS33.drew | apply IsS33.set_0 | apply IsS33.set_1 | apply IsS33.set_3 | apply IsS33.set_4) | exact HI0.out), by repeat (first | (with_reducible first | exact HB.out | apply below_alloc | apply pw_below_drewN | apply below_drew1 | refine below_set ?_ (IsS33.ge HI0.out)) | exact HB.out), by repeat (first | (with_reducible first | exact HK.out | apply KeepBut.set_ | apply keep_drewN | apply keep_drew | apply keep_alloc) | exact HK.out)⟩
          · replace c17 := Bool.eq_false_iff.mpr c17
            subst c17
            have H1 : ((spec_lexer_next.f t116 t117 s0_2 t118 t119 t115).bind fun bt120 => (if bt120.1 = 46 then ((spec_lexer_digits.f kj7 bt120.2.1 bt120.2.2.1 s0_2 bt120.2.2.2.1 bt120.2.2.2.2 (wrap64 (t115 + 1))).bind fun bt125 => (if bt125.1 = (wrap64 (t115 + 1)) then (some (0, 0, bt125.2.1, bt125.2.2.1, bt125.2.2.2.1, bt125.2.2.2.2)) else (spec_lexer_numeral.j2 kj7 17 bt125.1 bt125.2.1 bt125.2.2.1 s0_2 bt125.2.2.2.1 bt125.2.2.2.2))) else (spec_lexer_numeral.j2 kj7 16 t115 bt120.2.1 bt120.2.2.1 s0_2 bt120.2.2.2.1 bt120.2.2.2.2))) = some (r1, r2, r3, r4, r5, r6) := by rw [if_neg (show ¬ (false = true) by decide)] at H; exact H
            clear H
            have H := H1
            clear H1
            replace H := Option.bind_eq_some_iff.mp H
            obtain ⟨⟨t120, t121, t122, t123, t124⟩, A180, H⟩ := H
            replace H : (if t120 = 46 then ((spec_lexer_digits.f kj7 t121 t122 s0_2 t123 t124 (wrap64 (t115 + 1))).bind fun bt125 => (if bt125.1 = (wrap64 (t115 + 1)) then (some (0, 0, bt125.2.1, bt125.2.2.1, bt125.2.2.2.1, bt125.2.2.2.2)) else (spec_lexer_numeral.j2 kj7 17 bt125.1 bt125.2.1 bt125.2.2.1 s0_2 bt125.2.2.2.1 bt125.2.2.2.2))) else (spec_lexer_numeral.j2 kj7 16 t115 t121 t122 s0_2 t123 t124)) = some (r1, r2, r3, r4, r5, r6) := H
            have A18 := Aside0.mk A180
            clear A180
            have HC19 := Aside0.mk H
            clear H
            go_upto_if 38 with (first | ((with_reducible refine gate_callee (f := 13) rfl ?_); refine goesL_ (some 37) rfl rfl Tryz.func13 (by kernel_rfl) rfl #[.pointer (some ⟨g, 0, none⟩), .int .i64 t115] rfl (by (try simp only [List.map_toArray, List.map_cons, List.map_nil]); first | done | rfl | (simp only [List.length_drop, List.length_take]; rfl)) ?_; (with_reducible refine (spec_lexer_next.calls g t116 t117 s0_2 t118 t119 t115 t120 t121 t122 t123 t124 w0 _ ?side1 ?side2 A18.out).mono ?_); (case side1 => repeat (first | (with_reducible first | exact HI0.out | apply IsS33.alloc | apply IsS33.drewN | apply IsS33.drew | apply IsS33.set_0 | apply IsS33.set_1 | apply IsS33.set_3 | apply IsS33.set_4) | exact HI0.out)); (case side2 => repeat (first | (with_reducible first | exact HB.out | apply below_alloc | apply pw_below_drewN | apply below_drew1 | refine below_set ?_ (IsS33.ge HI0.out)) | exact HB.out)); rintro e w20 ⟨rfl, hi, hb, hk⟩; refine ⟨_, rfl, ?_⟩; have n0_ := Aside0.mk (KeepBut.trans (by repeat (first | (with_reducible first | exact HK.out | apply KeepBut.set_ | apply keep_drewN | apply keep_drew | apply keep_alloc) | exact HK.out)) hk (.inl rfl)); have n1_ := Aside0.mk (hb); have n2_ := Aside0.mk (hi); clear HK; clear HB; clear HI0; have HK := n0_; have HB := n1_; have HI0 := n2_; clear n0_ n1_ n2_; (try clear hb); (try clear hb2); (try clear hk); (try clear hi)))
            (try simp only [Act.put, List.setIfInBounds_toArray, List.set_cons_zero, List.set_cons_succ])
            go_cut [4, 5] (fun v4 v5 wc => ∃ (kq : Nat) (x4_18 : Int) (x5_18 : Int) (x1000_18 : ByteArray) (x1001_18 : Int) (x1003_18 : Bool) (x1004_18 : Bool), v4 = .int .i64 x4_18 ∧ v5 = .int .i64 x5_18 ∧ Aside0 (spec_lexer_numeral.j2 kq x4_18 x5_18 x1000_18 x1001_18 s0_2 x1003_18 x1004_18 = some (r1, r2, r3, r4, r5, r6)) ∧ Aside0 (kq ≤ kj7) ∧ Aside0 (IsS33 w0 wc g x1000_18 x1001_18 s0_2 x1003_18 x1004_18) ∧ Aside0 (KeepBut w wc g none) ∧ Aside0 (Below w0.heap.size w0 wc))
            case first =>
              have H := HC19.out
              clear HC19
              by_cases c21 : t120 = 46
              · rw [if_pos c21] at H
                have c21b0 : (t120 == 46) = true := beq_iff_eq.mpr c21
                have c21b1 : (t120 != 46) = false := bne_eq_false_iff_eq.mpr c21
                clear c21
                (first | rw [c21b0] | (simp only [i64_w, i32_w]; rw [c21b0]) | skip)
                replace H := Option.bind_eq_some_iff.mp H
                obtain ⟨⟨t125, t126, t127, t128, t129⟩, A220, H⟩ := H
                replace H : (if t125 = (wrap64 (t115 + 1)) then (some (0, 0, t126, t127, t128, t129)) else (spec_lexer_numeral.j2 kj7 17 t125 t126 t127 s0_2 t128 t129)) = some (r1, r2, r3, r4, r5, r6) := H
                have A22 := Aside0.mk A220
                clear A220
                by_cases c23 : t125 = (wrap64 (t115 + 1))
                · rw [if_pos c23] at H
                  have c23b0 : (t125 == (wrap64 (t115 + 1))) = true := beq_iff_eq.mpr c23
                  have c23b1 : (t125 != (wrap64 (t115 + 1))) = false := bne_eq_false_iff_eq.mpr c23
                  clear c23
                  simp only [Option.some.injEq, Prod.mk.injEq] at H
                  obtain ⟨rfl, rfl, rfl, rfl, rfl, rfl⟩ := H
                  go_wp2_with (first | ((with_reducible refine gate_callee (f := 14) rfl ?_); refine goesL_ (some 44) rfl rfl Tryz.func14 (by kernel_rfl) rfl #[.pointer (some ⟨g, 0, none⟩), .int .i64 (wrap64 (t115 + 1))] rfl (by (try simp only [List.map_toArray, List.map_cons, List.map_nil]); first | done | rfl | (simp only [List.length_drop, List.length_take]; rfl)) ?_; (with_reducible refine (spec_lexer_digits.calls kj7 g t121 t122 s0_2 t123 t124 (wrap64 (t115 + 1)) t125 t126 t127 t128 t129 w0 _ ?side1 ?side2 A22.out).mono ?_); (case side1 => repeat (first | (with_reducible first | exact HI0.out | apply IsS33.alloc | apply IsS33.drewN | apply IsS33.drew | apply IsS33.set_0 | apply IsS33.set_1 | apply IsS33.set_3 | apply IsS33.set_4) | exact HI0.out)); (case side2 => repeat (first | (with_reducible first | exact HB.out | apply below_alloc | apply pw_below_drewN | apply below_drew1 | refine below_set ?_ (IsS33.ge HI0.out)) | exact HB.out)); rintro e w24 ⟨rfl, hi, hb, hk⟩; refine ⟨_, rfl, ?_⟩; have n0_ := Aside0.mk (KeepBut.trans (by repeat (first | (with_reducible first | exact HK.out | apply KeepBut.set_ | apply keep_drewN | apply keep_drew | apply keep_alloc) | exact HK.out)) hk (.inl rfl)); have n1_ := Aside0.mk (hb); have n2_ := Aside0.mk (hi); clear HK; clear HB; clear HI0; have HK := n0_; have HB := n1_; have HI0 := n2_; clear n0_ n1_ n2_; (try clear hb); (try clear hb2); (try clear hk); (try clear hi)))
                  go_ret2
                  exact ⟨by first | rfl | (simp [errW_none, errW_some] <;> rfl) | (simp [*, errW_none, errW_some] <;> rfl), by repeat (first | (with_reducible first | exact HI0.out | apply IsS33.alloc | apply IsS33.drewN | apply IsS33.drew | apply IsS33.set_0 | apply IsS33.set_1 | apply IsS33.set_3 | apply IsS33.set_4) | exact HI0.out), by repeat (first | (with_reducible first | exact HB.out | apply below_alloc | apply pw_below_drewN | apply below_drew1 | refine below_set ?_ (IsS33.ge HI0.out)) | exact HB.out), by repeat (first | (with_reducible first | exact HK.out | apply KeepBut.set_ | apply keep_drewN | apply keep_drew | apply keep_alloc) | exact HK.out)⟩
                · rw [if_neg c23] at H
                  have c23b0 : (t125 == (wrap64 (t115 + 1))) = false := beq_eq_false_iff_ne.mpr c23
                  have c23b1 : (t125 != (wrap64 (t115 + 1))) = true := bne_iff_ne.mpr c23
                  have H' := Aside0.mk H
                  clear H
                  go_wp2_with (first | ((with_reducible refine gate_callee (f := 14) rfl ?_); refine goesL_ (some 44) rfl rfl Tryz.func14 (by kernel_rfl) rfl #[.pointer (some ⟨g, 0, none⟩), .int .i64 (wrap64 (t115 + 1))] rfl (by (try simp only [List.map_toArray, List.map_cons, List.map_nil]); first | done | rfl | (simp only [List.length_drop, List.length_take]; rfl)) ?_; (with_reducible refine (spec_lexer_digits.calls kj7 g t121 t122 s0_2 t123 t124 (wrap64 (t115 + 1)) t125 t126 t127 t128 t129 w0 _ ?side1 ?side2 A22.out).mono ?_); (case side1 => repeat (first | (with_reducible first | exact HI0.out | apply IsS33.alloc | apply IsS33.drewN | apply IsS33.drew | apply IsS33.set_0 | apply IsS33.set_1 | apply IsS33.set_3 | apply IsS33.set_4) | exact HI0.out)); (case side2 => repeat (first | (with_reducible first | exact HB.out | apply below_alloc | apply pw_below_drewN | apply below_drew1 | refine below_set ?_ (IsS33.ge HI0.out)) | exact HB.out)); rintro e w25 ⟨rfl, hi, hb, hk⟩; refine ⟨_, rfl, ?_⟩; have n0_ := Aside0.mk (KeepBut.trans (by repeat (first | (with_reducible first | exact HK.out | apply KeepBut.set_ | apply keep_drewN | apply keep_drew | apply keep_alloc) | exact HK.out)) hk (.inl rfl)); have n1_ := Aside0.mk (hb); have n2_ := Aside0.mk (hi); clear HK; clear HB; clear HI0; have HK := n0_; have HB := n1_; have HI0 := n2_; clear n0_ n1_ n2_; (try clear hb); (try clear hb2); (try clear hk); (try clear hi)))
                  go_meet
                  case rel => exact ⟨_, (17), (t125), (t126), (t127), (t128), (t129), (by first | rfl | (simp; done) | (simp [*]; done)), (by first | rfl | (simp; done) | (simp [*]; done)), H', ⟨by have := HJ3.out; have := HJ7.out; first | omega | exact Nat.le_refl _⟩, ⟨by repeat (first | (with_reducible first | exact HI0.out | apply IsS33.alloc | apply IsS33.drewN | apply IsS33.drew | apply IsS33.set_0 | apply IsS33.set_1 | apply IsS33.set_3 | apply IsS33.set_4) | exact HI0.out)⟩, ⟨by repeat (first | (with_reducible first | exact HK.out | apply KeepBut.set_ | apply keep_drewN | apply keep_drew | apply keep_alloc) | exact HK.out)⟩, ⟨by repeat (first | (with_reducible first | exact HB.out | apply below_alloc | apply pw_below_drewN | apply below_drew1 | refine below_set ?_ (IsS33.ge HI0.out)) | exact HB.out)⟩⟩
              · rw [if_neg c21] at H
                have c21b0 : (t120 == 46) = false := beq_eq_false_iff_ne.mpr c21
                have c21b1 : (t120 != 46) = true := bne_iff_ne.mpr c21
                (first | rw [c21b0] | (simp only [i64_w, i32_w]; rw [c21b0]) | skip)
                have H' := Aside0.mk H
                clear H
                go_wp2
                go_meet
                case rel => exact ⟨_, (16), (t115), (t121), (t122), (t123), (t124), (by first | rfl | (simp; done) | (simp [*]; done)), (by first | rfl | (simp; done) | (simp [*]; done)), H', ⟨by have := HJ3.out; have := HJ7.out; first | omega | exact Nat.le_refl _⟩, ⟨by repeat (first | (with_reducible first | exact HI0.out | apply IsS33.alloc | apply IsS33.drewN | apply IsS33.drew | apply IsS33.set_0 | apply IsS33.set_1 | apply IsS33.set_3 | apply IsS33.set_4) | exact HI0.out)⟩, ⟨by repeat (first | (with_reducible first | exact HK.out | apply KeepBut.set_ | apply keep_drewN | apply keep_drew | apply keep_alloc) | exact HK.out)⟩, ⟨by repeat (first | (with_reducible first | exact HB.out | apply below_alloc | apply pw_below_drewN | apply below_drew1 | refine below_set ?_ (IsS33.ge HI0.out)) | exact HB.out)⟩⟩
            case rest =>
              clear HC19
              try clear c1
              try clear p1
              try clear q1
              try clear hx1
              try clear c2
              try clear p2
              try clear c6
              try clear c6b0
              try clear c6b1
              try clear p6
              try clear c9
              try clear c10
              try clear c10b0
              try clear c10b1
              try clear c11
              try clear c11b0
              try clear c12
              try clear c12b0
              try clear c13
              try clear p13
              try clear q13
              try clear hx13
              try clear c14
              try clear c14b0
              try clear c14b1
              try clear c17
              try clear c21
              try clear c21b0
              try clear c21b1
              try clear c23
              try clear c23b0
              try clear c23b1
              try clear hcz15_0
              try clear hcz15_1
              try clear hcz15_2
              try clear hcz15_3
              try clear hcz15_4
              try clear hcz16_0
              try clear hcz16_1
              try clear hcz16_2
              try clear hcz16_3
              try clear hcz16_4
              try clear hfz15_0
              try clear hfz15_1
              try clear hfz15_3
              try clear hfz15_4
              try clear hfz16_0
              try clear hfz16_1
              try clear hfz16_3
              try clear hfz16_4
              try clear p1
              try clear p13
              try clear p2
              try clear p6
              try clear q1
              try clear q13
              obtain ⟨kq, x4_18, x5_18, x1000_18, x1001_18, x1003_18, x1004_18, rfl, rfl, HA, HJ18, HI0, HK, HB⟩ := hcut
              cases kq with
              | zero => exact absurd HA.out (by simp [spec_lexer_numeral.j2])
              | succ kj18 =>
                have H := HA.out
                clear HA
                simp only [spec_lexer_numeral.j2] at H
                replace H := Option.bind_eq_some_iff.mp H
                obtain ⟨⟨t130, t131, t132, t133, t134⟩, A260, H⟩ := H
                replace H : (if t130 = 101 then (spec_lexer_numeral.j3 kj18 x4_18 x5_18 true t131 t132 s0_2 t133 t134) else (spec_lexer_numeral.j3 kj18 x4_18 x5_18 (t130 == 69) t131 t132 s0_2 t133 t134)) = some (r1, r2, r3, r4, r5, r6) := H
                have A26 := Aside0.mk A260
                clear A260
                have HC27 := Aside0.mk H
                clear H
                go_upto_region 13 with (first | ((with_reducible refine gate_callee (f := 13) rfl ?_); refine goesL_ (some 50) rfl rfl Tryz.func13 (by kernel_rfl) rfl #[.pointer (some ⟨g, 0, none⟩), .int .i64 x5_18] rfl (by (try simp only [List.map_toArray, List.map_cons, List.map_nil]); first | done | rfl | (simp only [List.length_drop, List.length_take]; rfl)) ?_; (with_reducible refine (spec_lexer_next.calls g x1000_18 x1001_18 s0_2 x1003_18 x1004_18 x5_18 t130 t131 t132 t133 t134 w0 _ ?side1 ?side2 A26.out).mono ?_); (case side1 => repeat (first | (with_reducible first | exact HI0.out | apply IsS33.alloc | apply IsS33.drewN | apply IsS33.drew | apply IsS33.set_0 | apply IsS33.set_1 | apply IsS33.set_3 | apply IsS33.set_4) | exact HI0.out)); (case side2 => repeat (first | (with_reducible first | exact HB.out | apply below_alloc | apply pw_below_drewN | apply below_drew1 | refine below_set ?_ (IsS33.ge HI0.out)) | exact HB.out)); rintro e w28 ⟨rfl, hi, hb, hk⟩; refine ⟨_, rfl, ?_⟩; have n0_ := Aside0.mk (KeepBut.trans (by repeat (first | (with_reducible first | exact HK.out | apply KeepBut.set_ | apply keep_drewN | apply keep_drew | apply keep_alloc) | exact HK.out)) hk (.inl rfl)); have n1_ := Aside0.mk (hb); have n2_ := Aside0.mk (hi); clear HK; clear HB; clear HI0; have HK := n0_; have HB := n1_; have HI0 := n2_; clear n0_ n1_ n2_; (try clear hb); (try clear hb2); (try clear hk); (try clear hi)))
                (try simp only [Act.put, List.setIfInBounds_toArray, List.set_cons_zero, List.set_cons_succ])
                go_cut [56] (fun v56 wc => ∃ (kq : Nat) (x56_26 : Bool), v56 = .bool x56_26 ∧ Aside0 (spec_lexer_numeral.j3 kq x4_18 x5_18 x56_26 t131 t132 s0_2 t133 t134 = some (r1, r2, r3, r4, r5, r6)) ∧ Aside0 (kq ≤ kj18) ∧ Aside0 (IsS33 w0 wc g t131 t132 s0_2 t133 t134) ∧ Aside0 (KeepBut w wc g none) ∧ Aside0 (Below w0.heap.size w0 wc))
                case first =>
                  have H := HC27.out
                  clear HC27
                  by_cases c29 : t130 = 101
                  · rw [if_pos c29] at H
                    have c29b0 : (t130 == 101) = true := beq_iff_eq.mpr c29
                    have c29b1 : (t130 != 101) = false := bne_eq_false_iff_eq.mpr c29
                    clear c29
                    (first | rw [c29b0] | (simp only [i64_w, i32_w]; rw [c29b0]) | skip)
                    have H' := Aside0.mk H
                    clear H
                    go_wp2
                    go_meet
                    case rel => exact ⟨_, (true), (by first | rfl | (simp; done) | (simp [*]; done)), H', ⟨by have := HJ3.out; have := HJ7.out; have := HJ18.out; first | omega | exact Nat.le_refl _⟩, ⟨by repeat (first | (with_reducible first | exact HI0.out | apply IsS33.alloc | apply IsS33.drewN | apply IsS33.drew | apply IsS33.set_0 | apply IsS33.set_1 | apply IsS33.set_3 | apply IsS33.set_4) | exact HI0.out)⟩, ⟨by repeat (first | (with_reducible first | exact HK.out | apply KeepBut.set_ | apply keep_drewN | apply keep_drew | apply keep_alloc) | exact HK.out)⟩, ⟨by repeat (first | (with_reducible first | exact HB.out | apply below_alloc | apply pw_below_drewN | apply below_drew1 | refine below_set ?_ (IsS33.ge HI0.out)) | exact HB.out)⟩⟩
                  · rw [if_neg c29] at H
                    have c29b0 : (t130 == 101) = false := beq_eq_false_iff_ne.mpr c29
                    have c29b1 : (t130 != 101) = true := bne_iff_ne.mpr c29
                    (first | rw [c29b0] | (simp only [i64_w, i32_w]; rw [c29b0]) | skip)
                    have H' := Aside0.mk H
                    clear H
                    go_wp2
                    go_meet
                    case rel => exact ⟨_, ((t130 == 69)), (by first | rfl | (simp; done) | (simp [*]; done)), H', ⟨by have := HJ3.out; have := HJ7.out; have := HJ18.out; first | omega | exact Nat.le_refl _⟩, ⟨by repeat (first | (with_reducible first | exact HI0.out | apply IsS33.alloc | apply IsS33.drewN | apply IsS33.drew | apply IsS33.set_0 | apply IsS33.set_1 | apply IsS33.set_3 | apply IsS33.set_4) | exact HI0.out)⟩, ⟨by repeat (first | (with_reducible first | exact HK.out | apply KeepBut.set_ | apply keep_drewN | apply keep_drew | apply keep_alloc) | exact HK.out)⟩, ⟨by repeat (first | (with_reducible first | exact HB.out | apply below_alloc | apply pw_below_drewN | apply below_drew1 | refine below_set ?_ (IsS33.ge HI0.out)) | exact HB.out)⟩⟩
                case rest =>
                  clear HC27
                  try clear c1
                  try clear p1
                  try clear q1
                  try clear hx1
                  try clear c2
                  try clear p2
                  try clear c6
                  try clear c6b0
                  try clear c6b1
                  try clear p6
                  try clear c9
                  try clear c10
                  try clear c10b0
                  try clear c10b1
                  try clear c11
                  try clear c11b0
                  try clear c12
                  try clear c12b0
                  try clear c13
                  try clear p13
                  try clear q13
                  try clear hx13
                  try clear c14
                  try clear c14b0
                  try clear c14b1
                  try clear c17
                  try clear c21
                  try clear c21b0
                  try clear c21b1
                  try clear c23
                  try clear c23b0
                  try clear c23b1
                  try clear c29
                  try clear c29b0
                  try clear c29b1
                  try clear hcz15_0
                  try clear hcz15_1
                  try clear hcz15_2
                  try clear hcz15_3
                  try clear hcz15_4
                  try clear hcz16_0
                  try clear hcz16_1
                  try clear hcz16_2
                  try clear hcz16_3
                  try clear hcz16_4
                  try clear hfz15_0
                  try clear hfz15_1
                  try clear hfz15_3
                  try clear hfz15_4
                  try clear hfz16_0
                  try clear hfz16_1
                  try clear hfz16_3
                  try clear hfz16_4
                  try clear p1
                  try clear p13
                  try clear p2
                  try clear p6
                  try clear q1
                  try clear q13
                  obtain ⟨kq, x56_26, rfl, HA, HJ26, HI0, HK, HB⟩ := hcut
                  cases kq with
                  | zero => exact absurd HA.out (by simp [spec_lexer_numeral.j3])
                  | succ kj26 =>
                    have H := HA.out
                    clear HA
                    simp only [spec_lexer_numeral.j3] at H
                    by_cases c30 : x56_26 = true
                    · subst c30
                      have H1 : ((spec_lexer_next.f t131 t132 s0_2 t133 t134 (wrap64 (x5_18 + 1))).bind fun bt135 => (if bt135.1 = 43 then (spec_lexer_numeral.j4 kj26 (wrap64 (x5_18 + 1)) 17 true bt135.2.1 bt135.2.2.1 s0_2 bt135.2.2.2.1 bt135.2.2.2.2) else (spec_lexer_numeral.j4 kj26 (wrap64 (x5_18 + 1)) 17 (bt135.1 == 45) bt135.2.1 bt135.2.2.1 s0_2 bt135.2.2.2.1 bt135.2.2.2.2))) = some (r1, r2, r3, r4, r5, r6) := by rw [if_pos rfl] at H; exact H
                      clear H
                      have H := H1
                      clear H1
                      replace H := Option.bind_eq_some_iff.mp H
                      obtain ⟨⟨t135, t136, t137, t138, t139⟩, A310, H⟩ := H
                      replace H : (if t135 = 43 then (spec_lexer_numeral.j4 kj26 (wrap64 (x5_18 + 1)) 17 true t136 t137 s0_2 t138 t139) else (spec_lexer_numeral.j4 kj26 (wrap64 (x5_18 + 1)) 17 (t135 == 45) t136 t137 s0_2 t138 t139)) = some (r1, r2, r3, r4, r5, r6) := H
                      have A31 := Aside0.mk A310
                      clear A310
                      have HC32 := Aside0.mk H
                      clear H
                      go_upto_region 17 with (first | ((with_reducible refine gate_callee (f := 13) rfl ?_); refine goesL_ (some 61) rfl rfl Tryz.func13 (by kernel_rfl) rfl #[.pointer (some ⟨g, 0, none⟩), .int .i64 (wrap64 (x5_18 + 1))] rfl (by (try simp only [List.map_toArray, List.map_cons, List.map_nil]); first | done | rfl | (simp only [List.length_drop, List.length_take]; rfl)) ?_; (with_reducible refine (spec_lexer_next.calls g t131 t132 s0_2 t133 t134 (wrap64 (x5_18 + 1)) t135 t136 t137 t138 t139 w0 _ ?side1 ?side2 A31.out).mono ?_); (case side1 => repeat (first | (with_reducible first | exact HI0.out | apply IsS33.alloc | apply IsS33.drewN | apply IsS33.drew | apply IsS33.set_0 | apply IsS33.set_1 | apply IsS33.set_3 | apply IsS33.set_4) | exact HI0.out)); (case side2 => repeat (first | (with_reducible first | exact HB.out | apply below_alloc | apply pw_below_drewN | apply below_drew1 | refine below_set ?_ (IsS33.ge HI0.out)) | exact HB.out)); rintro e w33 ⟨rfl, hi, hb, hk⟩; refine ⟨_, rfl, ?_⟩; have n0_ := Aside0.mk (KeepBut.trans (by repeat (first | (with_reducible first | exact HK.out | apply KeepBut.set_ | apply keep_drewN | apply keep_drew | apply keep_alloc) | exact HK.out)) hk (.inl rfl)); have n1_ := Aside0.mk (hb); have n2_ := Aside0.mk (hi); clear HK; clear HB; clear HI0; have HK := n0_; have HB := n1_; have HI0 := n2_; clear n0_ n1_ n2_; (try clear hb); (try clear hb2); (try clear hk); (try clear hi)))
                      (try simp only [Act.put, List.setIfInBounds_toArray, List.set_cons_zero, List.set_cons_succ])
                      go_cut [67] (fun v67 wc => ∃ (kq : Nat) (x67_31 : Bool), v67 = .bool x67_31 ∧ Aside0 (spec_lexer_numeral.j4 kq (wrap64 (x5_18 + 1)) 17 x67_31 t136 t137 s0_2 t138 t139 = some (r1, r2, r3, r4, r5, r6)) ∧ Aside0 (kq ≤ kj26) ∧ Aside0 (IsS33 w0 wc g t136 t137 s0_2 t138 t139) ∧ Aside0 (KeepBut w wc g none) ∧ Aside0 (Below w0.heap.size w0 wc))
                      case first =>
                        have H := HC32.out
                        clear HC32
                        by_cases c34 : t135 = 43
                        · rw [if_pos c34] at H
                          have c34b0 : (t135 == 43) = true := beq_iff_eq.mpr c34
                          have c34b1 : (t135 != 43) = false := bne_eq_false_iff_eq.mpr c34
                          clear c34
                          (first | rw [c34b0] | (simp only [i64_w, i32_w]; rw [c34b0]) | skip)
                          have H' := Aside0.mk H
                          clear H
                          go_wp2
                          go_meet
                          case rel => exact ⟨_, (true), (by first | rfl | (simp; done) | (simp [*]; done)), H', ⟨by have := HJ3.out; have := HJ7.out; have := HJ18.out; have := HJ26.out; first | omega | exact Nat.le_refl _⟩, ⟨by repeat (first | (with_reducible first | exact HI0.out | apply IsS33.alloc | apply IsS33.drewN | apply IsS33.drew | apply IsS33.set_0 | apply IsS33.set_1 | apply IsS33.set_3 | apply IsS33.set_4) | exact HI0.out)⟩, ⟨by repeat (first | (with_reducible first | exact HK.out | apply KeepBut.set_ | apply keep_drewN | apply keep_drew | apply keep_alloc) | exact HK.out)⟩, ⟨by repeat (first | (with_reducible first | exact HB.out | apply below_alloc | apply pw_below_drewN | apply below_drew1 | refine below_set ?_ (IsS33.ge HI0.out)) | exact HB.out)⟩⟩
                        · rw [if_neg c34] at H
                          have c34b0 : (t135 == 43) = false := beq_eq_false_iff_ne.mpr c34
                          have c34b1 : (t135 != 43) = true := bne_iff_ne.mpr c34
                          (first | rw [c34b0] | (simp only [i64_w, i32_w]; rw [c34b0]) | skip)
                          have H' := Aside0.mk H
                          clear H
                          go_wp2
                          go_meet
                          case rel => exact ⟨_, ((t135 == 45)), (by first | rfl | (simp; done) | (simp [*]; done)), H', ⟨by have := HJ3.out; have := HJ7.out; have := HJ18.out; have := HJ26.out; first | omega | exact Nat.le_refl _⟩, ⟨by repeat (first | (with_reducible first | exact HI0.out | apply IsS33.alloc | apply IsS33.drewN | apply IsS33.drew | apply IsS33.set_0 | apply IsS33.set_1 | apply IsS33.set_3 | apply IsS33.set_4) | exact HI0.out)⟩, ⟨by repeat (first | (with_reducible first | exact HK.out | apply KeepBut.set_ | apply keep_drewN | apply keep_drew | apply keep_alloc) | exact HK.out)⟩, ⟨by repeat (first | (with_reducible first | exact HB.out | apply below_alloc | apply pw_below_drewN | apply below_drew1 | refine below_set ?_ (IsS33.ge HI0.out)) | exact HB.out)⟩⟩
                      case rest =>
                        clear HC32
                        try clear c1
                        try clear p1
                        try clear q1
                        try clear hx1
                        try clear c2
                        try clear p2
                        try clear c3
                        try clear c6
                        try clear c6b0
                        try clear c6b1
                        try clear p6
                        try clear c9
                        try clear c10
                        try clear c10b0
                        try clear c10b1
                        try clear c11
                        try clear c11b0
                        try clear c12
                        try clear c12b0
                        try clear c13
                        try clear p13
                        try clear q13
                        try clear hx13
                        try clear c14
                        try clear c14b0
                        try clear c14b1
                        try clear c17
                        try clear c21
                        try clear c21b0
                        try clear c21b1
                        try clear c23
                        try clear c23b0
                        try clear c23b1
                        try clear c29
                        try clear c29b0
                        try clear c29b1
                        try clear c30
                        try clear c34
                        try clear c34b0
                        try clear c34b1
                        try clear hcz15_0
                        try clear hcz15_1
                        try clear hcz15_2
                        try clear hcz15_3
                        try clear hcz15_4
                        try clear hcz16_0
                        try clear hcz16_1
                        try clear hcz16_2
                        try clear hcz16_3
                        try clear hcz16_4
                        try clear hfz15_0
                        try clear hfz15_1
                        try clear hfz15_3
                        try clear hfz15_4
                        try clear hfz16_0
                        try clear hfz16_1
                        try clear hfz16_3
                        try clear hfz16_4
                        try clear p1
                        try clear p13
                        try clear p2
                        try clear p6
                        try clear q1
                        try clear q13
                        obtain ⟨kq, x67_31, rfl, HA, HJ31, HI0, HK, HB⟩ := hcut
                        cases kq with
                        | zero => exact absurd HA.out (by simp [spec_lexer_numeral.j4])
                        | succ kj31 =>
                          have H := HA.out
                          clear HA
                          simp only [spec_lexer_numeral.j4] at H
                          by_cases c35 : x67_31 = true
                          · subst c35
                            have H1 : ((spec_lexer_digits.f kj31 t136 t137 s0_2 t138 t139 (wrap64 ((wrap64 (x5_18 + 1)) + 1))).bind fun bt140 => (if bt140.1 = (wrap64 ((wrap64 (x5_18 + 1)) + 1)) then (some (0, 0, bt140.2.1, bt140.2.2.1, bt140.2.2.2.1, bt140.2.2.2.2)) else (some (17, bt140.1, bt140.2.1, bt140.2.2.1, bt140.2.2.2.1, bt140.2.2.2.2)))) = some (r1, r2, r3, r4, r5, r6) := by rw [if_pos rfl] at H; exact H
                            clear H
                            have H := H1
                            clear H1
                            replace H := Option.bind_eq_some_iff.mp H
                            obtain ⟨⟨t140, t141, t142, t143, t144⟩, A360, H⟩ := H
                            replace H : (if t140 = (wrap64 ((wrap64 (x5_18 + 1)) + 1)) then (some (0, 0, t141, t142, t143, t144)) else (some (17, t140, t141, t142, t143, t144))) = some (r1, r2, r3, r4, r5, r6) := H
                            have A36 := Aside0.mk A360
                            clear A360
                            by_cases c37 : t140 = (wrap64 ((wrap64 (x5_18 + 1)) + 1))
                            · rw [if_pos c37] at H
                              have c37b0 : (t140 == (wrap64 ((wrap64 (x5_18 + 1)) + 1))) = true := beq_iff_eq.mpr c37
                              have c37b1 : (t140 != (wrap64 ((wrap64 (x5_18 + 1)) + 1))) = false := bne_eq_false_iff_eq.mpr c37
                              clear c37
                              simp only [Option.some.injEq, Prod.mk.injEq] at H
                              obtain ⟨rfl, rfl, rfl, rfl, rfl, rfl⟩ := H
                              go_wp2_with (first | ((with_reducible refine gate_callee (f := 14) rfl ?_); refine goesL_ (some 72) rfl rfl Tryz.func14 (by kernel_rfl) rfl #[.pointer (some ⟨g, 0, none⟩), .int .i64 (wrap64 ((wrap64 (x5_18 + 1)) + 1))] rfl (by (try simp only [List.map_toArray, List.map_cons, List.map_nil]); first | done | rfl | (simp only [List.length_drop, List.length_take]; rfl)) ?_; (with_reducible refine (spec_lexer_digits.calls kj31 g t136 t137 s0_2 t138 t139 (wrap64 ((wrap64 (x5_18 + 1)) + 1)) t140 t141 t142 t143 t144 w0 _ ?side1 ?side2 A36.out).mono ?_); (case side1 => repeat (first | (with_reducible first | exact HI0.out | apply IsS33.alloc | apply IsS33.drewN | apply IsS33.drew | apply IsS33.set_0 | apply IsS33.set_1 | apply IsS33.set_3 | apply IsS33.set_4) | exact HI0.out)); (case side2 => repeat (first | (with_reducible first | exact HB.out | apply below_alloc | apply pw_below_drewN | apply below_drew1 | refine below_set ?_ (IsS33.ge HI0.out)) | exact HB.out)); rintro e w38 ⟨rfl, hi, hb, hk⟩; refine ⟨_, rfl, ?_⟩; have n0_ := Aside0.mk (KeepBut.trans (by repeat (first | (with_reducible first | exact HK.out | apply KeepBut.set_ | apply keep_drewN | apply keep_drew | apply keep_alloc) | exact HK.out)) hk (.inl rfl)); have n1_ := Aside0.mk (hb); have n2_ := Aside0.mk (hi); clear HK; clear HB; clear HI0; have HK := n0_; have HB := n1_; have HI0 := n2_; clear n0_ n1_ n2_; (try clear hb); (try clear hb2); (try clear hk); (try clear hi)))
                              go_ret2
                              exact ⟨by first | rfl | (simp [errW_none, errW_some] <;> rfl) | (simp [*, errW_none, errW_some] <;> rfl), by repeat (first | (with_reducible first | exact HI0.out | apply IsS33.alloc | apply IsS33.drewN | apply IsS33.drew | apply IsS33.set_0 | apply IsS33.set_1 | apply IsS33.set_3 | apply IsS33.set_4) | exact HI0.out), by repeat (first | (with_reducible first | exact HB.out | apply below_alloc | apply pw_below_drewN | apply below_drew1 | refine below_set ?_ (IsS33.ge HI0.out)) | exact HB.out), by repeat (first | (with_reducible first | exact HK.out | apply KeepBut.set_ | apply keep_drewN | apply keep_drew | apply keep_alloc) | exact HK.out)⟩
                            · rw [if_neg c37] at H
                              have c37b0 : (t140 == (wrap64 ((wrap64 (x5_18 + 1)) + 1))) = false := beq_eq_false_iff_ne.mpr c37
                              have c37b1 : (t140 != (wrap64 ((wrap64 (x5_18 + 1)) + 1))) = true := bne_iff_ne.mpr c37
                              simp only [Option.some.injEq, Prod.mk.injEq] at H
                              obtain ⟨rfl, rfl, rfl, rfl, rfl, rfl⟩ := H
                              go_wp2_with (first | ((with_reducible refine gate_callee (f := 14) rfl ?_); refine goesL_ (some 72) rfl rfl Tryz.func14 (by kernel_rfl) rfl #[.pointer (some ⟨g, 0, none⟩), .int .i64 (wrap64 ((wrap64 (x5_18 + 1)) + 1))] rfl (by (try simp only [List.map_toArray, List.map_cons, List.map_nil]); first | done | rfl | (simp only [List.length_drop, List.length_take]; rfl)) ?_; (with_reducible refine (spec_lexer_digits.calls kj31 g t136 t137 s0_2 t138 t139 (wrap64 ((wrap64 (x5_18 + 1)) + 1)) t140 t141 t142 t143 t144 w0 _ ?side1 ?side2 A36.out).mono ?_); (case side1 => repeat (first | (with_reducible first | exact HI0.out | apply IsS33.alloc | apply IsS33.drewN | apply IsS33.drew | apply IsS33.set_0 | apply IsS33.set_1 | apply IsS33.set_3 | apply IsS33.set_4) | exact HI0.out)); (case side2 => repeat (first | (with_reducible first | exact HB.out | apply below_alloc | apply pw_below_drewN | apply below_drew1 | refine below_set ?_ (IsS33.ge HI0.out)) | exact HB.out)); rintro e w39 ⟨rfl, hi, hb, hk⟩; refine ⟨_, rfl, ?_⟩; have n0_ := Aside0.mk (KeepBut.trans (by repeat (first | (with_reducible first | exact HK.out | apply KeepBut.set_ | apply keep_drewN | apply keep_drew | apply keep_alloc) | exact HK.out)) hk (.inl rfl)); have n1_ := Aside0.mk (hb); have n2_ := Aside0.mk (hi); clear HK; clear HB; clear HI0; have HK := n0_; have HB := n1_; have HI0 := n2_; clear n0_ n1_ n2_; (try clear hb); (try clear hb2); (try clear hk); (try clear hi)))
                              go_ret2
                              exact ⟨by first | rfl | (simp [errW_none, errW_some] <;> rfl) | (simp [*, errW_none, errW_some] <;> rfl), by repeat (first | (with_reducible first | exact HI0.out | apply IsS33.alloc | apply IsS33.drewN | apply IsS33.drew | apply IsS33.set_0 | apply IsS33.set_1 | apply IsS33.set_3 | apply IsS33.set_4) | exact HI0.out), by repeat (first | (with_reducible first | exact HB.out | apply below_alloc | apply pw_below_drewN | apply below_drew1 | refine below_set ?_ (IsS33.ge HI0.out)) | exact HB.out), by repeat (first | (with_reducible first | exact HK.out | apply KeepBut.set_ | apply keep_drewN | apply keep_drew | apply keep_alloc) | exact HK.out)⟩
                          · replace c35 := Bool.eq_false_iff.mpr c35
                            subst c35
                            have H1 : ((spec_lexer_digits.f kj31 t136 t137 s0_2 t138 t139 (wrap64 (x5_18 + 1))).bind fun bt145 => (if bt145.1 = (wrap64 (x5_18 + 1)) then (some (0, 0, bt145.2.1, bt145.2.2.1, bt145.2.2.2.1, bt145.2.2.2.2)) else (some (17, bt145.1, bt145.2.1, bt145.2.2.1, bt145.2.2.2.1, bt145.2.2.2.2)))) = some (r1, r2, r3, r4, r5, r6) := by rw [if_neg (show ¬ (false = true) by decide)] at H; exact H
                            clear H
                            have H := H1
                            clear H1
                            replace H := Option.bind_eq_some_iff.mp H
                            obtain ⟨⟨t145, t146, t147, t148, t149⟩, A400, H⟩ := H
                            replace H : (if t145 = (wrap64 (x5_18 + 1)) then (some (0, 0, t146, t147, t148, t149)) else (some (17, t145, t146, t147, t148, t149))) = some (r1, r2, r3, r4, r5, r6) := H
                            have A40 := Aside0.mk A400
                            clear A400
                            by_cases c41 : t145 = (wrap64 (x5_18 + 1))
                            · rw [if_pos c41] at H
                              have c41b0 : (t145 == (wrap64 (x5_18 + 1))) = true := beq_iff_eq.mpr c41
                              have c41b1 : (t145 != (wrap64 (x5_18 + 1))) = false := bne_eq_false_iff_eq.mpr c41
                              clear c41
                              simp only [Option.some.injEq, Prod.mk.injEq] at H
                              obtain ⟨rfl, rfl, rfl, rfl, rfl, rfl⟩ := H
                              go_wp2_with (first | ((with_reducible refine gate_callee (f := 14) rfl ?_); refine goesL_ (some 72) rfl rfl Tryz.func14 (by kernel_rfl) rfl #[.pointer (some ⟨g, 0, none⟩), .int .i64 (wrap64 (x5_18 + 1))] rfl (by (try simp only [List.map_toArray, List.map_cons, List.map_nil]); first | done | rfl | (simp only [List.length_drop, List.length_take]; rfl)) ?_; (with_reducible refine (spec_lexer_digits.calls kj31 g t136 t137 s0_2 t138 t139 (wrap64 (x5_18 + 1)) t145 t146 t147 t148 t149 w0 _ ?side1 ?side2 A40.out).mono ?_); (case side1 => repeat (first | (with_reducible first | exact HI0.out | apply IsS33.alloc | apply IsS33.drewN | apply IsS33.drew | apply IsS33.set_0 | apply IsS33.set_1 | apply IsS33.set_3 | apply IsS33.set_4) | exact HI0.out)); (case side2 => repeat (first | (with_reducible first | exact HB.out | apply below_alloc | apply pw_below_drewN | apply below_drew1 | refine below_set ?_ (IsS33.ge HI0.out)) | exact HB.out)); rintro e w42 ⟨rfl, hi, hb, hk⟩; refine ⟨_, rfl, ?_⟩; have n0_ := Aside0.mk (KeepBut.trans (by repeat (first | (with_reducible first | exact HK.out | apply KeepBut.set_ | apply keep_drewN | apply keep_drew | apply keep_alloc) | exact HK.out)) hk (.inl rfl)); have n1_ := Aside0.mk (hb); have n2_ := Aside0.mk (hi); clear HK; clear HB; clear HI0; have HK := n0_; have HB := n1_; have HI0 := n2_; clear n0_ n1_ n2_; (try clear hb); (try clear hb2); (try clear hk); (try clear hi)))
                              go_ret2
                              exact ⟨by first | rfl | (simp [errW_none, errW_some] <;> rfl) | (simp [*, errW_none, errW_some] <;> rfl), by repeat (first | (with_reducible first | exact HI0.out | apply IsS33.alloc | apply IsS33.drewN | apply IsS33.drew | apply IsS33.set_0 | apply IsS33.set_1 | apply IsS33.set_3 | apply IsS33.set_4) | exact HI0.out), by repeat (first | (with_reducible first | exact HB.out | apply below_alloc | apply pw_below_drewN | apply below_drew1 | refine below_set ?_ (IsS33.ge HI0.out)) | exact HB.out), by repeat (first | (with_reducible first | exact HK.out | apply KeepBut.set_ | apply keep_drewN | apply keep_drew | apply keep_alloc) | exact HK.out)⟩
                            · rw [if_neg c41] at H
                              have c41b0 : (t145 == (wrap64 (x5_18 + 1))) = false := beq_eq_false_iff_ne.mpr c41
                              have c41b1 : (t145 != (wrap64 (x5_18 + 1))) = true := bne_iff_ne.mpr c41
                              simp only [Option.some.injEq, Prod.mk.injEq] at H
                              obtain ⟨rfl, rfl, rfl, rfl, rfl, rfl⟩ := H
                              go_wp2_with (first | ((with_reducible refine gate_callee (f := 14) rfl ?_); refine goesL_ (some 72) rfl rfl Tryz.func14 (by kernel_rfl) rfl #[.pointer (some ⟨g, 0, none⟩), .int .i64 (wrap64 (x5_18 + 1))] rfl (by (try simp only [List.map_toArray, List.map_cons, List.map_nil]); first | done | rfl | (simp only [List.length_drop, List.length_take]; rfl)) ?_; (with_reducible refine (spec_lexer_digits.calls kj31 g t136 t137 s0_2 t138 t139 (wrap64 (x5_18 + 1)) t145 t146 t147 t148 t149 w0 _ ?side1 ?side2 A40.out).mono ?_); (case side1 => repeat (first | (with_reducible first | exact HI0.out | apply IsS33.alloc | apply IsS33.drewN | apply IsS33.drew | apply IsS33.set_0 | apply IsS33.set_1 | apply IsS33.set_3 | apply IsS33.set_4) | exact HI0.out)); (case side2 => repeat (first | (with_reducible first | exact HB.out | apply below_alloc | apply pw_below_drewN | apply below_drew1 | refine below_set ?_ (IsS33.ge HI0.out)) | exact HB.out)); rintro e w43 ⟨rfl, hi, hb, hk⟩; refine ⟨_, rfl, ?_⟩; have n0_ := Aside0.mk (KeepBut.trans (by repeat (first | (with_reducible first | exact HK.out | apply KeepBut.set_ | apply keep_drewN | apply keep_drew | apply keep_alloc) | exact HK.out)) hk (.inl rfl)); have n1_ := Aside0.mk (hb); have n2_ := Aside0.mk (hi); clear HK; clear HB; clear HI0; have HK := n0_; have HB := n1_; have HI0 := n2_; clear n0_ n1_ n2_; (try clear hb); (try clear hb2); (try clear hk); (try clear hi)))
                              go_ret2
                              exact ⟨by first | rfl | (simp [errW_none, errW_some] <;> rfl) | (simp [*, errW_none, errW_some] <;> rfl), by repeat (first | (with_reducible first | exact HI0.out | apply IsS33.alloc | apply IsS33.drewN | apply IsS33.drew | apply IsS33.set_0 | apply IsS33.set_1 | apply IsS33.set_3 | apply IsS33.set_4) | exact HI0.out), by repeat (first | (with_reducible first | exact HB.out | apply below_alloc | apply pw_below_drewN | apply below_drew1 | refine below_set ?_ (IsS33.ge HI0.out)) | exact HB.out), by repeat (first | (with_reducible first | exact HK.out | apply KeepBut.set_ | apply keep_drewN | apply keep_drew | apply keep_alloc) | exact HK.out)⟩
                    · replace c30 := Bool.eq_false_iff.mpr c30
                      subst c30
                      have H1 : (some (x4_18, x5_18, t131, t132, t133, t134)) = some (r1, r2, r3, r4, r5, r6) := by rw [if_neg (show ¬ (false = true) by decide)] at H; exact H
                      clear H
                      have H := H1
                      clear H1
                      simp only [Option.some.injEq, Prod.mk.injEq] at H
                      obtain ⟨rfl, rfl, rfl, rfl, rfl, rfl⟩ := H
                      go_wp2
                      go_ret2
                      exact ⟨by first | rfl | (simp [errW_none, errW_some] <;> rfl) | (simp [*, errW_none, errW_some] <;> rfl), by repeat (first | (with_reducible first | exact HI0.out | apply IsS33.alloc | apply IsS33.drewN | apply IsS33.drew | apply IsS33.set_0 | apply IsS33.set_1 | apply IsS33.set_3 | apply IsS33.set_4) | exact HI0.out), by repeat (first | (with_reducible first | exact HB.out | apply below_alloc | apply pw_below_drewN | apply below_drew1 | refine below_set ?_ (IsS33.ge HI0.out)) | exact HB.out), by repeat (first | (with_reducible first | exact HK.out | apply KeepBut.set_ | apply keep_drewN | apply keep_drew | apply keep_alloc) | exact HK.out)⟩

-- NOT PRINTED: function 5 (spec_ReadNumber)

-- NOT PRINTED: function 22 (utf8_decodeRuneSlow)

-- NOT PRINTED: function 18 (utf8_DecodeRune)

-- NOT PRINTED: function 15 (lexer_runeAt)

-- NOT PRINTED: function 25 (ast_ZzIsNil)

end Go.Proofs.YtmlochnckplalaaGreatDoor.PFnReadNumber
