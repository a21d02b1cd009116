/- FnIgnored: the reference's Ignored, walked in the program. Condition: a text of at most 2000 bytes. -/
import Derived.Test.YtmlochnckplalaaDoorSPu
namespace Go.Proofs.YtmlochnckplalaaDoor.PFnIgnored
open Go.RowKit Go.Proofs.YtmlochnckplalaaDoorW.PrintWords Go.Proofs.YtmlochnckplalaaDoorW.PrintLast Go.Proofs.YtmlochnckplalaaDoorW.PrintMore
attribute [local go_sem] max2_int min2_int max_two min_two max_three min_three max_four min_four   -- for this text's walks alone
set_option linter.unusedVariables false
set_option linter.unusedSimpArgs false

set_option maxHeartbeats 8000000 in
set_option maxRecDepth 100000 in
theorem ignored_walk (s : ByteArray) (hs : s.size ≤ 2000) (w : World) :
    Calls Tryd.prog 5 #[.string s] w fun e w' => ∃ (n : Nat) (sure : Bool), e = .returned (.tuple #[.int .i64 n, .bool sure]) ∧ (sure = true → Sc s false 0 = some n) ∧ Below w.heap.size w w' := by
  have HS0 := Aside0.mk hs
  clear hs
  go_enter Tryd.func5, Tryd.ntmps5
  go_wp2
  repeat (go_quiet (fail); try go_wp2)
  go_loopg [] 6000 (fun kq wr => ∃ (i : Nat) (b u : Bool), Aside0 (i ≤ s.size) ∧ Aside0 (2 * (s.size - i) + (if b = true then 0 else 1) < kq) ∧ Aside0 (IsS29 w wr w.heap.size s i [] b u) ∧ Aside0 (Below w.heap.size w wr) ∧ Aside0 (b = false → u = false → Sc s false 0 = Sc s false i))
  case atStart => exact ⟨0, false, false, ⟨by omega⟩, ⟨by have := HS0.out; simp; omega⟩, ⟨IsS29.new w w none 0 s 0 [] false false (Below.refl _ _) (by first | exact Kd.C_nil _ _ | trivial | exact ⟨rfl, rfl⟩ | (simp [Kd.C]; done))⟩, ⟨below_alloc (Below.refl _ _) _⟩, ⟨fun _ _ => rfl⟩⟩
  case round =>
    obtain ⟨i, b, u, HL, HM, HI0, HB, HE⟩ := hrel
    by_cases hlt : i < s.size
    · have e1 : decide ((i : Int) < (s.size : Int)) = true := decide_eq_true (by omega)
      cases b with
      | true =>
        obtain ⟨A2, cp2, HG, hg, HS⟩ := HI0.out
        have hc0 := cellS29_0 HG
        have hc1 := cellS29_1 HG
        have hc2 := cellS29_2 HG
        have hc3 := cellS29_3 HG
        have hc4 := cellS29_4 HG
        have hf0 := blk_frozen HG 0
        have hf1 := blk_frozen HG 1
        have hf3 := blk_frozen HG 3
        have hf4 := blk_frozen HG 4
        clear HG hg
        go_wp2
        repeat (go_quiet (fail); try go_wp2)
        go_ret2
        exact ⟨i, false, rfl, (fun h => by cases h), by repeat (first | (with_reducible first | exact HB.out | apply below_alloc | apply pw_below_drewN | apply below_drew1) | exact HB.out)⟩
      | false =>
        have HE' := Aside0.mk (HE.out rfl)
        clear HE
        have hx7 : ∀ h : i < s.size, ((s[i]'h).toNat : Int) = bt s (i : Int) := fun h => by unfold bt; rw [dif_pos (show (i : Int).toNat < s.size by omega)]; simp only [Int.toNat_natCast]
        have R := rd s HS0.out i false u hlt
        have A1 := Aside0.mk (starts_bom s HS0.out i (by omega))
        have p7 : (0 ≤ (i : Int)) = True := eq_true (by omega)
        have q7 : ((i : Int) < (s.size : Int)) = True := eq_true (by omega)
        have HLT := Aside0.mk hlt
        obtain ⟨A2, cp2, HG, hg, HS⟩ := HI0.out
        have hc0 := cellS29_0 HG
        have hc1 := cellS29_1 HG
        have hc2 := cellS29_2 HG
        have hc3 := cellS29_3 HG
        have hc4 := cellS29_4 HG
        have hf0 := blk_frozen HG 0
        have hf1 := blk_frozen HG 1
        have hf3 := blk_frozen HG 3
        have hf4 := blk_frozen HG 4
        clear HG hg
        cases R with
        | stop h hb hc =>
          rw [h] at A1
          obtain ⟨d1, d2, d3, d4, d5⟩ := bl_false hb
          have d6 : (bt s (i : Int) != 35) = true := by simpa using hc
          have HX := Aside0.mk (show Sc s false i = some i by rw [sc_f s i HLT.out, if_neg (by simp [hb]), if_neg hc, h]; rfl)
          clear h hb hc
          cases u with
          | true =>
            go_wp2_with (first | (go_at_call 8; (with_reducible refine (spec_starts.calls s (i : Int) bomB false _ A1.out).mono ?_); rintro e w' ⟨rfl, ⟨nd, rfl⟩⟩))
            repeat (go_quiet (first | (go_at_call 8; (with_reducible refine (spec_starts.calls s (i : Int) bomB false _ A1.out).mono ?_); rintro e w' ⟨rfl, ⟨nd, rfl⟩⟩; (try first | exact ⟨rfl, _, World.drewN_drewN _ _ _⟩ | exact ⟨rfl, _, Eq.trans (World.drewN_drewN _ _ _) (congrArg (World.drewN _) (Nat.add_assoc _ _ _))⟩))); try go_wp2)
            go_ret2
            exact ⟨i, false, rfl, (fun h => by cases h), by repeat (first | (with_reducible first | exact HB.out | apply below_alloc | apply pw_below_drewN | apply below_drew1) | exact HB.out)⟩
          | false =>
            go_wp2_with (first | (go_at_call 8; (with_reducible refine (spec_starts.calls s (i : Int) bomB false _ A1.out).mono ?_); rintro e w' ⟨rfl, ⟨nd, rfl⟩⟩))
            repeat (go_quiet (first | (go_at_call 8; (with_reducible refine (spec_starts.calls s (i : Int) bomB false _ A1.out).mono ?_); rintro e w' ⟨rfl, ⟨nd, rfl⟩⟩; (try first | exact ⟨rfl, _, World.drewN_drewN _ _ _⟩ | exact ⟨rfl, _, Eq.trans (World.drewN_drewN _ _ _) (congrArg (World.drewN _) (Nat.add_assoc _ _ _))⟩))); try go_wp2)
            go_ret2
            exact ⟨i, true, rfl, (fun _ => (HE'.out (by first | rfl | trivial)).trans HX.out), by repeat (first | (with_reducible first | exact HB.out | apply below_alloc | apply pw_below_drewN | apply below_drew1) | exact HB.out)⟩
        | go j b' u' h hj hij hp hs hk =>
          have A2' := Aside0.mk h
          have HJ := Aside0.mk hj
          have HP := Aside0.mk (And.intro hij hp)
          have HN := Aside0.mk hs
          clear h hj hij hp hs
          rcases hk with hk | ⟨hk, hc⟩ | ⟨hk, hc, hm⟩
          · have hk := bl_true hk
            rcases hk with d1 | ⟨d1, d2 | ⟨d2, d3 | ⟨d3, d4 | ⟨d4, d5⟩⟩⟩⟩
            all_goals
              go_wp2_with (first | (go_at_call 9; (with_reducible refine (spec_lexer_token.calls 5000 w.heap.size s (i : Int) [] false u s (j : Int) b' u' w _ (by repeat (first | (with_reducible first | exact HI0.out | apply IsS29.alloc | apply IsS29.drewN | apply IsS29.drew) | exact HI0.out)) (by repeat (first | (with_reducible first | exact HB.out | apply below_alloc | apply pw_below_drewN | apply below_drew1) | exact HB.out)) A2'.out).mono ?_); rintro e w' ⟨rfl, hI, hB, hK⟩; have hI := Aside0.mk hI; have hB := Aside0.mk hB; clear hK))
              repeat (go_quiet (first | fail); try go_wp2_with (first | (go_at_call 9; (with_reducible refine (spec_lexer_token.calls 5000 w.heap.size s (i : Int) [] false u s (j : Int) b' u' w _ (by repeat (first | (with_reducible first | exact HI0.out | apply IsS29.alloc | apply IsS29.drewN | apply IsS29.drew) | exact HI0.out)) (by repeat (first | (with_reducible first | exact HB.out | apply below_alloc | apply pw_below_drewN | apply below_drew1) | exact HB.out)) A2'.out).mono ?_); rintro e w' ⟨rfl, hI, hB, hK⟩; have hI := Aside0.mk hI; have hB := Aside0.mk hB; clear hK)))
              go_roundg (2 * (s.size - j) + (if b' = true then 0 else 1) + 1)
              case measure => have := HM.out; have := HP.out; have := HJ.out; have := HL.out; cases b' <;> simp at * <;> omega
              case rel => exact ⟨j, b', u', ⟨HJ.out⟩, ⟨by omega⟩, hI, hB, ⟨fun h1 h2 => (HE'.out (HN.out h1 h2).2.1).trans (HN.out h1 h2).2.2⟩⟩
          · obtain ⟨d1, d2, d3, d4, d5⟩ := bl_false hk
            have d6 : (bt s (i : Int) != 35) = false := by rw [hc]; rfl
            clear hk hc
            go_wp2_with (first | (go_at_call 9; (with_reducible refine (spec_lexer_token.calls 5000 w.heap.size s (i : Int) [] false u s (j : Int) b' u' w _ (by repeat (first | (with_reducible first | exact HI0.out | apply IsS29.alloc | apply IsS29.drewN | apply IsS29.drew) | exact HI0.out)) (by repeat (first | (with_reducible first | exact HB.out | apply below_alloc | apply pw_below_drewN | apply below_drew1) | exact HB.out)) A2'.out).mono ?_); rintro e w' ⟨rfl, hI, hB, hK⟩; have hI := Aside0.mk hI; have hB := Aside0.mk hB; clear hK))
            repeat (go_quiet (first | fail); try go_wp2_with (first | (go_at_call 9; (with_reducible refine (spec_lexer_token.calls 5000 w.heap.size s (i : Int) [] false u s (j : Int) b' u' w _ (by repeat (first | (with_reducible first | exact HI0.out | apply IsS29.alloc | apply IsS29.drewN | apply IsS29.drew) | exact HI0.out)) (by repeat (first | (with_reducible first | exact HB.out | apply below_alloc | apply pw_below_drewN | apply below_drew1) | exact HB.out)) A2'.out).mono ?_); rintro e w' ⟨rfl, hI, hB, hK⟩; have hI := Aside0.mk hI; have hB := Aside0.mk hB; clear hK)))
            go_roundg (2 * (s.size - j) + (if b' = true then 0 else 1) + 1)
            case measure => have := HM.out; have := HP.out; have := HJ.out; have := HL.out; cases b' <;> simp at * <;> omega
            case rel => exact ⟨j, b', u', ⟨HJ.out⟩, ⟨by omega⟩, hI, hB, ⟨fun h1 h2 => (HE'.out (HN.out h1 h2).2.1).trans (HN.out h1 h2).2.2⟩⟩
          · obtain ⟨d1, d2, d3, d4, d5⟩ := bl_false hk
            have d6 : (bt s (i : Int) != 35) = true := by simpa using hc
            rw [hm] at A1
            clear hk hc hm
            go_wp2_with (first | (go_at_call 8; (with_reducible refine (spec_starts.calls s (i : Int) bomB true _ A1.out).mono ?_); rintro e w' ⟨rfl, ⟨nd, rfl⟩⟩) | (go_at_call 9; (with_reducible refine (spec_lexer_token.calls 5000 w.heap.size s (i : Int) [] false u s (j : Int) b' u' w _ (by repeat (first | (with_reducible first | exact HI0.out | apply IsS29.alloc | apply IsS29.drewN | apply IsS29.drew) | exact HI0.out)) (by repeat (first | (with_reducible first | exact HB.out | apply below_alloc | apply pw_below_drewN | apply below_drew1) | exact HB.out)) A2'.out).mono ?_); rintro e w' ⟨rfl, hI, hB, hK⟩; have hI := Aside0.mk hI; have hB := Aside0.mk hB; clear hK))
            repeat (go_quiet (first | (go_at_call 8; (with_reducible refine (spec_starts.calls s (i : Int) bomB true _ A1.out).mono ?_); rintro e w' ⟨rfl, ⟨nd, rfl⟩⟩; (try first | exact ⟨rfl, _, World.drewN_drewN _ _ _⟩ | exact ⟨rfl, _, Eq.trans (World.drewN_drewN _ _ _) (congrArg (World.drewN _) (Nat.add_assoc _ _ _))⟩))); try go_wp2_with (first | (go_at_call 8; (with_reducible refine (spec_starts.calls s (i : Int) bomB true _ A1.out).mono ?_); rintro e w' ⟨rfl, ⟨nd, rfl⟩⟩) | (go_at_call 9; (with_reducible refine (spec_lexer_token.calls 5000 w.heap.size s (i : Int) [] false u s (j : Int) b' u' w _ (by repeat (first | (with_reducible first | exact HI0.out | apply IsS29.alloc | apply IsS29.drewN | apply IsS29.drew) | exact HI0.out)) (by repeat (first | (with_reducible first | exact HB.out | apply below_alloc | apply pw_below_drewN | apply below_drew1) | exact HB.out)) A2'.out).mono ?_); rintro e w' ⟨rfl, hI, hB, hK⟩; have hI := Aside0.mk hI; have hB := Aside0.mk hB; clear hK)))
            go_roundg (2 * (s.size - j) + (if b' = true then 0 else 1) + 1)
            case measure => have := HM.out; have := HP.out; have := HJ.out; have := HL.out; cases b' <;> simp at * <;> omega
            case rel => exact ⟨j, b', u', ⟨HJ.out⟩, ⟨by omega⟩, hI, hB, ⟨fun h1 h2 => (HE'.out (HN.out h1 h2).2.1).trans (HN.out h1 h2).2.2⟩⟩
    · have e1 : decide ((i : Int) < (s.size : Int)) = false := decide_eq_false (by omega)
      have HX := Aside0.mk (show i = s.size from by have := HL.out; omega)
      obtain ⟨A2, cp2, HG, hg, HS⟩ := HI0.out
      have hc0 := cellS29_0 HG
      have hc1 := cellS29_1 HG
      have hc2 := cellS29_2 HG
      have hc3 := cellS29_3 HG
      have hc4 := cellS29_4 HG
      have hf0 := blk_frozen HG 0
      have hf1 := blk_frozen HG 1
      have hf3 := blk_frozen HG 3
      have hf4 := blk_frozen HG 4
      clear HG hg
      cases b with
      | true =>
        go_wp2
        repeat (go_quiet (fail); try go_wp2)
        go_ret2
        exact ⟨i, false, rfl, (fun h => by cases h), by repeat (first | (with_reducible first | exact HB.out | apply below_alloc | apply pw_below_drewN | apply below_drew1) | exact HB.out)⟩
      | false =>
        have HE' := Aside0.mk (HE.out rfl)
        clear HE
        cases u with
        | true =>
          go_wp2
          repeat (go_quiet (fail); try go_wp2)
          go_ret2
          exact ⟨i, false, rfl, (fun h => by cases h), by repeat (first | (with_reducible first | exact HB.out | apply below_alloc | apply pw_below_drewN | apply below_drew1) | exact HB.out)⟩
        | false =>
          go_wp2
          repeat (go_quiet (fail); try go_wp2)
          go_ret2
          exact ⟨i, true, rfl, (fun _ => (HE'.out (by first | rfl | trivial)).trans (by rw [HX.out]; exact sc_end s false)), by repeat (first | (with_reducible first | exact HB.out | apply below_alloc | apply pw_below_drewN | apply below_drew1) | exact HB.out)⟩
end Go.Proofs.YtmlochnckplalaaDoor.PFnIgnored
