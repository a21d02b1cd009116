/- FnIgnored: the reference's token, of what is ignored alone, walked in the program. Condition: as the contract says (the function of the token is told). -/
import Derived.Test.YtmlochnckplalaaDoorIgn
namespace Go.Proofs.YtmlochnckplalaaDoor.PFnIgnored
open Go.RowKit Go.Proofs.YtmlochnckplalaaDoorW.PrintWords Go.Proofs.YtmlochnckplalaaDoorW.PrintLast Go.Proofs.YtmlochnckplalaaDoorW.PrintMore
attribute [local go_sem] max2_int min2_int max_two min_two max_three min_three max_four min_four   -- for this text's walks alone
set_option linter.unusedVariables false
set_option linter.unusedSimpArgs false
/-! ### spec_lexer_token: told by hand, of what is ignored alone -/
def spec_lexer_token.f (k : Nat) (s0_0 : ByteArray) (s0_1 : Int) (s0_2 : List (S43)) (s0_3 : Bool) (s0_4 : Bool) : Option (ByteArray × Int × Bool × Bool) :=
  if 0 ≤ s0_1 then (if s0_1 < (s0_0.size : Int) then (if isBl (bt s0_0 s0_1) = true then some (s0_0, wrap64 (s0_1 + 1), s0_3, s0_4) else
    ((spec_starts.f s0_0 s0_1 bomB).bind fun b => if b = true then some (s0_0, wrap64 (s0_1 + 3), s0_3, true) else (if bt s0_0 s0_1 = 35 then spec_lexer_comment.f k s0_0 s0_1 s0_2 s0_3 s0_4 else none))) else none) else none
theorem spec_lexer_token.mono : ∀ a0 a1 a2 a3 a4 k, LeO (spec_lexer_token.f k a0 a1 a2 a3 a4) (spec_lexer_token.f (k + 1) a0 a1 a2 a3 a4) := by
  intro a0 a1 a2 a3 a4 k
  unfold spec_lexer_token.f
  repeat' first
      | (with_reducible exact spec_lexer_comment.mono _ _ _ _ _ _)
      | (with_reducible exact LeO.refl _)
      | (with_reducible exact LeO.none _)
      | (with_reducible refine LeO.ite ?_ ?_)
      | (with_reducible refine LeO.bind ?_ (fun _ => ?_))
set_option maxHeartbeats 8000000 in
set_option maxRecDepth 100000 in
theorem spec_lexer_token.calls (k : Nat) (g : Nat) (s0_0 : ByteArray) (s0_1 : Int) (s0_2 : List (S43)) (s0_3 : Bool) (s0_4 : Bool) (r1 : ByteArray) (r2 : Int) (r3 : Bool) (r4 : Bool) (w0 w : World) (hI : IsS29 w0 w g s0_0 s0_1 s0_2 s0_3 s0_4) (hB : Below w0.heap.size w0 w) (h : spec_lexer_token.f k s0_0 s0_1 s0_2 s0_3 s0_4 = some (r1, r2, r3, r4)) :
    Calls Tryd.prog 9 #[.pointer (some ⟨g, 0, none⟩)] w fun e w' => e = .returned (.tuple #[]) ∧ IsS29 w0 w' g r1 r2 s0_2 r3 r4 ∧ Below w0.heap.size w0 w' ∧ KeepBut w w' g none := by
  have HI0 := Aside0.mk hI
  have HK := Aside0.mk (KeepBut.refl w g none)
  have HB := Aside0.mk hB
  clear hI hB
  unfold spec_lexer_token.f at h
  by_cases c1 : 0 ≤ s0_1
  case neg => rw [if_neg c1] at h; cases h
  rw [if_pos c1] at h
  by_cases c2 : s0_1 < (s0_0.size : Int)
  case neg => rw [if_neg c2] at h; cases h
  rw [if_pos c2] at h
  obtain ⟨A2, cp2, HG, hg, HS⟩ := HI0.out
  have hc0 := cellS29_0 HG
  have hc1 := cellS29_1 HG
  have hc2 := cellS29_2 HG
  have hc3 := cellS29_3 HG
  have hc4 := cellS29_4 HG
  have hf0 := blk_frozen HG 0
  have hf1 := blk_frozen HG 1
  have hf3 := blk_frozen HG 3
  have hf4 := blk_frozen HG 4
  clear HG hg
  have hx7 := bt_at s0_0 s0_1
  have p7 := eq_true c1
  have q7 := eq_true c2
  clear c1 c2
  by_cases c3 : isBl (bt s0_0 s0_1) = true
  · rw [if_pos c3] at h
    simp only [Option.some.injEq, Prod.mk.injEq] at h
    obtain ⟨rfl, rfl, rfl, rfl⟩ := h
    have d1 : (bt s0_0 s0_1 == 32) = true ∨ (bt s0_0 s0_1 == 32) = false ∧ ((bt s0_0 s0_1 == 9) = true ∨ (bt s0_0 s0_1 == 9) = false ∧ ((bt s0_0 s0_1 == 10) = true ∨ (bt s0_0 s0_1 == 10) = false ∧ ((bt s0_0 s0_1 == 13) = true ∨ (bt s0_0 s0_1 == 13) = false ∧ (bt s0_0 s0_1 == 44) = true))) := by
      unfold isBl at c3; revert c3
      cases (bt s0_0 s0_1 == 32) <;> cases (bt s0_0 s0_1 == 9) <;> cases (bt s0_0 s0_1 == 10) <;> cases (bt s0_0 s0_1 == 13) <;> cases (bt s0_0 s0_1 == 44) <;> simp
    clear c3
    rcases d1 with e1 | ⟨e1, e2 | ⟨e2, e3 | ⟨e3, e4 | ⟨e4, e5⟩⟩⟩⟩
    all_goals first
    | (go_enter Tryd.func9, Tryd.ntmps9
       go_wp2
       repeat (go_quiet (fail); try go_wp2)
       first | go_end0 | ((try simp only [Exit.inBlock, Exit.then]); refine bodyPost_ret (results_none rfl _ _ _) rfl ?_)
       exact ⟨by first | rfl | (simp [errW_none, errW_some] <;> rfl) | (simp [*, errW_none, errW_some] <;> rfl), by repeat (first | (with_reducible first | exact HI0.out | apply IsS29.alloc | apply IsS29.drewN | apply IsS29.drew | apply IsS29.set_0 | apply IsS29.set_1 | apply IsS29.set_3 | apply IsS29.set_4) | exact HI0.out), by repeat (first | (with_reducible first | exact HB.out | apply below_alloc | apply pw_below_drewN | apply below_drew1 | refine below_set ?_ (IsS29.ge HI0.out)) | exact HB.out), by repeat (first | (with_reducible first | exact HK.out | apply KeepBut.set_ | apply keep_drewN | apply keep_drew | apply keep_alloc) | exact HK.out)⟩)
  · rw [if_neg c3] at h
    have d1 : (bt s0_0 s0_1 == 32) = false ∧ (bt s0_0 s0_1 == 9) = false ∧ (bt s0_0 s0_1 == 10) = false ∧ (bt s0_0 s0_1 == 13) = false ∧ (bt s0_0 s0_1 == 44) = false := by
      unfold isBl at c3; revert c3
      cases (bt s0_0 s0_1 == 32) <;> cases (bt s0_0 s0_1 == 9) <;> cases (bt s0_0 s0_1 == 10) <;> cases (bt s0_0 s0_1 == 13) <;> cases (bt s0_0 s0_1 == 44) <;> simp
    obtain ⟨e1, e2, e3, e4, e5⟩ := d1
    clear c3
    cases hst : spec_starts.f s0_0 s0_1 bomB with
    | none => rw [hst] at h; cases h
    | some b =>
      rw [hst] at h
      simp only [Option.bind_some] at h
      have A1 := Aside0.mk hst
      clear hst
      cases b with
      | true =>
        rw [if_pos rfl] at h
        simp only [Option.some.injEq, Prod.mk.injEq] at h
        obtain ⟨rfl, rfl, rfl, rfl⟩ := h
        go_enter Tryd.func9, Tryd.ntmps9
        go_wp2
        repeat (go_quiet (first | (go_at_call 8; (with_reducible refine (spec_starts.calls s0_0 s0_1 bomB true _ A1.out).mono ?_); rintro e w' ⟨rfl, ⟨nd, rfl⟩⟩; (try first | exact ⟨rfl, _, World.drewN_drewN _ _ _⟩ | exact ⟨rfl, _, Eq.trans (World.drewN_drewN _ _ _) (congrArg (World.drewN _) (Nat.add_assoc _ _ _))⟩))); try go_wp2)
        first | go_end0 | ((try simp only [Exit.inBlock, Exit.then]); refine bodyPost_ret (results_none rfl _ _ _) rfl ?_)
        exact ⟨by first | rfl | (simp [errW_none, errW_some] <;> rfl) | (simp [*, errW_none, errW_some] <;> rfl), by repeat (first | (with_reducible first | exact HI0.out | apply IsS29.alloc | apply IsS29.drewN | apply IsS29.drew | apply IsS29.set_0 | apply IsS29.set_1 | apply IsS29.set_3 | apply IsS29.set_4) | exact HI0.out), by repeat (first | (with_reducible first | exact HB.out | apply below_alloc | apply pw_below_drewN | apply below_drew1 | refine below_set ?_ (IsS29.ge HI0.out)) | exact HB.out), by repeat (first | (with_reducible first | exact HK.out | apply KeepBut.set_ | apply keep_drewN | apply keep_drew | apply keep_alloc) | exact HK.out)⟩
      | false =>
        rw [if_neg (by decide)] at h
        by_cases c9 : bt s0_0 s0_1 = 35
        case neg => rw [if_neg c9] at h; cases h
        rw [if_pos c9] at h
        have A2 := Aside0.mk h
        clear h
        have e9 : (bt s0_0 s0_1 == 35) = true := beq_iff_eq.2 c9
        clear c9
        go_enter Tryd.func9, Tryd.ntmps9
        go_wp2
        repeat (go_quiet (first | (go_at_call 8; (with_reducible refine (spec_starts.calls s0_0 s0_1 bomB false _ A1.out).mono ?_); rintro e w' ⟨rfl, ⟨nd, rfl⟩⟩; (try first | exact ⟨rfl, _, World.drewN_drewN _ _ _⟩ | exact ⟨rfl, _, Eq.trans (World.drewN_drewN _ _ _) (congrArg (World.drewN _) (Nat.add_assoc _ _ _))⟩))); try go_wp2_with (go_at_call 12; (with_reducible refine (spec_lexer_comment.calls k g s0_0 s0_1 s0_2 s0_3 s0_4 r1 r2 r3 r4 w0 _ (by repeat (first | (with_reducible first | exact HI0.out | apply IsS29.drewN | apply IsS29.drew) | exact HI0.out)) (by repeat (first | (with_reducible first | exact HB.out | apply pw_below_drewN | apply below_drew1) | exact HB.out)) A2.out).mono ?_); rintro e w' ⟨rfl, hI, hB, hK⟩))
        first | go_end0 | ((try simp only [Exit.inBlock, Exit.then]); refine bodyPost_ret (results_none rfl _ _ _) rfl ?_)
        exact ⟨rfl, hI, hB, hK⟩

end Go.Proofs.YtmlochnckplalaaDoor.PFnIgnored
