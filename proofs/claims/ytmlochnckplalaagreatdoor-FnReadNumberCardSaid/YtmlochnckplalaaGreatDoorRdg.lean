/- FnReadNumber: the package's readDigits, walked. Condition: a source in the world, a place within and no line end ahead of it. -/
import Derived.Test.YtmlochnckplalaaGreatDoorErr
import Derived.Laws.RangeAny
namespace Go.Proofs.YtmlochnckplalaaGreatDoor.PFnReadNumber
open Go.RowKit Go.Proofs.YtmlochnckplalaaGreatDoorW.PrintWords Go.Proofs.YtmlochnckplalaaGreatDoorW.PrintLast Go.Proofs.YtmlochnckplalaaGreatDoorW.PrintMore
set_option linter.unusedVariables false
set_option linter.unusedSimpArgs false
theorem rn_cases (s : ByteArray) (i : Nat) (hi : i ≤ s.size) : (nx s i < 128 ∧ i < s.size ∧ rn s i = (nx s i, 1)) ∨ (∃ c k : Int, rn s i = (c, k) ∧ 128 ≤ nx s i ∧ 128 ≤ c) ∨ (rn s i = (-1, 65533) ∧ nx s i = 0 ∧ i = s.size) := by
  unfold rn nx
  by_cases h : s.size ≤ i
  · rw [if_pos h, if_neg (by omega)]; exact .inr (.inr ⟨rfl, rfl, by omega⟩)
  rw [if_neg h, if_pos (by omega)]
  by_cases h2 : bt s i < 128
  · rw [if_pos h2]; exact .inl ⟨h2, by omega, rfl⟩
  rw [if_neg h2]
  refine .inr (.inl ⟨_, _, rfl, by omega, ?_⟩)
  have hsz : (s.extract i s.size).size = s.size - i := by rw [ByteArray.size_extract]; omega
  have hbt : bt s i = ((s[i]'(by omega)).toNat : Int) := by
    unfold bt; rw [dif_pos (show (i : Int).toNat < s.size by omega)]; simp only [Int.toNat_natCast]
  unfold Go.Lib.decodeGo
  rw [if_neg (by omega)]
  have h0 : ((s.extract i s.size)[0]'(by omega)) = s[i]'(by omega) := by simp [ByteArray.getElem_extract]
  have := (Go.decode_high (s.extract i s.size) 0 (by omega) (by rw [h0]; omega)).1
  simp only [Int.ofNat_eq_natCast]
  omega
theorem isD_iff (c : Int) : isD c = true ↔ 48 ≤ c ∧ c ≤ 57 := by unfold isD; simp
theorem isD_not (c : Int) : isD c = false ↔ c < 48 ∨ 57 < c := by
  unfold isD
  by_cases h1 : 48 ≤ c <;> by_cases h2 : c ≤ 57 <;> simp [h1, h2] <;> omega
/-- A code is a digit's, where the byte is one. -/
theorem rn_dig (s : ByteArray) (i : Nat) (hi : i ≤ s.size) (h : isD (nx s i) = true) : rn s i = (nx s i, 1) ∧ i < s.size ∧ 48 ≤ nx s i ∧ nx s i ≤ 57 := by
  have hd := (isD_iff _).1 h
  rcases rn_cases s i hi with ⟨a, b, c⟩ | ⟨c, k, a, b, d⟩ | ⟨a, b, c⟩
  · exact ⟨c, b, hd⟩
  · omega
  · omega
theorem rn_nod (s : ByteArray) (i : Nat) (hi : i ≤ s.size) (h : isD (nx s i) = false) : ∃ c k : Int, rn s i = (c, k) ∧ (c < 48 ∨ 57 < c) := by
  have hd := (isD_not _).1 h
  rcases rn_cases s i hi with ⟨a, b, c⟩ | ⟨c, k, a, b, d⟩ | ⟨a, b, c⟩
  · exact ⟨_, _, c, hd⟩
  · exact ⟨c, k, a, .inr (by omega)⟩
  · exact ⟨_, _, a, .inl (by omega)⟩
/-- What is left of a text behind a place. -/
def msr (s : ByteArray) : Value → Nat
  | .int _ a => s.size - a.toNat
  | _ => 0
theorem msr_int (s : ByteArray) (k : IntKind) (a : Int) : msr s (.int k a) = s.size - a.toNat := rfl
set_option maxHeartbeats 8000000 in
set_option maxRecDepth 100000 in
theorem readDigits_walk {w : World} {g b cap : Nat} {s : ByteArray} (h : Src w g b cap s) (i : Nat) (hi : i ≤ s.size) (hn : NoNl s i) :
    Calls Tryz.prog 20 #[.pointer (some ⟨g, 0, none⟩), .int .i64 i, .int .i32 (rn s i).1, .int .i64 (rn s i).2] w fun e w' => ((isD (nx s i) = true ∧ e = .returned (.tuple #[.int .i64 (dg s i : Nat), .nilIface])) ∨ (isD (nx s i) = false ∧ ∃ gq : Nat, e = .returned (.tuple #[.int .i64 i, .iface 57 (.pointer (some ⟨gq, 0, none⟩))]))) ∧ Below w.heap.size w w' := by
  have HS := Aside0.mk h
  have HN := Aside0.mk hn
  have HI := Aside0.mk hi
  have hc0 := h.body
  have HSM := Aside0.mk h.small
  clear h hn
  cases hd : isD (nx s i) with
  | false =>
    obtain ⟨c, k, hr, hc⟩ := rn_nod s i hi hd
    rw [hr]
    clear hr hi hd
    have e0 : decide (48 ≤ c) = false ∨ (decide (48 ≤ c) = true ∧ decide (c ≤ 57) = false) := by
      rcases hc with hc | hc
      · exact .inl (decide_eq_false (by omega))
      · exact .inr ⟨decide_eq_true (by omega), decide_eq_false (by omega)⟩
    clear hc
    rcases e0 with e0 | ⟨e0, e1⟩
    all_goals
      go_enter Tryz.func20, Tryz.ntmps20
      go_wp2_with (first | (go_at_call 19; refine (synErr_walk HS.out i HI.out HN.out _).mono ?_; rintro e w' ⟨⟨gq, rfl⟩, hB⟩; have HB := Aside0.mk hB; clear hB))
      go_ret2
      exact ⟨.inr ⟨by first | rfl | trivial, gq, rfl⟩, HB.out⟩
  | true =>
    obtain ⟨hr, hlt, d1, d2⟩ := rn_dig s i hi hd
    rw [hr]
    have HR := Aside0.mk hr
    clear hr hi
    have e0 : decide (48 ≤ nx s i) = true := decide_eq_true d1
    have e1 : decide (nx s i ≤ 57) = true := decide_eq_true d2
    clear d1 d2 hd hlt
    go_enter Tryz.func20, Tryz.ntmps20
    go_wp2
    go_loopw [3, 11, 12] (fun v3 v11 v12 wr => ∃ j : Nat, v3 = .int .i64 (rn s j).2 ∧ v11 = .int .i64 j ∧ v12 = .int .i32 (rn s j).1 ∧ Aside0 (j ≤ s.size ∧ dg s j = dg s i) ∧ Aside0 (Below w.heap.size w wr)) (fun _ v11 _ _ => msr s v11)
    case atStart => exact ⟨i, by rw [HR.out], rfl, by rw [HR.out], ⟨HI.out, rfl⟩, ⟨Below.refl _ _⟩⟩
    case round =>
      obtain ⟨j, rfl, rfl, rfl, HJ, HB⟩ := hrel
      clear e0 e1
      cases hd : isD (nx s j) with
      | false =>
        obtain ⟨c, k, hr, hc⟩ := rn_nod s j HJ.out.1 hd
        rw [hr]
        have HD := Aside0.mk hd
        clear hr hd
        have e0 : decide (48 ≤ c) = false ∨ (decide (48 ≤ c) = true ∧ decide (c ≤ 57) = false) := by
          rcases hc with hc | hc
          · exact .inl (decide_eq_false (by omega))
          · exact .inr ⟨decide_eq_true (by omega), decide_eq_false (by omega)⟩
        clear hc
        rcases e0 with e0 | ⟨e0, e1⟩
        all_goals
          go_wp2
          go_ret2
          exact ⟨.inl ⟨by first | rfl | trivial, by rw [← HJ.out.2, dg_no s j HD.out]; rfl⟩, HB.out⟩
      | true =>
        obtain ⟨hr, hlt, d1, d2⟩ := rn_dig s j HJ.out.1 hd
        rw [hr]
        have HD := Aside0.mk hd
        have HLT := Aside0.mk hlt
        have e0 : decide (48 ≤ nx s j) = true := decide_eq_true d1
        have e1 : decide (nx s j ≤ 57) = true := decide_eq_true d2
        clear d1 d2 hd hr hlt
        have c15 := runeAt_src (HS.out.below HB.out) (j + 1) HLT.out
        rw [show ((j + 1 : Nat) : Int) = wrap64 ((j : Int) + 1) from by rw [w64 (by omega) (by have := HSM.out; have := HLT.out; omega)]; omega] at c15
        go_wp2_with (first | (go_at_call 15; refine c15.mono ?_; rintro e w' ⟨rfl, hB⟩; have HB2 := Aside0.mk (below_step HB.out hB); clear hB))
        go_roundw
        case rel => exact ⟨j + 1, rfl, by have := HSM.out; have := HLT.out; first | rfl | (simp [wrap64]; omega), rfl, ⟨HLT.out, by rw [← HJ.out.2, dg_yes s j HD.out]⟩, HB2⟩
        case measure => have := HSM.out; have := HLT.out; simp only [msr_int, wrap64]; omega
end Go.Proofs.YtmlochnckplalaaGreatDoor.PFnReadNumber
