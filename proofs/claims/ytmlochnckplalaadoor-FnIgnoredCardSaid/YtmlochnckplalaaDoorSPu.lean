/- FnIgnored: what a round of the reference's Ignored does, as plain facts. Condition: a text of at most 2000 bytes. -/
import Derived.Test.YtmlochnckplalaaDoorTok
namespace Go.Proofs.YtmlochnckplalaaDoor.PFnIgnored
open Go.RowKit Go.Proofs.YtmlochnckplalaaDoorW.PrintWords Go.Proofs.YtmlochnckplalaaDoorW.PrintLast Go.Proofs.YtmlochnckplalaaDoorW.PrintMore
attribute [local go_sem] max2_int min2_int max_two min_two max_three min_three max_four min_four   -- for this text's walks alone
set_option linter.unusedVariables false
set_option linter.unusedSimpArgs false

theorem token_blank (s : ByteArray) (hs : s.size ≤ 2000) (i : Nat) (b u : Bool) (hi : i < s.size) (hb : isBl (bt s i) = true) : spec_lexer_token.f 5000 s i [] b u = some (s, ((i + 1 : Nat) : Int), b, u) := by
  unfold spec_lexer_token.f
  rw [if_pos (by omega), if_pos (by omega), if_pos hb, w64 (by omega) (by omega)]
  rfl
theorem token_bom (s : ByteArray) (hs : s.size ≤ 2000) (i : Nat) (b u : Bool) (hi : i < s.size) (hb : ¬ isBl (bt s i) = true) (hm : bomAt s i = true) : spec_lexer_token.f 5000 s i [] b u = some (s, ((i + 3 : Nat) : Int), b, true) := by
  unfold spec_lexer_token.f
  rw [if_pos (by omega), if_pos (by omega), if_neg hb, starts_bom s hs i (by omega), hm, w64 (by omega) (by omega)]
  rfl
theorem token_hash (s : ByteArray) (hs : s.size ≤ 2000) (i : Nat) (b u : Bool) (hi : i < s.size) (hc : bt s i = 35) (hm : bomAt s i = false) : spec_lexer_token.f 5000 s i [] b u = spec_lexer_comment.f 5000 s i [] b u := by
  unfold spec_lexer_token.f
  rw [if_pos (by omega), if_pos (by omega), if_neg (by rw [hc]; decide), starts_bom s hs i (by omega), hm, hc]
  rfl
theorem bom_size (s : ByteArray) (i : Nat) (h : bomAt s i = true) : i + 3 ≤ s.size := by
  unfold bomAt at h
  exact of_decide_eq_true (Bool.and_eq_true_iff.1 h).1
theorem bom_first (s : ByteArray) (i : Nat) (h : bomAt s i = true) : bt s i = 239 := by
  have h1 := bom_size s i h
  unfold bomAt at h
  have h2 := (Bool.and_eq_true_iff.1 h).2
  rw [beq_iff_eq] at h2
  have h3 : (s.extract i (i + 3)).data.toList = [239, 187, 191] := by
    rw [← ByteArray.toList_eq, h2, ByteArray.toList_eq]
  have h4 : (s.extract i (i + 3)).data[0]? = some 239 := by rw [← Array.getElem?_toList, h3]; rfl
  unfold bt
  have hi : (i : Int).toNat < s.size := by omega
  rw [dif_pos hi]
  have h5 : (s.extract i (i + 3)).data[0]? = s.data[i]? := by
    rw [ByteArray.data_extract, Array.getElem?_extract]
    have : s.data.size = s.size := rfl
    rw [if_pos (by omega)]
    simp
  rw [h5] at h4
  have h6 : s.data[i]? = some (s[(i : Int).toNat]'hi) := by
    rw [Array.getElem?_eq_getElem (by simpa using hi)]; rfl
  rw [h6] at h4
  have := Option.some.inj h4
  rw [this]; rfl
/-- What one round of the reference's loop does. -/
inductive Rd (s : ByteArray) (i : Nat) (b u : Bool) : Prop
  | stop (h : bomAt s i = false) (hb : isBl (bt s i) = false) (hc : bt s i ≠ 35)
  | go (j : Nat) (b' u' : Bool) (h : spec_lexer_token.f 5000 s i [] b u = some (s, (j : Int), b', u')) (hj : j ≤ s.size) (hij : i ≤ j) (hp : i < j ∨ b' = true) (hs : b' = false → u' = false → b = false ∧ u = false ∧ Sc s false i = Sc s false j)
     (hk : isBl (bt s i) = true ∨ (isBl (bt s i) = false ∧ bt s i = 35) ∨ (isBl (bt s i) = false ∧ bt s i ≠ 35 ∧ bomAt s i = true))
theorem rd (s : ByteArray) (hs : s.size ≤ 2000) (i : Nat) (b u : Bool) (hi : i < s.size) : Rd s i b u := by
  by_cases hb : isBl (bt s i) = true
  · exact .go (i + 1) b u (token_blank s hs i b u hi hb) (by omega) (by omega) (.inl (by omega)) (fun h1 h2 => ⟨h1, h2, by rw [sc_f s i hi, if_pos hb]⟩) (.inl hb)
  have hb' : isBl (bt s i) = false := by simpa using hb
  by_cases hc : bt s i = 35
  · have hm : bomAt s i = false := by
      cases hm : bomAt s i
      · rfl
      · have := bom_first s i hm; omega
    obtain ⟨j, b', u', e, j1, j2, j3, j4⟩ := comment_f s hs [] i b u hi hc
    exact .go j b' u' ((token_hash s hs i b u hi hc hm).trans e) j2 j1 j3 j4 (.inr (.inl ⟨hb', hc⟩))
  by_cases hm : bomAt s i = true
  · have := bom_size s i hm
    exact .go (i + 3) b true (token_bom s hs i b u hi hb hm) this (by omega) (.inl (by omega)) (fun _ h => by cases h) (.inr (.inr ⟨hb', hc, hm⟩))
  · exact .stop (by simpa using hm) hb' hc
theorem bl_true {c : Int} (h : isBl c = true) : (c != 32) = false ∨ (c != 32) = true ∧ ((c != 9) = false ∨ (c != 9) = true ∧ ((c != 10) = false ∨ (c != 10) = true ∧ ((c != 13) = false ∨ (c != 13) = true ∧ (c != 44) = false))) := by
  unfold isBl at h; revert h
  simp only [bne]
  cases (c == 32) <;> cases (c == 9) <;> cases (c == 10) <;> cases (c == 13) <;> cases (c == 44) <;> simp
theorem bl_false {c : Int} (h : isBl c = false) : (c != 32) = true ∧ (c != 9) = true ∧ (c != 10) = true ∧ (c != 13) = true ∧ (c != 44) = true := by
  unfold isBl at h; revert h
  simp only [bne]
  cases (c == 32) <;> cases (c == 9) <;> cases (c == 10) <;> cases (c == 13) <;> cases (c == 44) <;> simp
end Go.Proofs.YtmlochnckplalaaDoor.PFnIgnored
