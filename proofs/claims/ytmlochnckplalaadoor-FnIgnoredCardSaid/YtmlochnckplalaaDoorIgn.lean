/- What FnIgnored's reference passes over, as plain functions of the bytes; and its comment. No condition beyond a text of at most 2000 bytes. -/
import Derived.Test.YtmlochnckplalaaDoorPFnIgnoredx2
namespace Go.Proofs.YtmlochnckplalaaDoor.PFnIgnored
open Go.RowKit Go.Proofs.YtmlochnckplalaaDoorW.PrintWords Go.Proofs.YtmlochnckplalaaDoorW.PrintLast Go.Proofs.YtmlochnckplalaaDoorW.PrintMore

theorem bt_lo (s : ByteArray) (i : Int) : 0 ≤ bt s i ∧ bt s i < 256 := by
  unfold bt
  split
  · rename_i h
    have := (s[i.toNat]'h).toNat_lt
    omega
  · omega
theorem w64 {x : Int} (h : -9223372036854775808 ≤ x) (h' : x ≤ 9223372036854775807) : wrap64 x = x := by unfold wrap64; omega

theorem point_l0 (s : ByteArray) (hs : s.size ≤ 2147483647) (i n : Nat) (hn : i + n ≤ s.size) (x7 : Int) (d : Nat) : ∀ (k : Nat) (x4 : Int) (j : Nat), j + d = i + n → i < j → d < k →
    ∃ c r : Int, spec_Point.l0 k s i x4 n x7 j = some (c, r) ∧ (r = 0 ∨ (r = n ∧ x7 ≤ c)) := by
  induction d with
  | zero =>
    intro k x4 j hj _ hk
    obtain ⟨k, rfl⟩ : ∃ m, k = m + 1 := ⟨k - 1, by omega⟩
    simp only [spec_Point.l0]
    rw [w64 (by omega) (by omega), if_neg (by omega)]
    repeat' split
    all_goals first | exact ⟨_, _, rfl, .inl rfl⟩ | exact ⟨_, _, rfl, .inr ⟨rfl, by omega⟩⟩
  | succ d ih =>
    intro k x4 j hj hij hk
    obtain ⟨k, rfl⟩ : ∃ m, k = m + 1 := ⟨k - 1, by omega⟩
    simp only [spec_Point.l0]
    rw [w64 (x := (i : Int) + n) (by omega) (by omega), if_pos (by omega), if_pos (by omega), if_pos (by omega), w64 (x := (j : Int) + 1) (by omega) (by omega)]
    have e : ((j : Int) + 1) = ((j + 1 : Nat) : Int) := by omega
    rw [e]
    by_cases h1 : bt s (j : Int) < 128
    · rw [if_pos h1]; exact ⟨_, _, rfl, .inl rfl⟩
    · rw [if_neg h1]
      by_cases h2 : bt s (j : Int) > 191
      · rw [if_pos h2]; exact ⟨_, _, rfl, .inl rfl⟩
      · rw [if_neg h2]
        exact ih k _ (j + 1) (by omega) (by omega) (by omega)

theorem point_j2 (s : ByteArray) (hs : s.size ≤ 2147483647) (i : Nat) (hi : i < s.size) (n : Nat) (hn : n ≤ 4) (x4 x7 : Int) (k : Nat) (hk : 8 < k) :
    ∃ c r : Int, spec_Point.j2 k s i x4 n x7 = some (c, r) ∧ (r = 0 ∨ (1 ≤ r ∧ r ≤ 4 ∧ i + r ≤ s.size ∧ x7 ≤ c ∧ n ≠ 0)) := by
  obtain ⟨k, rfl⟩ : ∃ m, k = m + 2 := ⟨k - 2, by omega⟩
  simp only [spec_Point.j2, spec_Point.j3]
  by_cases h0 : (n : Int) = 0
  · rw [if_pos h0]
    exact ⟨0, 0, by simp, .inl rfl⟩
  · rw [if_neg h0, w64 (by omega) (by omega)]
    by_cases h1 : (i : Int) + n > s.size
    · exact ⟨0, 0, by simp [h1], .inl rfl⟩
    · obtain ⟨c, r, h, hr⟩ := point_l0 s hs i n (by omega) x7 (n - 1) k x4 (i + 1) (by omega) (by omega) (by omega)
      refine ⟨c, r, ?_, ?_⟩
      · rw [if_neg (by simp; omega), w64 (by omega) (by omega)]
        exact h
      · rcases hr with rfl | ⟨rfl, h7⟩
        · exact .inl rfl
        · exact .inr ⟨by omega, by omega, by omega, h7, by omega⟩

/-- A code point: none; or of one byte, the byte itself; or from 128 on. -/
theorem point_some (s : ByteArray) (hs : s.size ≤ 2147483647) (i : Nat) (hi : i < s.size) :
    ∃ c r : Int, (∀ k, 20 ≤ k → spec_Point.f k s i = some (c, r)) ∧ (r = 0 ∨ (1 ≤ r ∧ r ≤ 4 ∧ i + r ≤ s.size)) ∧ ((bt s i < 128 ∧ c = bt s i ∧ r = 1) ∨ (128 ≤ bt s i ∧ (r = 0 ∨ 128 ≤ c))) := by
  suffices h : ∃ c r : Int, spec_Point.f 20 s i = some (c, r) ∧ (r = 0 ∨ (1 ≤ r ∧ r ≤ 4 ∧ i + r ≤ s.size)) ∧ ((bt s i < 128 ∧ c = bt s i ∧ r = 1) ∨ (128 ≤ bt s i ∧ (r = 0 ∨ 128 ≤ c))) by
    obtain ⟨c, r, h, hr⟩ := h
    exact ⟨c, r, fun k hk => at_rounds (g := fun k => spec_Point.f k s i) (spec_Point.mono s i) hk h, hr⟩
  have hb := bt_lo s (i : Int)
  have hw : wrap64 (bt s (i : Int)) = bt s (i : Int) := w64 (by omega) (by omega)
  have J := point_j2 s hs i hi
  unfold spec_Point.f
  rw [if_pos (by omega), if_pos (by omega), hw]
  by_cases h1 : bt s (i : Int) < 128
  · rw [if_pos h1]
    exact ⟨_, _, rfl, .inr ⟨by omega, by omega, by omega⟩, .inl ⟨h1, rfl, rfl⟩⟩
  · rw [if_neg h1]
    simp only [spec_Point.j0, spec_Point.j1]
    repeat' split
    all_goals first
      | (obtain ⟨c, r, h, hr⟩ := J 2 (by omega) _ 128 19 (by omega); exact ⟨c, r, h, by omega, .inr ⟨by omega, by omega⟩⟩)
      | (obtain ⟨c, r, h, hr⟩ := J 3 (by omega) _ 2048 18 (by omega); exact ⟨c, r, h, by omega, .inr ⟨by omega, by omega⟩⟩)
      | (obtain ⟨c, r, h, hr⟩ := J 4 (by omega) _ 65536 18 (by omega); exact ⟨c, r, h, by omega, .inr ⟨by omega, by omega⟩⟩)
      | (obtain ⟨c, r, h, hr⟩ := J 0 (by omega) 0 0 18 (by omega); exact ⟨c, r, h, by omega, .inr ⟨by omega, by omega⟩⟩)

theorem utf8_l0 (s : ByteArray) (hs : s.size ≤ 2147483647) (d : Nat) : ∀ (k i : Nat), i ≤ s.size → s.size - i ≤ d → d + 20 < k → ∃ b, spec_UTF8.l0 k s i = some b := by
  induction d with
  | zero =>
    intro k i h1 h2 hk
    obtain ⟨k, rfl⟩ : ∃ m, k = m + 1 := ⟨k - 1, by omega⟩
    exact ⟨true, by simp only [spec_UTF8.l0]; rw [if_neg (by omega)]⟩
  | succ d ih =>
    intro k i h1 h2 hk
    obtain ⟨k, rfl⟩ : ∃ m, k = m + 1 := ⟨k - 1, by omega⟩
    by_cases hlt : i < s.size
    · obtain ⟨c, r, h, hr, _⟩ := point_some s hs i hlt
      simp only [spec_UTF8.l0]
      rw [if_pos (by omega), h k (by omega)]
      simp only [Option.bind_some]
      rcases hr with rfl | ⟨r1, r2, r3⟩
      · exact ⟨false, by rw [if_pos rfl]⟩
      · rw [if_neg (by omega), w64 (by omega) (by omega)]
        obtain ⟨b, hb⟩ := ih k (i + r.toNat) (by omega) (by omega) (by omega)
        exact ⟨b, by rw [← hb]; congr 1; omega⟩
    · exact ⟨true, by simp only [spec_UTF8.l0]; rw [if_neg (by omega)]⟩

theorem utf8_some (s : ByteArray) (hs : s.size ≤ 2147483647) : ∃ b, ∀ k, s.size + 21 ≤ k → spec_UTF8.f k s = some b := by
  obtain ⟨b, hb⟩ := utf8_l0 s hs s.size (s.size + 21) 0 (by omega) (by omega) (by omega)
  exact ⟨b, fun k hk => at_rounds (g := fun k => spec_UTF8.f k s) (spec_UTF8.mono s) hk hb⟩

/-! ### What is passed over -/
abbrev bomB : ByteArray := ⟨#[239, 187, 191]⟩
/-- Whether a byte is a blank, a tab, a line end or a comma. -/
def isBl (c : Int) : Bool := c == 32 || c == 9 || c == 10 || c == 13 || c == 44
/-- The byte order mark stands at a place. -/
def bomAt (s : ByteArray) (i : Nat) : Bool := decide (i + 3 ≤ s.size) && ((s.extract i (i + 3)).toList == bomB.toList)
/-- The place behind what is passed over, from a place on (with a comment begun, or none); none: the reference is not sure. -/
def scn (s : ByteArray) : Nat → Bool → Nat → Option Nat
  | 0, _, _ => none
  | f + 1, false, i => if i < s.size then (if isBl (bt s i) = true then scn s f false (i + 1) else if bt s i = 35 then scn s f true (i + 1) else if bomAt s i = true then none else some i) else some i
  | f + 1, true, i => if i < s.size then (if bt s i = 10 ∨ bt s i = 13 then scn s f false (i + 1) else if 128 ≤ bt s i ∨ (bt s i < 32 ∧ bt s i ≠ 9) then none else scn s f true (i + 1)) else some i
def Sc (s : ByteArray) (b : Bool) (i : Nat) : Option Nat := scn s (s.size + 1 - i) b i
theorem sc_end (s : ByteArray) (b : Bool) : Sc s b s.size = some s.size := by
  unfold Sc; rw [show s.size + 1 - s.size = 0 + 1 from by omega]; cases b <;> simp [scn]
theorem sc_f (s : ByteArray) (i : Nat) (h : i < s.size) : Sc s false i = if isBl (bt s i) = true then Sc s false (i + 1) else if bt s i = 35 then Sc s true (i + 1) else if bomAt s i = true then none else some i := by
  unfold Sc; rw [show s.size + 1 - i = (s.size + 1 - (i + 1)) + 1 from by omega]; simp only [scn, if_pos h]
theorem sc_t (s : ByteArray) (i : Nat) (h : i < s.size) : Sc s true i = if bt s i = 10 ∨ bt s i = 13 then Sc s false (i + 1) else if 128 ≤ bt s i ∨ (bt s i < 32 ∧ bt s i ≠ 9) then none else Sc s true (i + 1) := by
  unfold Sc; rw [show s.size + 1 - i = (s.size + 1 - (i + 1)) + 1 from by omega]; simp only [scn, if_pos h]
/-- At a line end, a comment begun or not is all one. -/
theorem sc_nl (s : ByteArray) (i : Nat) (h : i < s.size) (hn : bt s i = 10 ∨ bt s i = 13) : Sc s true i = Sc s false i := by
  rw [sc_f s i h, sc_t s i h, if_pos hn, if_pos]
  rcases hn with e | e <;> rw [e] <;> decide

theorem source_f (c : Int) : spec_source.f c = some (decide (c = 9 ∨ c = 10 ∨ c = 13 ∨ 32 ≤ c), decide (c ≤ 65535)) := by
  unfold spec_source.f
  by_cases h1 : c = 9
  · subst h1; decide
  by_cases h2 : c = 10
  · subst h2; decide
  by_cases h3 : c = 13
  · subst h3; decide
  simp [h1, h2, h3]

theorem comment_l0 (s : ByteArray) (hs : s.size ≤ 2000) (l : List S43) (d : Nat) : ∀ (k i : Nat) (b u : Bool), i ≤ s.size → s.size - i = d → 2 * d + 30 < k →
    ∃ (j : Nat) (b' u' : Bool), spec_lexer_comment.l0 k s i l b u = some (s, (j : Int), b', u') ∧ i ≤ j ∧ j ≤ s.size ∧ ((i < s.size ∧ bt s i ≠ 10 ∧ bt s i ≠ 13) → i < j ∨ b' = true) ∧
      (b' = false → u' = false → b = false ∧ u = false ∧ Sc s true i = Sc s false j) := by
  induction d using Nat.strongRecOn with
  | ind d ih =>
  intro k i b u h1 h2 hk
  obtain ⟨k, rfl⟩ : ∃ m, k = m + 2 := ⟨k - 2, by omega⟩
  simp only [spec_lexer_comment.l0, spec_lexer_comment.j1]
  by_cases hlt : i < s.size
  · rw [if_pos (by omega), if_pos (by omega)]
    by_cases c10 : bt s (i : Int) = 10
    · rw [if_pos c10, if_neg (by decide)]
      exact ⟨i, b, u, rfl, by omega, h1, fun h => absurd c10 h.2.1, fun hb hu => ⟨hb, hu, sc_nl s i hlt (.inl c10)⟩⟩
    rw [if_neg c10]
    by_cases c13 : bt s (i : Int) = 13
    · rw [if_neg (by simp [c13])]
      exact ⟨i, b, u, rfl, by omega, h1, fun h => absurd c13 h.2.2, fun hb hu => ⟨hb, hu, sc_nl s i hlt (.inr c13)⟩⟩
    rw [if_pos (by simp [c13])]
    obtain ⟨c, r, hp, hr, hc⟩ := point_some s (by omega) i hlt
    rw [hp k (by omega)]
    simp only [Option.bind_some, source_f]
    by_cases r0 : r = 0
    · rw [if_pos r0]
      exact ⟨i, true, true, rfl, by omega, h1, fun _ => .inr rfl, fun h => by cases h⟩
    rw [if_neg r0]
    obtain ⟨r1, r2, r3⟩ : 1 ≤ r ∧ r ≤ 4 ∧ (i : Int) + r ≤ s.size := by omega
    have hj : wrap64 ((i : Int) + r) = ((i + r.toNat : Nat) : Int) := by rw [w64 (by omega) (by omega)]; omega
    rw [hj]
    have IH : ∀ b u, _ := fun b u => ih (s.size - (i + r.toNat)) (by omega) k (i + r.toNat) b u (by omega) rfl (by omega)
    by_cases hu : u = true
    · rw [if_pos hu]
      obtain ⟨j, b', u', e, j1, j2, j3, j4⟩ := IH b true
      exact ⟨j, b', u', e, by omega, j2, fun _ => .inl (by omega), fun hb hu' => by have := (j4 hb hu').2.1; cases this⟩
    rw [if_neg hu]
    have T : ∃ (j : Nat) (b' u' : Bool), spec_lexer_comment.l0 k s ((i + r.toNat : Nat) : Int) l b true = some (s, (j : Int), b', u') ∧ i ≤ j ∧ j ≤ s.size ∧ ((i < s.size ∧ bt s i ≠ 10 ∧ bt s i ≠ 13) → i < j ∨ b' = true) ∧
      (b' = false → u' = false → b = false ∧ u = false ∧ Sc s true i = Sc s false j) := by
      obtain ⟨j, b', u', e, j1, j2, j3, j4⟩ := IH b true
      exact ⟨j, b', u', e, by omega, j2, fun _ => .inl (by omega), fun hb hu' => by have := (j4 hb hu').2.1; cases this⟩
    split
    · split
      · rename_i hsr
        obtain ⟨j, b', u', e, j1, j2, j3, j4⟩ := IH b (decide (c ≥ 128))
        refine ⟨j, b', u', e, by omega, j2, fun _ => .inl (by omega), fun hb hu' => ?_⟩
        obtain ⟨q1, q2, q3⟩ := j4 hb hu'
        have q2 := of_decide_eq_false q2
        rw [decide_eq_true_eq] at hsr
        refine ⟨q1, by simpa using hu, ?_⟩
        rw [← q3, sc_t s i hlt, if_neg (by omega), if_neg (by omega), show i + r.toNat = i + 1 from by omega]
      · exact T
    · exact T
  · have e : i = s.size := by omega
    subst e
    rw [if_neg (by omega), if_neg (by decide)]
    exact ⟨s.size, b, u, rfl, by omega, by omega, fun h => absurd h.1 (by omega), fun hb hu => ⟨hb, hu, by rw [sc_end, sc_end]⟩⟩
theorem comment_f (s : ByteArray) (hs : s.size ≤ 2000) (l : List S43) (i : Nat) (b u : Bool) (hi : i < s.size) (hc : bt s i = 35) :
    ∃ (j : Nat) (b' u' : Bool), spec_lexer_comment.f 5000 s i l b u = some (s, (j : Int), b', u') ∧ i ≤ j ∧ j ≤ s.size ∧ (i < j ∨ b' = true) ∧
      (b' = false → u' = false → b = false ∧ u = false ∧ Sc s false i = Sc s false j) := by
  obtain ⟨j, b', u', e, j1, j2, j3, j4⟩ := comment_l0 s hs l (s.size - i) 5000 i b u (by omega) rfl (by omega)
  refine ⟨j, b', u', e, j1, j2, j3 ⟨hi, by rw [hc]; decide, by rw [hc]; decide⟩, fun hb hu => ?_⟩
  obtain ⟨q1, q2, q3⟩ := j4 hb hu
  refine ⟨q1, q2, ?_⟩
  rw [← q3, sc_f s i hi, sc_t s i hi, if_neg (by rw [hc]; decide), if_pos hc, if_neg (by rw [hc]; decide), if_neg (by rw [hc]; decide)]
theorem starts_bom (s : ByteArray) (hs : s.size ≤ 2000) (i : Nat) (hi : i ≤ s.size) : spec_starts.f s i bomB = some (bomAt s i) := by
  unfold spec_starts.f bomAt
  have e : ((bomB.size : Nat) : Int) = 3 := by decide
  rw [e, w64 (by omega) (by omega)]
  by_cases h : i + 3 ≤ s.size
  · rw [if_pos (by omega), if_pos (by omega), if_pos (by omega), decide_eq_true h, Bool.true_and, show ((i : Int) + 3).toNat = i + 3 from by omega]
    rfl
  · rw [if_neg (by omega), decide_eq_false h, Bool.false_and]
end Go.Proofs.YtmlochnckplalaaDoor.PFnIgnored
