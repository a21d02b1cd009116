/- FnReadNumber: the reference's numeral and the printed functions under it, as plain functions of the bytes. No condition beyond a text of at most 2000 bytes. -/
import Derived.Test.YtmlochnckplalaaGreatDoorPFnReadNumberx2
import Derived.Test.YtmlochnckplalaaGreatDoorPFnReadNumberx4
namespace Go.Proofs.YtmlochnckplalaaGreatDoor.PFnReadNumber
open Go.RowKit Go.Proofs.YtmlochnckplalaaGreatDoorW.PrintWords Go.Proofs.YtmlochnckplalaaGreatDoorW.PrintLast Go.Proofs.YtmlochnckplalaaGreatDoorW.PrintMore

theorem bt_lo (s : ByteArray) (i : Int) : 0 ≤ bt s i ∧ bt s i < 256 := by
  unfold bt
  split
  · rename_i h
    have := (s[i.toNat]'h).toNat_lt
    omega
  · omega
theorem w64 {x : Int} (h : -9223372036854775808 ≤ x) (h' : x ≤ 9223372036854775807) : wrap64 x = x := by unfold wrap64; omega

theorem point_l0 (s : ByteArray) (hs : s.size ≤ 2147483647) (i n : Nat) (hn : i + n ≤ s.size) (x7 : Int) (d : Nat) : ∀ (k : Nat) (x4 : Int) (j : Nat), j + d = i + n → i < j → d < k →
    ∃ c r : Int, spec_Point.l0 k s i x4 n x7 j = some (c, r) ∧ (r = 0 ∨ (r = n ∧ x7 ≤ c)) := by
  induction d with
  | zero =>
    intro k x4 j hj _ hk
    obtain ⟨k, rfl⟩ : ∃ m, k = m + 1 := ⟨k - 1, by omega⟩
    simp only [spec_Point.l0]
    rw [w64 (by omega) (by omega), if_neg (by omega)]
    repeat' split
    all_goals first | exact ⟨_, _, rfl, .inl rfl⟩ | exact ⟨_, _, rfl, .inr ⟨rfl, by omega⟩⟩
  | succ d ih =>
    intro k x4 j hj hij hk
    obtain ⟨k, rfl⟩ : ∃ m, k = m + 1 := ⟨k - 1, by omega⟩
    simp only [spec_Point.l0]
    rw [w64 (x := (i : Int) + n) (by omega) (by omega), if_pos (by omega), if_pos (by omega), if_pos (by omega), w64 (x := (j : Int) + 1) (by omega) (by omega)]
    have e : ((j : Int) + 1) = ((j + 1 : Nat) : Int) := by omega
    rw [e]
    by_cases h1 : bt s (j : Int) < 128
    · rw [if_pos h1]; exact ⟨_, _, rfl, .inl rfl⟩
    · rw [if_neg h1]
      by_cases h2 : bt s (j : Int) > 191
      · rw [if_pos h2]; exact ⟨_, _, rfl, .inl rfl⟩
      · rw [if_neg h2]
        exact ih k _ (j + 1) (by omega) (by omega) (by omega)

theorem point_j2 (s : ByteArray) (hs : s.size ≤ 2147483647) (i : Nat) (hi : i < s.size) (n : Nat) (hn : n ≤ 4) (x4 x7 : Int) (k : Nat) (hk : 8 < k) :
    ∃ c r : Int, spec_Point.j2 k s i x4 n x7 = some (c, r) ∧ (r = 0 ∨ (1 ≤ r ∧ r ≤ 4 ∧ i + r ≤ s.size ∧ x7 ≤ c ∧ n ≠ 0)) := by
  obtain ⟨k, rfl⟩ : ∃ m, k = m + 2 := ⟨k - 2, by omega⟩
  simp only [spec_Point.j2, spec_Point.j3]
  by_cases h0 : (n : Int) = 0
  · rw [if_pos h0]
    exact ⟨0, 0, by simp, .inl rfl⟩
  · rw [if_neg h0, w64 (by omega) (by omega)]
    by_cases h1 : (i : Int) + n > s.size
    · exact ⟨0, 0, by simp [h1], .inl rfl⟩
    · obtain ⟨c, r, h, hr⟩ := point_l0 s hs i n (by omega) x7 (n - 1) k x4 (i + 1) (by omega) (by omega) (by omega)
      refine ⟨c, r, ?_, ?_⟩
      · rw [if_neg (by simp; omega), w64 (by omega) (by omega)]
        exact h
      · rcases hr with rfl | ⟨rfl, h7⟩
        · exact .inl rfl
        · exact .inr ⟨by omega, by omega, by omega, h7, by omega⟩

/-- A code point: none; or of one byte, the byte itself; or from 128 on. -/
theorem point_some (s : ByteArray) (hs : s.size ≤ 2147483647) (i : Nat) (hi : i < s.size) :
    ∃ c r : Int, (∀ k, 20 ≤ k → spec_Point.f k s i = some (c, r)) ∧ (r = 0 ∨ (1 ≤ r ∧ r ≤ 4 ∧ i + r ≤ s.size)) ∧ ((bt s i < 128 ∧ c = bt s i ∧ r = 1) ∨ (128 ≤ bt s i ∧ (r = 0 ∨ 128 ≤ c))) := by
  suffices h : ∃ c r : Int, spec_Point.f 20 s i = some (c, r) ∧ (r = 0 ∨ (1 ≤ r ∧ r ≤ 4 ∧ i + r ≤ s.size)) ∧ ((bt s i < 128 ∧ c = bt s i ∧ r = 1) ∨ (128 ≤ bt s i ∧ (r = 0 ∨ 128 ≤ c))) by
    obtain ⟨c, r, h, hr⟩ := h
    exact ⟨c, r, fun k hk => at_rounds (g := fun k => spec_Point.f k s i) (spec_Point.mono s i) hk h, hr⟩
  have hb := bt_lo s (i : Int)
  have hw : wrap64 (bt s (i : Int)) = bt s (i : Int) := w64 (by omega) (by omega)
  have J := point_j2 s hs i hi
  unfold spec_Point.f
  rw [if_pos (by omega), if_pos (by omega), hw]
  by_cases h1 : bt s (i : Int) < 128
  · rw [if_pos h1]
    exact ⟨_, _, rfl, .inr ⟨by omega, by omega, by omega⟩, .inl ⟨h1, rfl, rfl⟩⟩
  · rw [if_neg h1]
    simp only [spec_Point.j0, spec_Point.j1]
    repeat' split
    all_goals first
      | (obtain ⟨c, r, h, hr⟩ := J 2 (by omega) _ 128 19 (by omega); exact ⟨c, r, h, by omega, .inr ⟨by omega, by omega⟩⟩)
      | (obtain ⟨c, r, h, hr⟩ := J 3 (by omega) _ 2048 18 (by omega); exact ⟨c, r, h, by omega, .inr ⟨by omega, by omega⟩⟩)
      | (obtain ⟨c, r, h, hr⟩ := J 4 (by omega) _ 65536 18 (by omega); exact ⟨c, r, h, by omega, .inr ⟨by omega, by omega⟩⟩)
      | (obtain ⟨c, r, h, hr⟩ := J 0 (by omega) 0 0 18 (by omega); exact ⟨c, r, h, by omega, .inr ⟨by omega, by omega⟩⟩)

theorem utf8_l0 (s : ByteArray) (hs : s.size ≤ 2147483647) (d : Nat) : ∀ (k i : Nat), i ≤ s.size → s.size - i ≤ d → d + 20 < k → ∃ b, spec_UTF8.l0 k s i = some b := by
  induction d with
  | zero =>
    intro k i h1 h2 hk
    obtain ⟨k, rfl⟩ : ∃ m, k = m + 1 := ⟨k - 1, by omega⟩
    exact ⟨true, by simp only [spec_UTF8.l0]; rw [if_neg (by omega)]⟩
  | succ d ih =>
    intro k i h1 h2 hk
    obtain ⟨k, rfl⟩ : ∃ m, k = m + 1 := ⟨k - 1, by omega⟩
    by_cases hlt : i < s.size
    · obtain ⟨c, r, h, hr, _⟩ := point_some s hs i hlt
      simp only [spec_UTF8.l0]
      rw [if_pos (by omega), h k (by omega)]
      simp only [Option.bind_some]
      rcases hr with rfl | ⟨r1, r2, r3⟩
      · exact ⟨false, by rw [if_pos rfl]⟩
      · rw [if_neg (by omega), w64 (by omega) (by omega)]
        obtain ⟨b, hb⟩ := ih k (i + r.toNat) (by omega) (by omega) (by omega)
        exact ⟨b, by rw [← hb]; congr 1; omega⟩
    · exact ⟨true, by simp only [spec_UTF8.l0]; rw [if_neg (by omega)]⟩

theorem utf8_some (s : ByteArray) (hs : s.size ≤ 2147483647) : ∃ b, ∀ k, s.size + 21 ≤ k → spec_UTF8.f k s = some b := by
  obtain ⟨b, hb⟩ := utf8_l0 s hs s.size (s.size + 21) 0 (by omega) (by omega) (by omega)
  exact ⟨b, fun k hk => at_rounds (g := fun k => spec_UTF8.f k s) (spec_UTF8.mono s) hk hb⟩

/-- The byte at a place; 0 behind the end. -/
def nx (s : ByteArray) (i : Nat) : Int := if i < s.size then bt s i else 0
def isD (c : Int) : Bool := decide (48 ≤ c) && decide (c ≤ 57)
def dgf (s : ByteArray) : Nat → Nat → Nat
  | 0, i => i
  | f + 1, i => if isD (nx s i) = true then dgf s f (i + 1) else i
/-- The place behind digits. -/
def dg (s : ByteArray) (i : Nat) : Nat := dgf s (s.size - i) i
theorem nx_end (s : ByteArray) (i : Nat) (h : s.size ≤ i) : nx s i = 0 := by unfold nx; rw [if_neg (by omega)]
theorem nx_lo (s : ByteArray) (i : Nat) : 0 ≤ nx s i ∧ nx s i < 256 := by
  unfold nx
  split
  · exact bt_lo s i
  · omega
theorem nx_in (s : ByteArray) (i : Nat) (h : nx s i ≠ 0) : i < s.size := by
  unfold nx at h
  split at h
  · assumption
  · exact absurd rfl h
theorem dg_no (s : ByteArray) (i : Nat) (h : isD (nx s i) = false) : dg s i = i := by
  unfold dg
  cases s.size - i with
  | zero => rfl
  | succ f => simp [dgf, h]
theorem dg_yes (s : ByteArray) (i : Nat) (h : isD (nx s i) = true) : dg s i = dg s (i + 1) := by
  have hi : i < s.size := nx_in s i (by intro e; rw [e] at h; cases h)
  unfold dg
  rw [show s.size - i = (s.size - (i + 1)) + 1 from by omega]
  simp [dgf, h]
theorem dg_ge (s : ByteArray) (i : Nat) : i ≤ dg s i := by
  unfold dg
  generalize s.size - i = f
  induction f generalizing i with
  | zero => exact Nat.le_refl _
  | succ f ih => unfold dgf; split; exact Nat.le_trans (Nat.le_succ i) (ih (i + 1)); exact Nat.le_refl _
theorem dg_le (s : ByteArray) (i : Nat) (h : i ≤ s.size) : dg s i ≤ s.size := by
  unfold dg
  generalize hf : s.size - i = f
  induction f generalizing i with
  | zero => exact h
  | succ f ih => unfold dgf; split; exact ih (i + 1) (by omega) (by omega); exact h
theorem dg_gt (s : ByteArray) (i : Nat) (h : isD (nx s i) = true) : i < dg s i := by
  rw [dg_yes s i h]; exact dg_ge s (i + 1)
theorem dg_self (s : ByteArray) (i : Nat) : dg s i = i ↔ isD (nx s i) = false := by
  constructor
  · intro h
    cases hd : isD (nx s i)
    · rfl
    · have := dg_gt s i hd; omega
  · exact dg_no s i
/-- What may stand behind the whole part: where an exponent may begin. -/
def expo (s : ByteArray) (kind : Int) (p : Nat) : Option (Int × Nat) :=
  if nx s p = 101 ∨ nx s p = 69 then
    (if nx s (p + 1) = 43 ∨ nx s (p + 1) = 45 then (if dg s (p + 2) = p + 2 then none else some (17, dg s (p + 2))) else (if dg s (p + 1) = p + 1 then none else some (17, dg s (p + 1))))
  else some (kind, p)
def frac (s : ByteArray) (p : Nat) : Option (Int × Nat) :=
  if nx s p = 46 then (if dg s (p + 1) = p + 1 then none else expo s 17 (dg s (p + 1))) else expo s 16 p
def num1 (s : ByteArray) (a : Nat) : Option (Int × Nat) := if dg s a = a ∨ (nx s a = 48 ∧ a + 1 < dg s a) then none else frac s (dg s a)
/-- The number at the beginning of a text: its kind, and where it ends. -/
def num (s : ByteArray) : Option (Int × Nat) := num1 s (if nx s 0 = 45 then 1 else 0)
/-- What the reference hands back of it. -/
def numR (s : ByteArray) (x : Int) (b u : Bool) : Option (Int × Nat) → Option (Int × Int × ByteArray × Int × Bool × Bool)
  | none => some (0, 0, s, x, b, u)
  | some (k, t) => some (k, (t : Int), s, x, b, u)
theorem next_f (s : ByteArray) (x : Int) (l : List S24) (b u : Bool) (i : Nat) : spec_lexer_next.f s x l b u (i : Int) = some (nx s i, s, x, b, u) := by
  unfold spec_lexer_next.f nx
  by_cases h : i < s.size
  · rw [if_neg (by omega), if_pos (by omega), if_pos (by omega), if_pos h]
  · rw [if_pos (by omega), if_neg h]
theorem isDigit_f (c : Int) : spec_isDigit.f c = some (isD c) := by
  unfold spec_isDigit.f isD
  by_cases h : c ≥ 48
  · rw [if_pos h, decide_eq_true h, Bool.true_and]
  · rw [if_neg h, decide_eq_false h, Bool.false_and]
theorem digits_l0 (s : ByteArray) (hs : s.size ≤ 2000) (x : Int) (l : List S24) (b u : Bool) (d : Nat) : ∀ (k i : Nat), i ≤ s.size + 5 → s.size + 5 - i = d → d < k → spec_lexer_digits.l0 k (i : Int) s x l b u = some (((dg s i : Nat) : Int), s, x, b, u) := by
  induction d with
  | zero =>
    intro k i h1 h2 hk
    obtain ⟨k, rfl⟩ : ∃ m, k = m + 1 := ⟨k - 1, by omega⟩
    simp only [spec_lexer_digits.l0]
    have e := nx_end s i (by omega)
    rw [next_f]
    simp only [Option.bind_some, isDigit_f]
    rw [if_neg (by rw [e]; decide), dg_no s i (by rw [e]; rfl)]
  | succ d ih =>
    intro k i h1 h2 hk
    obtain ⟨k, rfl⟩ : ∃ m, k = m + 1 := ⟨k - 1, by omega⟩
    simp only [spec_lexer_digits.l0]
    rw [next_f]
    simp only [Option.bind_some, isDigit_f]
    by_cases hd : isD (nx s i) = true
    · rw [if_pos hd, w64 (by omega) (by omega), show ((i : Int) + 1) = ((i + 1 : Nat) : Int) from by omega, ih k (i + 1) (by omega) (by omega) (by omega), dg_yes s i hd]
    · rw [if_neg hd, dg_no s i (by simpa using hd)]
theorem digits_f (s : ByteArray) (hs : s.size ≤ 2000) (x : Int) (l : List S24) (b u : Bool) (k i : Nat) (hi : i ≤ s.size + 5) (hk : 2006 ≤ k) : spec_lexer_digits.f k s x l b u (i : Int) = some (((dg s i : Nat) : Int), s, x, b, u) :=
  digits_l0 s hs x l b u _ k i hi rfl (by omega)
theorem num_j2 (s : ByteArray) (hs : s.size ≤ 2000) (x : Int) (l : List S24) (b u : Bool) (kind : Int) (p : Nat) (hp : p ≤ s.size + 1) (k : Nat) (hk : 2009 ≤ k) : spec_lexer_numeral.j2 k kind (p : Int) s x l b u = numR s x b u (expo s kind p) := by
  obtain ⟨k, rfl⟩ : ∃ m, k = m + 3 := ⟨k - 3, by omega⟩
  simp only [spec_lexer_numeral.j2, spec_lexer_numeral.j3]
  have e1 : wrap64 ((p : Int) + 1) = ((p + 1 : Nat) : Int) := by rw [w64 (by omega) (by omega)]; omega
  have e2 : wrap64 (((p + 1 : Nat) : Int) + 1) = ((p + 2 : Nat) : Int) := by rw [w64 (by omega) (by omega)]; omega
  rw [next_f]
  simp only [Option.bind_some]
  have T : (spec_lexer_next.f s x l b u (wrap64 ((p : Int) + 1))).bind (fun bt135 => (if bt135.1 = 43 then (spec_lexer_numeral.j4 (k + 1) (wrap64 ((p : Int) + 1)) 17 true bt135.2.1 bt135.2.2.1 l bt135.2.2.2.1 bt135.2.2.2.2) else (spec_lexer_numeral.j4 (k + 1) (wrap64 ((p : Int) + 1)) 17 (bt135.1 == 45) bt135.2.1 bt135.2.2.1 l bt135.2.2.2.1 bt135.2.2.2.2))) =
      numR s x b u (if nx s (p + 1) = 43 ∨ nx s (p + 1) = 45 then (if dg s (p + 2) = p + 2 then none else some (17, dg s (p + 2))) else (if dg s (p + 1) = p + 1 then none else some (17, dg s (p + 1)))) := by
    rw [e1, next_f]
    simp only [Option.bind_some, spec_lexer_numeral.j4]
    rw [e2, digits_f s hs x l b u k (p + 2) (by omega) (by omega), digits_f s hs x l b u k (p + 1) (by omega) (by omega)]
    simp only [Option.bind_some]
    by_cases h43 : nx s (p + 1) = 43
    · rw [if_pos h43, if_pos trivial, if_pos (show nx s (p + 1) = 43 ∨ nx s (p + 1) = 45 from .inl h43)]
      by_cases hd : dg s (p + 2) = p + 2
      · rw [if_pos (by rw [hd]), if_pos hd]; rfl
      · rw [if_neg (by omega), if_neg hd]; rfl
    rw [if_neg h43]
    by_cases h45 : nx s (p + 1) = 45
    · rw [if_pos (show (nx s (p + 1) == 45) = true by rw [h45]; rfl), if_pos (show nx s (p + 1) = 43 ∨ nx s (p + 1) = 45 from .inr h45)]
      by_cases hd : dg s (p + 2) = p + 2
      · rw [if_pos (by rw [hd]), if_pos hd]; rfl
      · rw [if_neg (by omega), if_neg hd]; rfl
    · rw [if_neg (show ¬ (nx s (p + 1) == 45) = true by simpa using h45), if_neg (show ¬ (nx s (p + 1) = 43 ∨ nx s (p + 1) = 45) by omega)]
      by_cases hd : dg s (p + 1) = p + 1
      · rw [if_pos (by rw [hd]), if_pos hd]; rfl
      · rw [if_neg (by omega), if_neg hd]; rfl
  unfold expo
  by_cases h1 : nx s p = 101
  · rw [if_pos h1, if_pos trivial, T, if_pos (show nx s p = 101 ∨ nx s p = 69 from .inl h1)]
  rw [if_neg h1]
  by_cases h2 : nx s p = 69
  · rw [if_pos (show (nx s p == 69) = true by rw [h2]; rfl), T, if_pos (show nx s p = 101 ∨ nx s p = 69 from .inr h2)]
  · rw [if_neg (show ¬ (nx s p == 69) = true by simpa using h2), if_neg (show ¬ (nx s p = 101 ∨ nx s p = 69) by omega)]; rfl
theorem num_j1 (s : ByteArray) (hs : s.size ≤ 2000) (x : Int) (l : List S24) (b u : Bool) (p : Nat) (hp : p ≤ s.size) (k : Nat) (hk : 2010 ≤ k) : spec_lexer_numeral.j1 k (p : Int) false s x l b u = numR s x b u (frac s p) := by
  obtain ⟨k, rfl⟩ : ∃ m, k = m + 1 := ⟨k - 1, by omega⟩
  simp only [spec_lexer_numeral.j1]
  have e1 : wrap64 ((p : Int) + 1) = ((p + 1 : Nat) : Int) := by rw [w64 (by omega) (by omega)]; omega
  rw [if_neg (by decide), next_f]
  simp only [Option.bind_some]
  unfold frac
  by_cases h : nx s p = 46
  · have hin := nx_in s p (by rw [h]; decide)
    rw [if_pos h, if_pos h, e1, digits_f s hs x l b u k (p + 1) (by omega) (by omega)]
    simp only [Option.bind_some]
    by_cases hd : dg s (p + 1) = p + 1
    · rw [if_pos (by rw [hd]), if_pos hd]; rfl
    · rw [if_neg (by omega), if_neg hd, num_j2 s hs x l b u 17 _ (by have := dg_le s (p + 1) (by omega); omega) k (by omega)]
  · rw [if_neg h, if_neg h, num_j2 s hs x l b u 16 p (by omega) k (by omega)]
theorem num_f (s : ByteArray) (hs : s.size ≤ 2000) (x : Int) (l : List S24) (b u : Bool) : spec_lexer_numeral.f 2020 s x l b u 0 = numR s x b u (num s) := by
  have J0 : ∀ a : Nat, a ≤ 1 → spec_lexer_numeral.j0 2020 (a : Int) s x l b u = numR s x b u (num1 s a) := by
    intro a ha
    simp only [spec_lexer_numeral.j0]
    rw [digits_f s hs x l b u 2019 a (by omega) (by omega)]
    simp only [Option.bind_some]
    unfold num1
    by_cases hd : dg s a = a
    · rw [if_pos (by rw [hd]), if_pos (.inl hd)]
      simp only [spec_lexer_numeral.j1]
      rw [if_pos trivial]; rfl
    have hD : isD (nx s a) = true := by
      cases h : isD (nx s a)
      · exact absurd (dg_no s a h) hd
      · rfl
    have hin : a < s.size := nx_in s a (by intro e; rw [e] at hD; cases hD)
    have hbt : bt s a = nx s a := by unfold nx; rw [if_pos hin]
    have hge := dg_ge s a
    have hle := dg_le s a (by omega)
    rw [if_neg (by omega), if_pos (by omega), if_pos (by omega), hbt, w64 (by omega) (by omega)]
    by_cases h48 : nx s a = 48
    · rw [if_pos h48]
      by_cases hgt : a + 1 < dg s a
      · rw [decide_eq_true (show ((dg s a : Nat) : Int) > (a : Int) + 1 by omega), if_pos (.inr ⟨h48, hgt⟩)]
        simp only [spec_lexer_numeral.j1]
        rw [if_pos trivial]; rfl
      · rw [decide_eq_false (show ¬ ((dg s a : Nat) : Int) > (a : Int) + 1 by omega), if_neg (by omega), num_j1 s hs x l b u _ hle 2019 (by omega)]
    · rw [if_neg h48, if_neg (by omega), num_j1 s hs x l b u _ hle 2019 (by omega)]
  unfold spec_lexer_numeral.f num
  have e0 : (0 : Int) = ((0 : Nat) : Int) := rfl
  rw [e0, next_f]
  simp only [Option.bind_some]
  by_cases h : nx s 0 = 45
  · rw [if_pos h, if_pos h, show wrap64 (((0 : Nat) : Int) + 1) = ((1 : Nat) : Int) from by rw [w64 (by omega) (by omega)]; rfl]
    exact J0 1 (by omega)
  · rw [if_neg h, if_neg h]
    exact J0 0 (by omega)
end Go.Proofs.YtmlochnckplalaaGreatDoor.PFnReadNumber
