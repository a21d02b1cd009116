/- FnCoerceFloat: the reference's UTF8 answers of every text of at most 2147483647 bytes. -/
import Derived.Test.YtbegljkhajagbaaGreatDoorPFnCoerceFloatx1
namespace Go.Proofs.YtbegljkhajagbaaGreatDoor.PFnCoerceFloat
open Go.RowKit Go.Proofs.YtbegljkhajagbaaGreatDoorW.PrintWords Go.Proofs.YtbegljkhajagbaaGreatDoorW.PrintLast Go.Proofs.YtbegljkhajagbaaGreatDoorW.PrintMore

theorem bt_lo (s : ByteArray) (i : Int) : 0 ≤ bt s i ∧ bt s i < 256 := by
  unfold bt
  split
  · rename_i h
    have := (s[i.toNat]'h).toNat_lt
    omega
  · omega
theorem w64 {x : Int} (h : -9223372036854775808 ≤ x) (h' : x ≤ 9223372036854775807) : wrap64 x = x := by unfold wrap64; omega

theorem point_l0 (s : ByteArray) (hs : s.size ≤ 2147483647) (i n : Nat) (hn : i + n ≤ s.size) (x7 : Int) (d : Nat) : ∀ (k : Nat) (x4 : Int) (j : Nat), j + d = i + n → i < j → d < k →
    ∃ c r : Int, spec_Point.l0 k s i x4 n x7 j = some (c, r) ∧ (r = 0 ∨ (r = n ∧ x7 ≤ c)) := by
  induction d with
  | zero =>
    intro k x4 j hj _ hk
    obtain ⟨k, rfl⟩ : ∃ m, k = m + 1 := ⟨k - 1, by omega⟩
    simp only [spec_Point.l0]
    rw [w64 (by omega) (by omega), if_neg (by omega)]
    repeat' split
    all_goals first | exact ⟨_, _, rfl, .inl rfl⟩ | exact ⟨_, _, rfl, .inr ⟨rfl, by omega⟩⟩
  | succ d ih =>
    intro k x4 j hj hij hk
    obtain ⟨k, rfl⟩ : ∃ m, k = m + 1 := ⟨k - 1, by omega⟩
    simp only [spec_Point.l0]
    rw [w64 (x := (i : Int) + n) (by omega) (by omega), if_pos (by omega), if_pos (by omega), if_pos (by omega), w64 (x := (j : Int) + 1) (by omega) (by omega)]
    have e : ((j : Int) + 1) = ((j + 1 : Nat) : Int) := by omega
    rw [e]
    by_cases h1 : bt s (j : Int) < 128
    · rw [if_pos h1]; exact ⟨_, _, rfl, .inl rfl⟩
    · rw [if_neg h1]
      by_cases h2 : bt s (j : Int) > 191
      · rw [if_pos h2]; exact ⟨_, _, rfl, .inl rfl⟩
      · rw [if_neg h2]
        exact ih k _ (j + 1) (by omega) (by omega) (by omega)

theorem point_j2 (s : ByteArray) (hs : s.size ≤ 2147483647) (i : Nat) (hi : i < s.size) (n : Nat) (hn : n ≤ 4) (x4 x7 : Int) (k : Nat) (hk : 8 < k) :
    ∃ c r : Int, spec_Point.j2 k s i x4 n x7 = some (c, r) ∧ (r = 0 ∨ (1 ≤ r ∧ r ≤ 4 ∧ i + r ≤ s.size ∧ x7 ≤ c ∧ n ≠ 0)) := by
  obtain ⟨k, rfl⟩ : ∃ m, k = m + 2 := ⟨k - 2, by omega⟩
  simp only [spec_Point.j2, spec_Point.j3]
  by_cases h0 : (n : Int) = 0
  · rw [if_pos h0]
    exact ⟨0, 0, by simp, .inl rfl⟩
  · rw [if_neg h0, w64 (by omega) (by omega)]
    by_cases h1 : (i : Int) + n > s.size
    · exact ⟨0, 0, by simp [h1], .inl rfl⟩
    · obtain ⟨c, r, h, hr⟩ := point_l0 s hs i n (by omega) x7 (n - 1) k x4 (i + 1) (by omega) (by omega) (by omega)
      refine ⟨c, r, ?_, ?_⟩
      · rw [if_neg (by simp; omega), w64 (by omega) (by omega)]
        exact h
      · rcases hr with rfl | ⟨rfl, h7⟩
        · exact .inl rfl
        · exact .inr ⟨by omega, by omega, by omega, h7, by omega⟩

/-- A code point: none; or of one byte, the byte itself; or from 128 on. -/
theorem point_some (s : ByteArray) (hs : s.size ≤ 2147483647) (i : Nat) (hi : i < s.size) :
    ∃ c r : Int, (∀ k, 20 ≤ k → spec_Point.f k s i = some (c, r)) ∧ (r = 0 ∨ (1 ≤ r ∧ r ≤ 4 ∧ i + r ≤ s.size)) ∧ ((bt s i < 128 ∧ c = bt s i ∧ r = 1) ∨ (128 ≤ bt s i ∧ (r = 0 ∨ 128 ≤ c))) := by
  suffices h : ∃ c r : Int, spec_Point.f 20 s i = some (c, r) ∧ (r = 0 ∨ (1 ≤ r ∧ r ≤ 4 ∧ i + r ≤ s.size)) ∧ ((bt s i < 128 ∧ c = bt s i ∧ r = 1) ∨ (128 ≤ bt s i ∧ (r = 0 ∨ 128 ≤ c))) by
    obtain ⟨c, r, h, hr⟩ := h
    exact ⟨c, r, fun k hk => at_rounds (g := fun k => spec_Point.f k s i) (spec_Point.mono s i) hk h, hr⟩
  have hb := bt_lo s (i : Int)
  have hw : wrap64 (bt s (i : Int)) = bt s (i : Int) := w64 (by omega) (by omega)
  have J := point_j2 s hs i hi
  unfold spec_Point.f
  rw [if_pos (by omega), if_pos (by omega), hw]
  by_cases h1 : bt s (i : Int) < 128
  · rw [if_pos h1]
    exact ⟨_, _, rfl, .inr ⟨by omega, by omega, by omega⟩, .inl ⟨h1, rfl, rfl⟩⟩
  · rw [if_neg h1]
    simp only [spec_Point.j0, spec_Point.j1]
    repeat' split
    all_goals first
      | (obtain ⟨c, r, h, hr⟩ := J 2 (by omega) _ 128 19 (by omega); exact ⟨c, r, h, by omega, .inr ⟨by omega, by omega⟩⟩)
      | (obtain ⟨c, r, h, hr⟩ := J 3 (by omega) _ 2048 18 (by omega); exact ⟨c, r, h, by omega, .inr ⟨by omega, by omega⟩⟩)
      | (obtain ⟨c, r, h, hr⟩ := J 4 (by omega) _ 65536 18 (by omega); exact ⟨c, r, h, by omega, .inr ⟨by omega, by omega⟩⟩)
      | (obtain ⟨c, r, h, hr⟩ := J 0 (by omega) 0 0 18 (by omega); exact ⟨c, r, h, by omega, .inr ⟨by omega, by omega⟩⟩)

theorem utf8_l0 (s : ByteArray) (hs : s.size ≤ 2147483647) (d : Nat) : ∀ (k i : Nat), i ≤ s.size → s.size - i ≤ d → d + 20 < k → ∃ b, spec_UTF8.l0 k s i = some b := by
  induction d with
  | zero =>
    intro k i h1 h2 hk
    obtain ⟨k, rfl⟩ : ∃ m, k = m + 1 := ⟨k - 1, by omega⟩
    exact ⟨true, by simp only [spec_UTF8.l0]; rw [if_neg (by omega)]⟩
  | succ d ih =>
    intro k i h1 h2 hk
    obtain ⟨k, rfl⟩ : ∃ m, k = m + 1 := ⟨k - 1, by omega⟩
    by_cases hlt : i < s.size
    · obtain ⟨c, r, h, hr, _⟩ := point_some s hs i hlt
      simp only [spec_UTF8.l0]
      rw [if_pos (by omega), h k (by omega)]
      simp only [Option.bind_some]
      rcases hr with rfl | ⟨r1, r2, r3⟩
      · exact ⟨false, by rw [if_pos rfl]⟩
      · rw [if_neg (by omega), w64 (by omega) (by omega)]
        obtain ⟨b, hb⟩ := ih k (i + r.toNat) (by omega) (by omega) (by omega)
        exact ⟨b, by rw [← hb]; congr 1; omega⟩
    · exact ⟨true, by simp only [spec_UTF8.l0]; rw [if_neg (by omega)]⟩

theorem utf8_some (s : ByteArray) (hs : s.size ≤ 2147483647) : ∃ b, ∀ k, s.size + 21 ≤ k → spec_UTF8.f k s = some b := by
  obtain ⟨b, hb⟩ := utf8_l0 s hs s.size (s.size + 21) 0 (by omega) (by omega) (by omega)
  exact ⟨b, fun k hk => at_rounds (g := fun k => spec_UTF8.f k s) (spec_UTF8.mono s) hk hb⟩

end Go.Proofs.YtbegljkhajagbaaGreatDoor.PFnCoerceFloat
