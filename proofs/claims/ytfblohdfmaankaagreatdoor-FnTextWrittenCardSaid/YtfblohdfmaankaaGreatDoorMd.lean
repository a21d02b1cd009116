/- FnTextWritten: several texts in one, in build order. FnTextWritten: what Point says at a place of a text: nothing, one byte below 128, or two to four bytes of 128 or more. No condition but that the text is of at most 2000 bytes. | FnTextWritten: what Quote writes of one point of a text. No condition. | FnTextWritten: what textable and blockable say of a text: its points, one behind the other. Condition: a text of at most 2000 bytes. | FnTextWritten: what the package and the reference make of the raw text of a block string: the same, wherever the reference is sure. Condition: a raw text of at most 2002 bytes. (FnBlockValue's own proof, turned to this seat.) -/
import Derived.Test.YtfblohdfmaankaaGreatDoorMa
import Derived.Laws.BitsLemmas
import Derived.Test.YtfblohdfmaankaaGreatDoorPFnTextWrittenx8
import Derived.Test.YtfblohdfmaankaaGreatDoorPblockStringValuex3
namespace Go.Proofs.YtfblohdfmaankaaGreatDoor.PFnTextWritten
open Go.RowKit Go.Proofs.YtfblohdfmaankaaGreatDoorW.PrintWords Go.Proofs.YtfblohdfmaankaaGreatDoorW.PrintLast Go.Proofs.YtfblohdfmaankaaGreatDoorW.PrintMore
set_option linter.unusedVariables false
set_option linter.unusedSimpArgs false
/-- What a point may be. -/
def PtOk (s : ByteArray) (i : Nat) (c n : Int) : Prop :=
  (c = 0 ∧ n = 0) ∨ (n = 1 ∧ c = bt s (i : Nat) ∧ bt s (i : Nat) < 128) ∨
  (n = 2 ∧ i + 2 ≤ s.size ∧ (128 ≤ bt s (i : Nat) ∧ 128 ≤ bt s ((i + 1 : Nat) : Int)) ∧ 128 ≤ c ∧ c < 65279) ∨
  (n = 3 ∧ i + 3 ≤ s.size ∧ (128 ≤ bt s (i : Nat) ∧ 128 ≤ bt s ((i + 1 : Nat) : Int) ∧ 128 ≤ bt s ((i + 2 : Nat) : Int)) ∧ 128 ≤ c ∧ (c = 65279 → bt s (i : Nat) = 239 ∧ bt s ((i + 1 : Nat) : Int) = 187 ∧ bt s ((i + 2 : Nat) : Int) = 191)) ∨
  (n = 4 ∧ i + 4 ≤ s.size ∧ (128 ≤ bt s (i : Nat) ∧ 128 ≤ bt s ((i + 1 : Nat) : Int) ∧ 128 ≤ bt s ((i + 2 : Nat) : Int) ∧ 128 ≤ bt s ((i + 3 : Nat) : Int)) ∧ 65536 ≤ c)
theorem p_none (k : Nat) (s : ByteArray) (i x4 x7 : Int) : spec_Point.j2 (k + 2) s i x4 0 x7 = some (0, 0) := by
  simp only [spec_Point.j2, spec_Point.j3]
  simp
/-- The loop's end. -/
def fin (c least n : Int) : Int × Int := if c < least then (0, 0) else if c > 1114111 then (0, 0) else if c ≥ 55296 then (if c < 57344 then (0, 0) else (c, n)) else (c, n)
theorem fin_cases (c least n : Int) : fin c least n = (0, 0) ∨ (fin c least n = (c, n) ∧ least ≤ c) := by
  unfold fin
  repeat' split
  all_goals first | exact .inl rfl | exact .inr ⟨rfl, by omega⟩
theorem p_end (k : Nat) (s : ByteArray) (i x4 x5 x7 x8 : Int) (h : ¬ x8 < wrap64 (i + x5)) : spec_Point.l0 (k + 1) s i x4 x5 x7 x8 = some (fin x4 x7 x5) := by
  simp only [spec_Point.l0]
  rw [if_neg h]
  unfold fin
  repeat' split
  all_goals rfl
theorem p_next (k : Nat) (s : ByteArray) (hs : s.size ≤ 2000) (i : Nat) (x4 x5 x7 : Int) (j : Nat) (hj : j < s.size) (h : (j : Int) < wrap64 ((i : Int) + x5)) (h4 : 0 ≤ x4 ∧ x4 ≤ 1000000) :
    spec_Point.l0 (k + 1) s i x4 x5 x7 (j : Int) = if 128 ≤ bt s (j : Int) ∧ bt s (j : Int) ≤ 191 then spec_Point.l0 k s i (x4 * 64 + bt s (j : Int) - 128) x5 x7 ((j + 1 : Nat) : Int) else some (0, 0) := by
  have hb := bt_range s (j : Int)
  simp only [spec_Point.l0]
  rw [if_pos h, if_pos (by omega), if_pos (by omega)]
  have e1 : wrap64 ((wrap64 ((wrap64 (x4 * 64)) + (wrap64 (bt s (j : Int))))) - 128) = x4 * 64 + bt s (j : Int) - 128 := by
    rw [w64 (x := x4 * 64) (by omega) (by omega), w64 (x := bt s (j : Int)) (by omega) (by omega), w64 (x := x4 * 64 + bt s (j : Int)) (by omega) (by omega), w64 (by omega) (by omega)]
  have e2 : wrap64 ((j : Int) + 1) = ((j + 1 : Nat) : Int) := by rw [w64 (by omega) (by omega)]; omega
  rw [e1, e2]
  by_cases h1 : bt s (j : Int) < 128
  · rw [if_pos h1, if_neg (by omega)]
  · rw [if_neg h1]
    by_cases h2 : bt s (j : Int) > 191
    · rw [if_pos h2, if_neg (by omega)]
    · rw [if_neg h2, if_pos (by omega)]
theorem p_start (k : Nat) (s : ByteArray) (hs : s.size ≤ 2000) (i : Nat) (hi : i < s.size) (x4 x7 : Int) (m : Nat) (hm : 1 ≤ m ∧ m ≤ 4) :
    spec_Point.j2 (k + 2) s (i : Int) x4 (m : Int) x7 = if s.size < i + m then some (0, 0) else spec_Point.l0 k s i x4 (m : Int) x7 ((i + 1 : Nat) : Int) := by
  have e1 : wrap64 ((i : Int) + (m : Int)) = ((i + m : Nat) : Int) := by rw [w64 (by omega) (by omega)]; omega
  have e2 : wrap64 ((i : Int) + 1) = ((i + 1 : Nat) : Int) := by rw [w64 (by omega) (by omega)]; omega
  simp only [spec_Point.j2, spec_Point.j3]
  rw [if_neg (by omega), e1, e2]
  by_cases h : s.size < i + m
  · rw [if_pos (decide_eq_true (by omega)), if_pos h]
  · rw [if_neg (by rw [decide_eq_true_eq]; omega), if_neg h]
theorem point_f (s : ByteArray) (hs : s.size ≤ 2000) (i : Nat) (hi : i < s.size) : ∃ c n, spec_Point.f 14 s (i : Int) = some (c, n) ∧ PtOk s i c n := by
  have hb := bt_range s (i : Int)
  have zero : ∀ c n, (c, n) = ((0 : Int), (0 : Int)) → PtOk s i c n := fun c n h => by
    injection h with h1 h2
    exact .inl ⟨h1, h2⟩
  have b1 := bt_range s ((i + 1 : Nat) : Int)
  have b2 := bt_range s ((i + 1 + 1 : Nat) : Int)
  have b3 := bt_range s ((i + 1 + 1 + 1 : Nat) : Int)
  unfold spec_Point.f
  rw [if_pos (by omega), if_pos (by omega), w64 (x := bt s (i : Int)) (by omega) (by omega)]
  by_cases h1 : bt s (i : Int) < 128
  · rw [if_pos h1]
    exact ⟨_, _, rfl, .inr (.inl ⟨rfl, rfl, h1⟩)⟩
  rw [if_neg h1]
  by_cases h2 : bt s (i : Int) ≥ 194
  · rw [if_pos h2]
    by_cases h3 : bt s (i : Int) < 224
    · simp only [spec_Point.j0]
      rw [if_pos (decide_eq_true h3), w64 (x := bt s (i : Int) - 192) (by omega) (by omega)]
      rw [show (2 : Int) = ((2 : Nat) : Int) from rfl, p_start 11 s hs i hi _ _ 2 (by omega)]
      by_cases h4 : s.size < i + 2
      · rw [if_pos h4]; exact ⟨_, _, rfl, zero _ _ rfl⟩
      rw [if_neg h4]
      have e2 : wrap64 ((i : Int) + ((2 : Nat) : Int)) = ((i + 2 : Nat) : Int) := by rw [w64 (by omega) (by omega)]; omega
      rw [p_next 10 s hs i _ _ _ (i + 1) (by omega) (by rw [e2]; omega) (by omega)]
      by_cases h5 : 128 ≤ bt s ((i + 1 : Nat) : Int) ∧ bt s ((i + 1 : Nat) : Int) ≤ 191
      · rw [if_pos h5, p_end 9 s _ _ _ _ _ (by rw [e2]; omega)]
        rcases fin_cases ((bt s (i : Int) - 192) * 64 + bt s ((i + 1 : Nat) : Int) - 128) 128 ((2 : Nat) : Int) with hf | ⟨hf, hl⟩
        · rw [hf]; exact ⟨_, _, rfl, zero _ _ rfl⟩
        · rw [hf]; exact ⟨_, _, rfl, .inr (.inr (.inl ⟨rfl, by omega, ⟨by omega, h5.1⟩, hl, by omega⟩))⟩
      · rw [if_neg h5]; exact ⟨_, _, rfl, zero _ _ rfl⟩
    · simp only [spec_Point.j0]
      rw [if_neg (by rw [decide_eq_true_eq]; exact h3), if_pos (by omega)]
      by_cases h4 : bt s (i : Int) < 240
      · simp only [spec_Point.j1]
        rw [if_pos (decide_eq_true h4), w64 (x := bt s (i : Int) - 224) (by omega) (by omega)]
        rw [show (3 : Int) = ((3 : Nat) : Int) from rfl, p_start 10 s hs i hi _ _ 3 (by omega)]
        by_cases h5 : s.size < i + 3
        · rw [if_pos h5]; exact ⟨_, _, rfl, zero _ _ rfl⟩
        rw [if_neg h5]
        have e2 : wrap64 ((i : Int) + ((3 : Nat) : Int)) = ((i + 3 : Nat) : Int) := by rw [w64 (by omega) (by omega)]; omega
        rw [p_next 9 s hs i _ _ _ (i + 1) (by omega) (by rw [e2]; omega) (by omega)]
        by_cases h6 : 128 ≤ bt s ((i + 1 : Nat) : Int) ∧ bt s ((i + 1 : Nat) : Int) ≤ 191
        · rw [if_pos h6, p_next 8 s hs i _ _ _ (i + 1 + 1) (by omega) (by rw [e2]; omega) (by omega)]
          by_cases h7 : 128 ≤ bt s ((i + 1 + 1 : Nat) : Int) ∧ bt s ((i + 1 + 1 : Nat) : Int) ≤ 191
          · rw [if_pos h7, p_end 7 s _ _ _ _ _ (by rw [e2]; omega)]
            rcases fin_cases (((bt s (i : Int) - 224) * 64 + bt s ((i + 1 : Nat) : Int) - 128) * 64 + bt s ((i + 1 + 1 : Nat) : Int) - 128) 2048 ((3 : Nat) : Int) with hf | ⟨hf, hl⟩
            · rw [hf]; exact ⟨_, _, rfl, zero _ _ rfl⟩
            · rw [hf]; exact ⟨_, _, rfl, .inr (.inr (.inr (.inl ⟨rfl, by omega, ⟨by omega, h6.1, h7.1⟩, by omega, fun hc => ⟨by omega, by omega, (by omega : bt s ((i + 1 + 1 : Nat) : Int) = 191)⟩⟩)))⟩
          · rw [if_neg h7]; exact ⟨_, _, rfl, zero _ _ rfl⟩
        · rw [if_neg h6]; exact ⟨_, _, rfl, zero _ _ rfl⟩
      · simp only [spec_Point.j1]
        rw [if_neg (by rw [decide_eq_true_eq]; exact h4), if_pos (by omega)]
        by_cases h5 : bt s (i : Int) < 245
        · rw [if_pos h5, w64 (x := bt s (i : Int) - 240) (by omega) (by omega)]
          rw [show (4 : Int) = ((4 : Nat) : Int) from rfl, p_start 10 s hs i hi _ _ 4 (by omega)]
          by_cases h6 : s.size < i + 4
          · rw [if_pos h6]; exact ⟨_, _, rfl, zero _ _ rfl⟩
          rw [if_neg h6]
          have e2 : wrap64 ((i : Int) + ((4 : Nat) : Int)) = ((i + 4 : Nat) : Int) := by rw [w64 (by omega) (by omega)]; omega
          rw [p_next 9 s hs i _ _ _ (i + 1) (by omega) (by rw [e2]; omega) (by omega)]
          by_cases h7 : 128 ≤ bt s ((i + 1 : Nat) : Int) ∧ bt s ((i + 1 : Nat) : Int) ≤ 191
          · rw [if_pos h7, p_next 8 s hs i _ _ _ (i + 1 + 1) (by omega) (by rw [e2]; omega) (by omega)]
            by_cases h8 : 128 ≤ bt s ((i + 1 + 1 : Nat) : Int) ∧ bt s ((i + 1 + 1 : Nat) : Int) ≤ 191
            · rw [if_pos h8, p_next 7 s hs i _ _ _ (i + 1 + 1 + 1) (by omega) (by rw [e2]; omega) (by omega)]
              by_cases h9 : 128 ≤ bt s ((i + 1 + 1 + 1 : Nat) : Int) ∧ bt s ((i + 1 + 1 + 1 : Nat) : Int) ≤ 191
              · rw [if_pos h9, p_end 6 s _ _ _ _ _ (by rw [e2]; omega)]
                rcases fin_cases ((((bt s (i : Int) - 240) * 64 + bt s ((i + 1 : Nat) : Int) - 128) * 64 + bt s ((i + 1 + 1 : Nat) : Int) - 128) * 64 + bt s ((i + 1 + 1 + 1 : Nat) : Int) - 128) 65536 ((4 : Nat) : Int) with hf | ⟨hf, hl⟩
                · rw [hf]; exact ⟨_, _, rfl, zero _ _ rfl⟩
                · rw [hf]; exact ⟨_, _, rfl, .inr (.inr (.inr (.inr ⟨rfl, by omega, ⟨by omega, h7.1, h8.1, h9.1⟩, hl⟩)))⟩
              · rw [if_neg h9]; exact ⟨_, _, rfl, zero _ _ rfl⟩
            · rw [if_neg h8]; exact ⟨_, _, rfl, zero _ _ rfl⟩
          · rw [if_neg h7]; exact ⟨_, _, rfl, zero _ _ rfl⟩
        · rw [if_neg h5, p_none 10]; exact ⟨_, _, rfl, zero _ _ rfl⟩
  · rw [if_neg h2]
    simp only [spec_Point.j0, spec_Point.j1]
    rw [if_neg (by decide), if_neg (by omega), if_neg (by decide), if_neg (by omega), p_none 10]
    exact ⟨_, _, rfl, zero _ _ rfl⟩
/-- At every greater depth it is the same. -/
theorem point_k (s : ByteArray) (hs : s.size ≤ 2000) (i : Nat) (hi : i < s.size) : ∃ c n, (∀ k, 14 ≤ k → spec_Point.f k s (i : Int) = some (c, n)) ∧ PtOk s i c n := by
  obtain ⟨c, n, h, hp⟩ := point_f s hs i hi
  refine ⟨c, n, fun k hk => ?_, hp⟩
  obtain ⟨m, rfl⟩ : ∃ m, k = 14 + m := ⟨k - 14, by omega⟩
  induction m with
  | zero => exact h
  | succ m ih => exact spec_Point.mono _ _ _ _ (ih (by omega))
end Go.Proofs.YtfblohdfmaankaaGreatDoor.PFnTextWritten
namespace Go.Proofs.YtfblohdfmaankaaGreatDoor.PFnTextWritten
open Go.RowKit Go.Proofs.YtfblohdfmaankaaGreatDoorW.PrintWords Go.Proofs.YtfblohdfmaankaaGreatDoorW.PrintLast Go.Proofs.YtfblohdfmaankaaGreatDoorW.PrintMore
set_option linter.unusedVariables false
set_option linter.unusedSimpArgs false
theorem i64_and15 (n : Int) : Go.bits .and .i64 n 15 = n % 16 := by
  have h127 : (BitVec.ofInt 64 15).toNat = 2 ^ 4 - 1 := by decide
  have key : (BitVec.ofInt 64 n &&& BitVec.ofInt 64 15).toNat = (n % ((2 ^ 64 : Nat) : Int)).toNat % 2 ^ 4 := by
    rw [BitVec.toNat_and, BitVec.toNat_ofInt, h127, Nat.and_two_pow_sub_one_eq_mod]
  show IntKind.i64.wrap ((BitVec.ofInt 64 n &&& BitVec.ofInt 64 15).toNat : Nat) = n % 16
  rw [key, IntKind.wrap_i64]
  omega
/-- The digits that Quote writes. -/
def DIG : ByteArray := ⟨#[48, 49, 50, 51, 52, 53, 54, 55, 56, 57, 97, 98, 99, 100, 101, 102]⟩
def dgs (h : Int) : ByteArray := DIG.extract h.toNat (h + 1).toNat
def esc (c : Int) : ByteArray := (((((⟨#[92, 117]⟩ : ByteArray) ++ dgs (c / 4096)) ++ dgs (c / 256 % 16)) ++ dgs (c / 16 % 16)) ++ dgs (c % 16))
def dv (h : Nat) : UInt8 := UInt8.ofNat (if h < 10 then 48 + h else 87 + h)
theorem dgs_eq (h : Nat) (hh : h < 16) : dgs (h : Int) = ⟨#[dv h]⟩ := by
  have key : ∀ h : Fin 16, (DIG.data.extract ((h.val : Int)).toNat ((h.val : Int) + 1).toNat) = #[dv h.val] := by decide
  unfold dgs
  apply ByteArray.ext
  rw [ByteArray.data_extract]
  exact key ⟨h, hh⟩
theorem esc_eq (c : Nat) (hc : c ≤ 65535) : esc (c : Int) = ⟨#[92, 117, dv (c / 4096), dv (c / 256 % 16), dv (c / 16 % 16), dv (c % 16)]⟩ := by
  unfold esc
  rw [show ((c : Int) / 4096) = ((c / 4096 : Nat) : Int) by omega, show ((c : Int) / 256 % 16) = ((c / 256 % 16 : Nat) : Int) by omega, show ((c : Int) / 16 % 16) = ((c / 16 % 16 : Nat) : Int) by omega, show ((c : Int) % 16) = ((c % 16 : Nat) : Int) by omega, dgs_eq _ (by omega), dgs_eq _ (by omega), dgs_eq _ (by omega), dgs_eq _ (by omega)]
  rfl
theorem dv_dg (h : Nat) (hh : h < 16) : Dg ((dv h).toNat : Int) := by
  have key : ∀ h : Fin 16, (48 ≤ (dv h.val).toNat ∧ (dv h.val).toNat ≤ 57) ∨ (97 ≤ (dv h.val).toNat ∧ (dv h.val).toNat ≤ 102) := by decide
  have := key ⟨h, hh⟩
  unfold Dg
  simp only at this
  omega
theorem ud_lo : ∀ c : Fin 128, ud (dv (c.val / 4096)) (dv (c.val / 256 % 16)) (dv (c.val / 16 % 16)) (dv (c.val % 16)) = (c.val : Int) := by decide +kernel
theorem ud_bom : ud (dv (65279 / 4096)) (dv (65279 / 256 % 16)) (dv (65279 / 16 % 16)) (dv (65279 % 16)) = 65279 := by decide +kernel
theorem enc_lo : ∀ c : Fin 128, Go.Lib.encodeRune (c.val : Int) = [UInt8.ofNat c.val] := by decide
theorem enc_bom : Go.Lib.encodeRune 65279 = [239, 187, 191] := by decide
theorem sz_cut (a b : Nat) : (DIG.extract a b).size ≤ 16 := by rw [ByteArray.size_extract]; show min b 16 - a ≤ 16; omega
theorem j1_esc (k : Nat) (s acc : ByteArray) (i c n : Int) (hc : (0 ≤ c ∧ c < 32) ∨ c = 127 ∨ c = 65279) (ha : acc.size ≤ 100000) :
    spec_Quote.j1 (k + 1) s acc i c n false = spec_Quote.l0 k s (acc ++ esc c) (wrap64 (i + n)) := by
  have q1 : wrap64 (c / 4096 + 1) = c / 4096 + 1 := w64 (by omega) (by omega)
  have q2 : wrap64 (c / 256 % 16 + 1) = c / 256 % 16 + 1 := w64 (by omega) (by omega)
  have q3 : wrap64 (c / 16 % 16 + 1) = c / 16 % 16 + 1 := w64 (by omega) (by omega)
  have q4 : wrap64 (c % 16 + 1) = c % 16 + 1 := w64 (by omega) (by omega)
  have d1 := sz_cut (c / 4096).toNat (c / 4096 + 1).toNat
  have d2 := sz_cut (c / 256 % 16).toNat (c / 256 % 16 + 1).toNat
  have d3 := sz_cut (c / 16 % 16).toNat (c / 16 % 16 + 1).toNat
  have d4 := sz_cut (c % 16).toNat (c % 16 + 1).toNat
  have d0 : (⟨#[92, 117]⟩ : ByteArray).size = 2 := rfl
  have hD : (⟨#[48, 49, 50, 51, 52, 53, 54, 55, 56, 57, 97, 98, 99, 100, 101, 102]⟩ : ByteArray) = DIG := rfl
  unfold esc dgs
  simp only [spec_Quote.j1, i64_and15, q1, q2, q3, q4, hD]
  rw [if_neg (by decide)]
  clear q1 q2 q3 q4 hD
  rcases hc with hc | rfl | rfl
  · rw [if_pos hc.2]
    repeat rw [if_pos (by first | omega | (simp only [ByteArray.size_append]; omega))]
  · rw [if_neg (by decide), if_pos rfl]
    repeat rw [if_pos (by first | omega | (simp only [ByteArray.size_append]; omega))]
  · rw [if_neg (by decide), if_neg (by decide), if_pos rfl]
    repeat rw [if_pos (by first | omega | (simp only [ByteArray.size_append]; omega))]
theorem ba_app (l r : List UInt8) : (⟨l.toArray⟩ : ByteArray) ++ ⟨r.toArray⟩ = ⟨(l ++ r).toArray⟩ := by
  apply ByteArray.ext
  rw [ByteArray.data_append]
  simp
theorem ext_dr (s : ByteArray) (i j : Nat) (h : i ≤ j) : s.extract i j = ⟨((dr s i).take (j - i)).toArray⟩ := by
  apply ByteArray.ext
  rw [ByteArray.data_extract]
  apply Array.toList_inj.1
  rw [Array.toList_extract, List.extract_eq_take_drop]
  rfl
theorem j1_true (k : Nat) (s acc : ByteArray) (hs : s.size ≤ 2000) (i : Nat) (hi : i < s.size) (c n : Int) (ha : acc.size ≤ 100000) :
    spec_Quote.j1 (k + 1) s acc (i : Int) c n true = spec_Quote.l0 k s (acc ++ ((⟨#[92]⟩ : ByteArray) ++ s.extract i (i + 1))) (wrap64 ((i : Int) + n)) := by
  have q1 : wrap64 ((i : Int) + 1) = ((i + 1 : Nat) : Int) := by rw [w64 (by omega) (by omega)]; omega
  have d1 : (s.extract i (i + 1)).size ≤ 2000 := by rw [ByteArray.size_extract]; omega
  have d0 : (⟨#[92]⟩ : ByteArray).size = 1 := rfl
  simp only [spec_Quote.j1, q1, Int.toNat_natCast]
  clear q1
  rw [if_pos (by trivial)]
  repeat rw [if_pos (by first | omega | (simp only [ByteArray.size_append]; omega))]
theorem j1_plain (k : Nat) (s acc : ByteArray) (hs : s.size ≤ 2000) (i m : Nat) (hi : i + m ≤ s.size) (c : Int) (h1 : ¬ c < 32) (h2 : ¬ c = 127) (h3 : ¬ c = 65279) (ha : acc.size ≤ 100000) :
    spec_Quote.j1 (k + 1) s acc (i : Int) c (m : Int) false = spec_Quote.l0 k s (acc ++ s.extract i (i + m)) ((i + m : Nat) : Int) := by
  have q1 : wrap64 ((i : Int) + (m : Int)) = ((i + m : Nat) : Int) := by rw [w64 (by omega) (by omega)]; omega
  have d1 : (s.extract i (i + m)).size ≤ 2000 := by rw [ByteArray.size_extract]; omega
  simp only [spec_Quote.j1, q1, Int.toNat_natCast]
  clear q1
  rw [if_neg (by decide), if_neg h1, if_neg h2, if_neg h3]
  repeat rw [if_pos (by first | omega | (simp only [ByteArray.size_append]; omega))]
theorem qt_take (s : ByteArray) : ∀ (m i : Nat) (r : List UInt8), (∀ j : Nat, j < m → 128 ≤ bt s ((i + j : Nat) : Int)) → i + m ≤ s.size → Qt (dr s (i + m)) r → Qt (dr s i) ((dr s i).take m ++ r) := by
  intro m
  induction m with
  | zero => intro i r _ _ h; simpa using h
  | succ m ih =>
    intro i r hb hi h
    obtain ⟨b, hbd⟩ := dr_byte s i (by omega)
    have h0 := hb 0 (by omega)
    rw [Nat.add_zero, (dr_cons s i b _ hbd).2.1] at h0
    rw [hbd]
    refine .plain (.inl (by omega)) ?_
    refine ih (i + 1) r (fun j hj => ?_) (by omega) (by rw [show i + 1 + m = i + (m + 1) by omega]; exact h)
    have := hb (j + 1) (by omega)
    rw [show i + (j + 1) = i + 1 + j by omega] at this
    exact this
/-- A text whose points are all such as a string may hold. -/
inductive Tx (s : ByteArray) : Nat → Prop
  | done : Tx s s.size
  | step {i m : Nat} {c : Int} : i < s.size → (∀ k, 14 ≤ k → spec_Point.f k s (i : Int) = some (c, (m : Int))) → PtOk s i c (m : Int) → m ≠ 0 → c ≤ 65535 → Tx s (i + m) → Tx s i
theorem quote_tx (s : ByteArray) (hs : s.size ≤ 2000) (i : Nat) (h : Tx s i) : i ≤ s.size ∧ ∃ r : List UInt8, Qt (dr s i) r ∧ r.length ≤ 6 * (s.size - i) + 1 ∧ ∀ (k : Nat) (acc : ByteArray), 2 * (s.size - i) + 17 ≤ k → acc.size + 6 * (s.size - i) ≤ 50000 → spec_Quote.l0 k s acc (i : Int) = some (acc ++ ⟨r.toArray⟩) := by
  induction h with
  | done =>
    refine ⟨Nat.le_refl _, [34], ?_, by simp, fun k acc hk ha => ?_⟩
    · rw [show dr s s.size = [] from List.drop_eq_nil_of_le (by simp)]; exact .done
    · obtain ⟨k, rfl⟩ : ∃ m, k = m + 1 := ⟨k - 1, by omega⟩
      simp only [spec_Quote.l0]
      rw [if_neg (by omega), if_pos (by omega)]
  | @step i m c hi hf hp hm hc _ ih =>
    obtain ⟨hle, r', hq, hl, hrec⟩ := ih
    refine ⟨by omega, ?_⟩
    -- what the loop does first
    have head : ∀ (k : Nat) (acc : ByteArray), 17 ≤ k → spec_Quote.l0 (k + 1) s acc (i : Int) = if c = 34 then spec_Quote.j1 k s acc (i : Int) c (m : Int) true else spec_Quote.j1 k s acc (i : Int) c (m : Int) (c == 92) := by
      intro k acc hk
      simp only [spec_Quote.l0]
      rw [if_pos (by omega), hf k (by omega)]
      simp only [Option.bind_some]
      rw [if_neg (by omega)]
    -- a piece written
    have tail : ∀ (X : List UInt8), X.length ≤ 6 * m → ∀ (k : Nat) (acc : ByteArray), 2 * (s.size - i) + 15 ≤ k → acc.size + 6 * (s.size - i) ≤ 50000 → spec_Quote.l0 k s (acc ++ ⟨X.toArray⟩) ((i + m : Nat) : Int) = some (acc ++ ⟨(X ++ r').toArray⟩) := by
      intro X hX k acc hk ha
      have hsz : (⟨X.toArray⟩ : ByteArray).size = X.length := by simp [ByteArray.size]
      rw [hrec k (acc ++ ⟨X.toArray⟩) (by omega) (by rw [ByteArray.size_append, hsz]; omega), ByteArray.append_assoc, ba_app X r']
    have ew : wrap64 ((i : Int) + (m : Int)) = ((i + m : Nat) : Int) := by rw [w64 (by omega) (by omega)]; omega
    have high : 128 ≤ c → i + m ≤ s.size → (∀ j : Nat, j < m → 128 ≤ bt s ((i + j : Nat) : Int)) → c ≠ 65279 → ∃ r : List UInt8, Qt (dr s i) r ∧ r.length ≤ 6 * (s.size - i) + 1 ∧ ∀ (k : Nat) (acc : ByteArray), 2 * (s.size - i) + 17 ≤ k → acc.size + 6 * (s.size - i) ≤ 50000 → spec_Quote.l0 k s acc (i : Int) = some (acc ++ ⟨r.toArray⟩) := by
      intro hc1 him hall hne
      have hlen : ((dr s i).take m).length ≤ m := by rw [List.length_take]; omega
      refine ⟨(dr s i).take m ++ r', qt_take s m i r' hall him hq, by rw [List.length_append]; omega, fun k acc hk ha => ?_⟩
      obtain ⟨k, rfl⟩ : ∃ m, k = m + 2 := ⟨k - 2, by omega⟩
      rw [head (k + 1) acc (by omega), if_neg (by omega), show (c == 92) = false by rw [beq_eq_false_iff_ne]; omega, j1_plain k s acc hs i m him c (by omega) (by omega) hne (by omega), ext_dr s i (i + m) (by omega), show i + m - i = m by omega]
      exact tail _ (by omega) k acc (by omega) ha
    rcases hp with ⟨_, h0⟩ | ⟨hn, hcb, hlt⟩ | ⟨hn, hsz, ⟨g0, g1⟩, hc1, hc2⟩ | ⟨hn, hsz, ⟨g0, g1, g2⟩, hc1, hbom⟩ | ⟨hn, hsz, g, hc1⟩
    · omega
    · have hm1 : m = 1 := by omega
      subst hm1
      obtain ⟨b, hbd⟩ := dr_byte s i hi
      have hbt := (dr_cons s i b _ hbd).2.1
      have hcv : c = (b.toNat : Int) := by rw [hcb, hbt]
      have hb : b.toNat < 128 := by rw [hbt] at hlt; omega
      by_cases hesc : c = 34 ∨ c = 92
      · refine ⟨92 :: b :: r', by rw [hbd]; exact .esc1 (by rcases hesc with h | h; exact .inl (UInt8.toNat_inj.mp (by rw [show (34 : UInt8).toNat = 34 from rfl]; omega)); exact .inr (UInt8.toNat_inj.mp (by rw [show (92 : UInt8).toNat = 92 from rfl]; omega))) hq, by simp only [List.length_cons]; omega, fun k acc hk ha => ?_⟩
        obtain ⟨k, rfl⟩ : ∃ m, k = m + 2 := ⟨k - 2, by omega⟩
        have e : spec_Quote.l0 (k + 2) s acc (i : Int) = spec_Quote.j1 (k + 1) s acc (i : Int) c ((1 : Nat) : Int) true := by
          rw [head (k + 1) acc (by omega)]
          rcases hesc with h | h
          · rw [if_pos h]
          · rw [if_neg (by omega), show (c == 92) = true by rw [beq_iff_eq]; exact h]
        rw [e, j1_true k s acc hs i hi c _ (by omega), ew, ext_dr s i (i + 1) (by omega), show i + 1 - i = 1 by omega, hbd, show (⟨#[92]⟩ : ByteArray) = ⟨[92].toArray⟩ from rfl, ba_app]
        exact tail [92, b] (by simp) k acc (by omega) ha
      · have hn34 : ¬ c = 34 := fun h => hesc (.inl h)
        have hn92 : ¬ c = 92 := fun h => hesc (.inr h)
        have hb92 : (c == 92) = false := by rw [beq_eq_false_iff_ne]; exact hn92
        by_cases hctl : c < 32 ∨ c = 127
        · have hcn : b.toNat < 128 := hb
          have ud1 := ud_lo ⟨b.toNat, hcn⟩
          have en1 := enc_lo ⟨b.toNat, hcn⟩
          simp only at ud1 en1
          have hbb : UInt8.ofNat b.toNat = b := by simp
          rw [hbb] at en1
          refine ⟨92 :: 117 :: dv (b.toNat / 4096) :: dv (b.toNat / 256 % 16) :: dv (b.toNat / 16 % 16) :: dv (b.toNat % 16) :: r', ?_, by simp only [List.length_cons]; omega, fun k acc hk ha => ?_⟩
          · have hq2 := Qt.escu (a := dv (b.toNat / 4096)) (b := dv (b.toNat / 256 % 16)) (c := dv (b.toNat / 16 % 16)) (d := dv (b.toNat % 16)) ⟨dv_dg _ (by omega), dv_dg _ (by omega), dv_dg _ (by omega), dv_dg _ (by omega)⟩ (by rw [ud1]; omega) hq
            rw [ud1, en1] at hq2
            rw [hbd]
            exact hq2
          · obtain ⟨k, rfl⟩ : ∃ m, k = m + 2 := ⟨k - 2, by omega⟩
            rw [head (k + 1) acc (by omega), if_neg hn34, hb92, j1_esc k s acc _ c _ (by omega) (by omega), ew, hcv, esc_eq b.toNat (by omega)]
            exact tail [92, 117, dv (b.toNat / 4096), dv (b.toNat / 256 % 16), dv (b.toNat / 16 % 16), dv (b.toNat % 16)] (by simp) k acc (by omega) ha
        · refine ⟨b :: r', by rw [hbd]; exact .plain (.inr ⟨by omega, by omega, by omega, by omega⟩) hq, by simp only [List.length_cons]; omega, fun k acc hk ha => ?_⟩
          obtain ⟨k, rfl⟩ : ∃ m, k = m + 2 := ⟨k - 2, by omega⟩
          rw [head (k + 1) acc (by omega), if_neg hn34, hb92, j1_plain k s acc hs i 1 (by omega) c (by omega) (by omega) (by omega) (by omega), ext_dr s i (i + 1) (by omega), show i + 1 - i = 1 by omega, hbd]
          exact tail [b] (by simp) k acc (by omega) ha
    · have hm2 : m = 2 := by omega
      subst hm2
      exact high hc1 hsz (fun j hj => by rcases (show j = 0 ∨ j = 1 by omega) with rfl | rfl; exact g0; exact g1) (by omega)
    · have hm3 : m = 3 := by omega
      subst hm3
      by_cases hb : c = 65279
      · obtain ⟨e0, e1, e2⟩ := hbom hb
        obtain ⟨b0, hb0⟩ := dr_byte s i (by omega)
        obtain ⟨b1, hb1⟩ := dr_byte s (i + 1) (by omega)
        obtain ⟨b2, hb2⟩ := dr_byte s (i + 1 + 1) (by omega)
        have v0 := (dr_cons s i b0 _ hb0).2.1
        have v1 := (dr_cons s (i + 1) b1 _ hb1).2.1
        have v2 := (dr_cons s (i + 1 + 1) b2 _ hb2).2.1
        have u0 : b0 = 239 := UInt8.toNat_inj.mp (by rw [show (239 : UInt8).toNat = 239 from rfl]; omega)
        have u1 : b1 = 187 := UInt8.toNat_inj.mp (by rw [show (187 : UInt8).toNat = 187 from rfl]; omega)
        have u2 : b2 = 191 := UInt8.toNat_inj.mp (by rw [show (191 : UInt8).toNat = 191 from rfl]; rw [show i + 1 + 1 = i + 2 by omega] at v2; omega)
        refine ⟨92 :: 117 :: dv (65279 / 4096) :: dv (65279 / 256 % 16) :: dv (65279 / 16 % 16) :: dv (65279 % 16) :: r', ?_, by simp only [List.length_cons]; omega, fun k acc hk ha => ?_⟩
        · have hq2 := Qt.escu (a := dv (65279 / 4096)) (b := dv (65279 / 256 % 16)) (c := dv (65279 / 16 % 16)) (d := dv (65279 % 16)) ⟨dv_dg _ (by omega), dv_dg _ (by omega), dv_dg _ (by omega), dv_dg _ (by omega)⟩ (by rw [ud_bom]; omega) hq
          rw [ud_bom, enc_bom] at hq2
          rw [hb0, hb1, hb2, u0, u1, u2]
          exact hq2
        · obtain ⟨k, rfl⟩ : ∃ m, k = m + 2 := ⟨k - 2, by omega⟩
          rw [head (k + 1) acc (by omega), if_neg (by omega), show (c == 92) = false by rw [beq_eq_false_iff_ne]; omega, j1_esc k s acc _ c _ (by omega) (by omega), ew, hb, show ((65279 : Int)) = ((65279 : Nat) : Int) from rfl, esc_eq 65279 (by omega)]
          exact tail [92, 117, dv (65279 / 4096), dv (65279 / 256 % 16), dv (65279 / 16 % 16), dv (65279 % 16)] (by simp) k acc (by omega) ha
      · exact high hc1 hsz (fun j hj => by rcases (show j = 0 ∨ j = 1 ∨ j = 2 by omega) with rfl | rfl | rfl; exact g0; exact g1; exact g2) hb
    · omega
end Go.Proofs.YtfblohdfmaankaaGreatDoor.PFnTextWritten
namespace Go.Proofs.YtfblohdfmaankaaGreatDoor.PFnTextWritten
open Go.RowKit Go.Proofs.YtfblohdfmaankaaGreatDoorW.PrintWords Go.Proofs.YtfblohdfmaankaaGreatDoorW.PrintLast Go.Proofs.YtfblohdfmaankaaGreatDoorW.PrintMore
set_option linter.unusedVariables false
set_option linter.unusedSimpArgs false
theorem pt_nat {s : ByteArray} {i : Nat} {c n : Int} (hi : i < s.size) (h : PtOk s i c n) : n = 0 ∨ ∃ m : Nat, n = (m : Int) ∧ 1 ≤ m ∧ i + m ≤ s.size := by
  rcases h with ⟨_, h⟩ | ⟨h, _⟩ | ⟨h, h2, _⟩ | ⟨h, h2, _⟩ | ⟨h, h2, _⟩
  · exact .inl h
  · exact .inr ⟨1, h, by omega, by omega⟩
  · exact .inr ⟨2, h, by omega, by omega⟩
  · exact .inr ⟨3, h, by omega, by omega⟩
  · exact .inr ⟨4, h, by omega, by omega⟩
theorem textable_l (s : ByteArray) (hs : s.size ≤ 2000) : ∀ (d i : Nat), i ≤ s.size → s.size - i ≤ d → ∃ b, (∀ k, d + 16 ≤ k → spec_textable.l0 k s (i : Int) = some b) ∧ (b = true → Tx s i) := by
  intro d
  induction d with
  | zero =>
    intro i hi hd
    obtain rfl : i = s.size := by omega
    refine ⟨true, fun k hk => ?_, fun _ => .done⟩
    obtain ⟨k, rfl⟩ : ∃ m, k = m + 1 := ⟨k - 1, by omega⟩
    simp only [spec_textable.l0]
    rw [if_neg (by omega)]
  | succ d ih =>
    intro i hi hd
    by_cases hlt : i < s.size
    · obtain ⟨c, n, hf, hp⟩ := point_k s hs i hlt
      have head : ∀ k, d + 16 ≤ k → spec_textable.l0 (k + 1) s (i : Int) = (if n = 0 then (some false) else (if c = 0 then (some false) else (if c > 65535 then (some false) else (spec_textable.l0 k s (wrap64 ((i : Int) + n)))))) := by
        intro k hk
        simp only [spec_textable.l0]
        rw [if_pos (by omega), hf k (by omega)]
        rfl
      rcases pt_nat hlt hp with rfl | ⟨m, rfl, hm1, hm2⟩
      · refine ⟨false, fun k hk => ?_, fun h => by cases h⟩
        obtain ⟨k, rfl⟩ : ∃ m, k = m + 1 := ⟨k - 1, by omega⟩
        rw [head k (by omega), if_pos rfl]
      by_cases hc0 : c = 0
      · refine ⟨false, fun k hk => ?_, fun h => by cases h⟩
        obtain ⟨k, rfl⟩ : ∃ m, k = m + 1 := ⟨k - 1, by omega⟩
        rw [head k (by omega), if_neg (by omega), if_pos hc0]
      by_cases hc1 : c > 65535
      · refine ⟨false, fun k hk => ?_, fun h => by cases h⟩
        obtain ⟨k, rfl⟩ : ∃ m, k = m + 1 := ⟨k - 1, by omega⟩
        rw [head k (by omega), if_neg (by omega), if_neg hc0, if_pos hc1]
      obtain ⟨b, hb1, hb2⟩ := ih (i + m) hm2 (by omega)
      refine ⟨b, fun k hk => ?_, fun h => .step hlt hf hp (by omega) (by omega) (hb2 h)⟩
      obtain ⟨k, rfl⟩ : ∃ m, k = m + 1 := ⟨k - 1, by omega⟩
      rw [head k (by omega), if_neg (by omega), if_neg hc0, if_neg hc1, show wrap64 ((i : Int) + (m : Int)) = ((i + m : Nat) : Int) by rw [w64 (by omega) (by omega)]; omega]
      exact hb1 k (by omega)
    · obtain rfl : i = s.size := by omega
      refine ⟨true, fun k hk => ?_, fun _ => .done⟩
      obtain ⟨k, rfl⟩ : ∃ m, k = m + 1 := ⟨k - 1, by omega⟩
      simp only [spec_textable.l0]
      rw [if_neg (by omega)]
theorem textable_tx (s : ByteArray) (hs : s.size ≤ 2000) : ∃ b, (∀ k, 2016 ≤ k → spec_textable.f k s = some b) ∧ (b = true → Tx s 0) := by
  obtain ⟨b, h1, h2⟩ := textable_l s hs 2000 0 (by omega) (by omega)
  exact ⟨b, fun k hk => h1 k (by omega), h2⟩
/-- Three quotes. -/
def q3 : ByteArray := ⟨#[34, 34, 34]⟩
/-- Three quotes stand at a place. -/
def Q3 (s : ByteArray) (i : Nat) : Prop := i + 3 ≤ s.size ∧ bt s (i : Nat) = 34 ∧ bt s ((i + 1 : Nat) : Int) = 34 ∧ bt s ((i + 2 : Nat) : Int) = 34
theorem starts_q (s : ByteArray) (hs : s.size ≤ 2000) (i : Nat) (hi : i < s.size) : ∃ b, spec_starts.f s (i : Int) q3 = some b ∧ (b = true ↔ Q3 s i) := by
  have e : wrap64 ((i : Int) + (q3.size : Int)) = ((i + 3 : Nat) : Int) := by
    rw [show ((q3.size : Nat) : Int) = 3 from rfl, w64 (by omega) (by omega)]; omega
  unfold spec_starts.f
  rw [e]
  by_cases h : i + 3 ≤ s.size
  · rw [if_pos (by omega), if_pos (by omega), if_pos (by omega)]
    refine ⟨_, rfl, ?_⟩
    obtain ⟨b0, h0⟩ := dr_byte s i (by omega)
    obtain ⟨b1, h1⟩ := dr_byte s (i + 1) (by omega)
    obtain ⟨b2, h2⟩ := dr_byte s (i + 1 + 1) (by omega)
    have v0 := (dr_cons s i b0 _ h0).2.1
    have v1 := (dr_cons s (i + 1) b1 _ h1).2.1
    have v2 := (dr_cons s (i + 1 + 1) b2 _ h2).2.1
    rw [show i + 1 + 1 = i + 2 by omega] at v2
    simp only [Int.toNat_natCast]
    rw [ext_dr s i (i + 3) (by omega), show i + 3 - i = 3 by omega, h0, h1, h2, beq_iff_eq, ByteArray.toList_eq, ByteArray.toList_eq]
    show [b0, b1, b2] = [34, 34, 34] ↔ _
    unfold Q3
    rw [v0, v1, v2]
    have key : ∀ b : UInt8, b = 34 ↔ (b.toNat : Int) = 34 := fun b => by
      constructor
      · rintro rfl; rfl
      · intro hb; exact UInt8.toNat_inj.mp (by rw [show (34 : UInt8).toNat = 34 from rfl]; omega)
    simp only [List.cons.injEq, and_true, key]
    constructor
    · rintro ⟨a, b, c⟩; exact ⟨h, a, b, c⟩
    · rintro ⟨_, a, b, c⟩; exact ⟨a, b, c⟩
  · rw [if_neg (by omega)]
    exact ⟨false, rfl, by constructor; intro h; cases h; intro hq; exact absurd hq.1 h⟩
/-- A text whose points are all such as a block string may hold, without three quotes. -/
inductive Bx (s : ByteArray) : Nat → Prop
  | done : Bx s s.size
  | step {i m : Nat} {c : Int} : i < s.size → PtOk s i c (m : Int) → m ≠ 0 → (c = 9 ∨ c = 10 ∨ 32 ≤ c) → ¬ Q3 s i → Bx s (i + m) → Bx s i
/-- What blockable asks behind the last point. -/
def bfin (k : Nat) (s : ByteArray) : Option Bool := (spec_BlockValue.f k (((⟨#[10]⟩ : ByteArray) ++ s) ++ (⟨#[10]⟩ : ByteArray))).bind fun t254 => (if t254.toList = s.toList then ((spec_plainBlock.f k (((⟨#[10]⟩ : ByteArray) ++ s) ++ (⟨#[10]⟩ : ByteArray))).bind fun t255 => (some t255)) else (some false))
theorem bend (k : Nat) (s : ByteArray) (hs : s.size ≤ 2000) : spec_blockable.l0 (k + 1) s (s.size : Int) = bfin k s := by
  simp only [spec_blockable.l0]
  have d0 : (⟨#[10]⟩ : ByteArray).size = 1 := rfl
  rw [if_neg (by omega), if_pos (by omega), if_pos (by simp only [ByteArray.size_append]; omega)]
  rfl
theorem blockable_l (s : ByteArray) (hs : s.size ≤ 2000) (K : Nat) (b0 : Bool) (hfin : ∀ k, K ≤ k → bfin k s = some b0) : ∀ (d i : Nat), i ≤ s.size → s.size - i ≤ d → ∃ b, (∀ k, K + d + 16 ≤ k → spec_blockable.l0 k s (i : Int) = some b) ∧ (b = true → b0 = true ∧ Bx s i) := by
  intro d
  induction d with
  | zero =>
    intro i hi hd
    obtain rfl : i = s.size := by omega
    refine ⟨b0, fun k hk => ?_, fun h => ⟨h, .done⟩⟩
    obtain ⟨k, rfl⟩ : ∃ m, k = m + 1 := ⟨k - 1, by omega⟩
    rw [bend k s hs, hfin k (by omega)]
  | succ d ih =>
    intro i hi hd
    by_cases hlt : i < s.size
    · obtain ⟨c, n, hf, hp⟩ := point_k s hs i hlt
      obtain ⟨bq, hq1, hq2⟩ := starts_q s hs i hlt
      have fal : (∀ k, K + d + 16 ≤ k → spec_blockable.l0 (k + 1) s (i : Int) = some false) → ∃ b, (∀ k, K + (d + 1) + 16 ≤ k → spec_blockable.l0 k s (i : Int) = some b) ∧ (b = true → b0 = true ∧ Bx s i) := fun h =>
        ⟨false, fun k hk => by obtain ⟨k, rfl⟩ : ∃ m, k = m + 1 := ⟨k - 1, by omega⟩; exact h k (by omega), fun h => by cases h⟩
      have head : ∀ k, K + d + 16 ≤ k → (c = 9 ∨ c = 10 ∨ 32 ≤ c) → spec_blockable.l0 (k + 1) s (i : Int) = (if n = 0 then (some false) else (if c = 127 then (some false) else (if c = 65279 then (some false) else (if c > 65535 then (some false) else (if bq = true then (some false) else (spec_blockable.l0 k s (wrap64 ((i : Int) + n)))))))) := by
        intro k hk hc
        simp only [spec_blockable.l0]
        rw [if_pos (by omega), hf k (by omega)]
        simp only [Option.bind_some]
        rw [show (⟨#[34, 34, 34]⟩ : ByteArray) = q3 from rfl, hq1]
        simp only [Option.bind_some]
        by_cases h9 : c = 9
        · rw [if_pos h9]
        rw [if_neg h9]
        by_cases h10 : c = 10
        · rw [if_pos h10]
        rw [if_neg h10, if_neg (show ¬ c < 32 by omega)]
      by_cases hch : c = 9 ∨ c = 10 ∨ 32 ≤ c
      · rcases pt_nat hlt hp with rfl | ⟨m, rfl, hm1, hm2⟩
        · exact fal fun k hk => by rw [head k hk hch, if_pos rfl]
        by_cases h1 : c = 127
        · exact fal fun k hk => by rw [head k hk hch, if_neg (by omega), if_pos h1]
        by_cases h2 : c = 65279
        · exact fal fun k hk => by rw [head k hk hch, if_neg (by omega), if_neg h1, if_pos h2]
        by_cases h3 : c > 65535
        · exact fal fun k hk => by rw [head k hk hch, if_neg (by omega), if_neg h1, if_neg h2, if_pos h3]
        cases bq with
        | true => exact fal fun k hk => by rw [head k hk hch, if_neg (by omega), if_neg h1, if_neg h2, if_neg h3, if_pos rfl]
        | false =>
          obtain ⟨b, hb1, hb2⟩ := ih (i + m) hm2 (by omega)
          refine ⟨b, fun k hk => ?_, fun h => ⟨(hb2 h).1, .step hlt hp (by omega) hch (fun hQ => by have := hq2.2 hQ; cases this) (hb2 h).2⟩⟩
          obtain ⟨k, rfl⟩ : ∃ m, k = m + 1 := ⟨k - 1, by omega⟩
          rw [head k (by omega) hch, if_neg (by omega), if_neg h1, if_neg h2, if_neg h3, if_neg (by decide), show wrap64 ((i : Int) + (m : Int)) = ((i + m : Nat) : Int) by rw [w64 (by omega) (by omega)]; omega]
          exact hb1 k (by omega)
      · refine fal fun k hk => ?_
        simp only [spec_blockable.l0]
        rw [if_pos (by omega), hf k (by omega)]
        simp only [Option.bind_some]
        by_cases hn : n = 0
        · rw [if_pos hn]
        · rw [if_neg hn, if_neg (fun h => hch (.inl h)), if_neg (fun h => hch (.inr (.inl h))), if_pos (by omega)]
    · obtain rfl : i = s.size := by omega
      refine ⟨b0, fun k hk => ?_, fun h => ⟨h, .done⟩⟩
      obtain ⟨k, rfl⟩ : ∃ m, k = m + 1 := ⟨k - 1, by omega⟩
      rw [bend k s hs, hfin k (by omega)]
end Go.Proofs.YtfblohdfmaankaaGreatDoor.PFnTextWritten
namespace Go.Proofs.YtfblohdfmaankaaGreatDoor.PFnTextWritten
open Go.RowKit Go.Proofs.YtfblohdfmaankaaGreatDoor.PblockStringValue Go.Proofs.YtfblohdfmaankaaGreatDoorW.PrintWords Go.Proofs.YtfblohdfmaankaaGreatDoorW.PrintLast Go.Proofs.YtfblohdfmaankaaGreatDoorW.PrintMore
set_option linter.unusedVariables false
set_option linter.unusedSimpArgs false
theorem ext_size (s : ByteArray) (a b : Nat) : (s.extract a b).size ≤ s.size := by rw [ByteArray.size_extract]; omega

theorem lines_both (s : ByteArray) (hs : s.size ≤ 2002) (d : Nat) : ∀ (k : Nat) (acc : List ByteArray) (fr i : Nat), fr ≤ i → i ≤ s.size → s.size - i ≤ d → 2 * d + 2 ≤ k → acc.length + d ≤ 2003 →
    ∃ L, spec_Lines.l0 k s acc fr i = some (acc ++ L) ∧ lexer_zzLines.l0 k s acc fr i = some (acc ++ L) ∧ 0 < L.length ∧ L.length ≤ d + 1 ∧ ∀ x ∈ L, x.size ≤ s.size := by
  induction d with
  | zero =>
    intro k acc fr i h0 h1 h2 hk ha
    obtain ⟨k, rfl⟩ : ∃ m, k = m + 1 := ⟨k - 1, by omega⟩
    refine ⟨[s.extract fr s.size], ?_, ?_, by simp, by simp, by simp [ByteArray.size_extract]⟩
    · simp only [spec_Lines.l0]
      rw [if_neg (by omega), if_pos (by omega), if_pos (by omega), if_pos (by omega)]
      simp
    · simp only [lexer_zzLines.l0]
      rw [if_neg (by omega), if_pos (by omega), if_pos (by omega), if_pos (by omega)]
      simp
  | succ d ih =>
    intro k acc fr i h0 h1 h2 hk ha
    obtain ⟨k, rfl⟩ : ∃ m, k = m + 2 := ⟨k - 2, by omega⟩
    by_cases hlt : i < s.size
    · have e1 : wrap64 ((i : Int) + 1) = ((i + 1 : Nat) : Int) := by unfold wrap64; omega
      have e2 : wrap64 (((i + 1 : Nat) : Int) + 1) = ((i + 2 : Nat) : Int) := by unfold wrap64; omega
      have next : ∀ j : Nat, i < j → j ≤ s.size → ∃ L, spec_Lines.l0 k s (acc ++ [s.extract fr i]) j j = some (acc ++ L) ∧ lexer_zzLines.l0 k s (acc ++ [s.extract fr i]) j j = some (acc ++ L) ∧ 0 < L.length ∧ L.length ≤ d + 1 + 1 ∧ ∀ x ∈ L, x.size ≤ s.size := by
        intro j hj1 hj2
        obtain ⟨L, a, b, c, e, f⟩ := ih k (acc ++ [s.extract fr i]) j j (Nat.le_refl _) hj2 (by omega) (by omega) (by simp; omega)
        refine ⟨s.extract fr i :: L, by rw [a]; simp, by rw [b]; simp, by simp, by simp; omega, ?_⟩
        intro x hx
        rcases List.mem_cons.1 hx with rfl | hx
        · exact ext_size _ _ _
        · exact f x hx
      by_cases c10 : bt s (i : Int) = 10
      · obtain ⟨L, a, b, hL⟩ := next (i + 1) (by omega) (by omega)
        refine ⟨L, ?_, ?_, hL⟩
        · simp only [spec_Lines.l0, spec_Lines.j1]
          rw [if_pos (by omega), if_pos (by omega), if_pos c10]
          simp only [Bool.false_eq_true, if_false, Option.bind_some, Int.toNat_natCast]
          rw [if_pos (by omega), if_pos (by omega), if_pos (by omega), if_pos (by omega), if_pos (by omega), if_pos (by omega), if_neg (by omega), e1]
          exact a
        · simp only [lexer_zzLines.l0, lexer_zzLines.j1]
          rw [if_pos (by omega), if_pos (by omega), if_neg (by omega)]
          have hb : (bt s (i : Int) != 10) = false := by simp [c10]
          rw [hb]
          simp only [Bool.false_eq_true, if_false, Option.bind_some, Int.toNat_natCast]
          rw [if_pos (by omega), if_pos (by omega), if_pos (by omega), if_pos (by omega), if_pos (by omega), if_pos (by omega), if_neg (by omega), e1]
          exact b
      · by_cases c13 : bt s (i : Int) = 13
        · have hb : (bt s (i : Int) != 13) = false := by simp [c13]
          by_cases hi1 : i + 1 < s.size
          · by_cases hc : bt s ((i + 1 : Nat) : Int) = 10
            · obtain ⟨L, a, b, hL⟩ := next (i + 2) (by omega) (by omega)
              refine ⟨L, ?_, ?_, hL⟩
              · simp only [spec_Lines.l0, spec_Lines.j1]
                rw [if_pos (by omega), if_pos (by omega), if_neg c10, hb]
                simp only [Bool.false_eq_true, if_false, Option.bind_some, Int.toNat_natCast, e1, e2]
                rw [if_pos (by omega), if_pos (by omega), if_pos (by omega), if_pos (by omega), if_pos (by omega), if_pos (by omega), if_pos c13, if_pos (by omega), if_pos (by omega), if_pos hc]
                exact a
              · simp only [lexer_zzLines.l0, lexer_zzLines.j1]
                rw [if_pos (by omega), if_pos (by omega), if_pos c13]
                simp only [Bool.false_eq_true, if_false, Option.bind_some, Int.toNat_natCast, e1, e2]
                rw [if_pos (by omega), if_pos (by omega), if_pos (by omega), if_pos (by omega), if_pos (by omega), if_pos (by omega), if_pos (by omega), if_pos (by omega), if_pos hc]
                exact b
            · obtain ⟨L, a, b, hL⟩ := next (i + 1) (by omega) (by omega)
              refine ⟨L, ?_, ?_, hL⟩
              · simp only [spec_Lines.l0, spec_Lines.j1]
                rw [if_pos (by omega), if_pos (by omega), if_neg c10, hb]
                simp only [Bool.false_eq_true, if_false, Option.bind_some, Int.toNat_natCast, e1, e2]
                rw [if_pos (by omega), if_pos (by omega), if_pos (by omega), if_pos (by omega), if_pos (by omega), if_pos (by omega), if_pos c13, if_pos (by omega), if_pos (by omega), if_neg hc]
                exact a
              · simp only [lexer_zzLines.l0, lexer_zzLines.j1]
                rw [if_pos (by omega), if_pos (by omega), if_pos c13]
                simp only [Bool.false_eq_true, if_false, Option.bind_some, Int.toNat_natCast, e1, e2]
                rw [if_pos (by omega), if_pos (by omega), if_pos (by omega), if_pos (by omega), if_pos (by omega), if_pos (by omega), if_pos (by omega), if_pos (by omega), if_neg hc]
                exact b
          · obtain ⟨L, a, b, hL⟩ := next (i + 1) (by omega) (by omega)
            refine ⟨L, ?_, ?_, hL⟩
            · simp only [spec_Lines.l0, spec_Lines.j1]
              rw [if_pos (by omega), if_pos (by omega), if_neg c10, hb]
              simp only [Bool.false_eq_true, if_false, Option.bind_some, Int.toNat_natCast, e1, e2]
              rw [if_pos (by omega), if_pos (by omega), if_pos (by omega), if_pos (by omega), if_pos (by omega), if_pos (by omega), if_pos c13, if_neg (by omega)]
              exact a
            · simp only [lexer_zzLines.l0, lexer_zzLines.j1]
              rw [if_pos (by omega), if_pos (by omega), if_pos c13]
              simp only [Bool.false_eq_true, if_false, Option.bind_some, Int.toNat_natCast, e1, e2]
              rw [if_pos (by omega), if_pos (by omega), if_pos (by omega), if_pos (by omega), if_pos (by omega), if_pos (by omega), if_pos (by omega), if_neg (by omega)]
              exact b
        · have hb : (bt s (i : Int) != 13) = true := by simp [c13]
          have hb' : (bt s (i : Int) != 10) = true := by simp [c10]
          obtain ⟨L, a, b, c, e, f⟩ := ih k acc fr (i + 1) (by omega) (by omega) (by omega) (by omega) (by omega)
          refine ⟨L, ?_, ?_, c, by omega, f⟩
          · simp only [spec_Lines.l0, spec_Lines.j1]
            rw [if_pos (by omega), if_pos (by omega), if_neg c10, hb, if_pos rfl, e1]
            exact a
          · simp only [lexer_zzLines.l0, lexer_zzLines.j1]
            rw [if_pos (by omega), if_pos (by omega), if_neg c13, hb', if_pos rfl, e1]
            exact b
    · obtain ⟨L, a, b, c, e, f⟩ := ih (k + 2) acc fr i h0 h1 (by omega) (by omega) (by omega)
      exact ⟨L, a, b, c, by omega, f⟩
theorem lead_all (l : List UInt8) : lead l = l.length ↔ ∀ b ∈ l, b = 32 ∨ b = 9 := by
  induction l with
  | nil => simp [lead]
  | cons c t ih =>
    have := lead_le t
    simp only [lead, List.length_cons, List.mem_cons, forall_eq_or_imp]
    split
    · rename_i h
      simp [h, ← ih]
    · rename_i h
      simp [h]
theorem bblank_iff (x : ByteArray) : bblank x = true ↔ ∀ b ∈ x.data.toList, b = 32 ∨ b = 9 := by
  rw [← lead_all]
  unfold bblank
  rw [beq_iff_eq]
  simp only [Array.length_toList]
  show (lead x.data.toList : Int) = (x.data.size : Int) ↔ _
  omega
theorem bblank_cut (x : ByteArray) (a b : Nat) (h : bblank x = true) : bblank (x.extract a b) = true := by
  rw [bblank_iff] at h ⊢
  intro c hc
  apply h
  rw [ByteArray.data_extract, Array.toList_extract, List.extract_eq_take_drop] at hc
  exact List.mem_of_mem_drop (List.mem_of_mem_take hc)
theorem extract_all (x : ByteArray) : x.extract 0 x.size = x := by
  apply ByteArray.ext
  apply Array.ext'
  rw [ByteArray.data_extract, Array.toList_extract, List.extract_eq_take_drop]
  simp
  exact List.take_of_length_le (by simp)
theorem extract_none (x : ByteArray) : x.extract x.size x.size = ⟨#[]⟩ := by
  apply ByteArray.ext
  apply Array.ext'
  rw [ByteArray.data_extract, Array.toList_extract, List.extract_eq_take_drop]
  simp
theorem size_zero (x : ByteArray) (h : x.size = 0) : x = ⟨#[]⟩ := by
  apply ByteArray.ext
  apply Array.ext'
  exact List.eq_nil_of_length_eq_zero (by simpa using h)
theorem bcm_ge (t : List ByteArray) : ∀ c : Int, -1 ≤ c → -1 ≤ bcm c t := by
  induction t with
  | nil => intro c h; exact h
  | cons x t ih => intro c h; unfold bcm; split; exact ih _ (by omega); exact ih _ h
theorem bcm_le (t : List ByteArray) : ∀ c : Int, -1 ≤ c → (c ≠ -1 → bcm c t ≤ c ∧ bcm c t ≠ -1) ∧ ∀ x ∈ t, lead x.data.toList < x.size → bcm c t ≤ (lead x.data.toList : Int) := by
  induction t with
  | nil => intro c h; exact ⟨fun h1 => ⟨Int.le_refl _, h1⟩, by simp⟩
  | cons y t ih =>
    intro c h
    unfold bcm
    split
    · rename_i hc
      obtain ⟨a, b⟩ := ih (lead y.data.toList : Int) (by omega)
      have a' := a (by omega)
      refine ⟨fun h1 => ⟨by omega, a'.2⟩, ?_⟩
      intro x hx hl
      rcases List.mem_cons.1 hx with rfl | hx
      · exact a'.1
      · exact b x hx hl
    · rename_i hc
      obtain ⟨a, b⟩ := ih c h
      refine ⟨a, ?_⟩
      intro x hx hl
      rcases List.mem_cons.1 hx with rfl | hx
      · have : c ≠ -1 := fun e => hc ⟨by omega, .inl e⟩
        have : ¬ (lead x.data.toList : Int) < c := fun e => hc ⟨by omega, .inr e⟩
        have := (a ‹_›).1
        omega
      · exact b x hx hl
/-- A line of the reference: without n bytes in front. -/
def scut (n : Int) (x : ByteArray) : ByteArray := x.extract (mn n (x.size : Int)).toNat x.size
/-- What the reference makes of the lines. -/
def ssl (L : List ByteArray) : List ByteArray := match L with
  | [] => []
  | h :: T => btail ((h :: T.map (scut (mx (bcm (-1) T) 0))).dropWhile bblank)
/-- That the value is sure. -/
def Sure (L : List ByteArray) : Prop := match L with
  | [] => True
  | h :: T => (mx (bcm (-1) T) 0 > 0 → bblank h = true) ∧ ∀ x ∈ T, bblank x = true → 0 < x.size → ¬ (x.size : Int) < mx (bcm (-1) T) 0
theorem same_lines (L : List ByteArray) (hs : Sure L) : bsl L = ssl L := by
  cases L with
  | nil => rfl
  | cons h T =>
    obtain ⟨h1, h2⟩ := hs
    unfold bsl ssl
    simp only [List.drop_succ_cons, List.drop_zero]
    have hg := bcm_ge T (-1) (Int.le_refl _)
    obtain ⟨_, hle⟩ := bcm_le T (-1) (Int.le_refl _)
    generalize bcm (-1) T = c at *
    by_cases hc : c > 0
    · have em : mx c 0 = c := by unfold mx; rw [if_neg (by omega)]
      rw [em] at h1 h2
      rw [em, if_pos hc]
      have hb := h1 hc
      have hb' : bblank (bcut c h) = true := by unfold bcut; split; exact hb; exact bblank_cut _ _ _ hb
      rw [List.map_cons, List.dropWhile_cons, List.dropWhile_cons, hb, hb']
      simp only [if_true]
      congr 2
      apply List.map_congr_left
      intro x hx
      unfold bcut scut mn
      by_cases hx1 : c > (x.size : Int)
      · rw [if_pos hx1, if_pos (by omega)]
        have hx0 : x.size = 0 := by
          by_cases hbx : bblank x = true
          · have := h2 x hx hbx; omega
          · have hl : lead x.data.toList < x.size := by
              have := lead_size x
              have : ¬ (lead x.data.toList : Int) = (x.size : Int) := fun e => hbx (by unfold bblank; rw [beq_iff_eq]; exact e)
              omega
            have := hle x hx hl
            have := lead_size x
            omega
        have := size_zero x hx0
        subst this
        rfl
      · rw [if_neg hx1, if_neg (by omega)]
    · have em : mx c 0 = 0 := by unfold mx; split <;> omega
      rw [em, if_neg hc]
      congr 2
      symm
      have : ∀ x ∈ T, scut 0 x = x := by
        intro x hx
        unfold scut mn
        rw [if_neg (by omega)]
        exact extract_all x
      rw [List.map_congr_left this]
      simp
theorem lead_l0 (s : ByteArray) (hs : s.size ≤ 2002) (d : Nat) : ∀ (k i : Nat), i ≤ s.size → s.size - i = d → d < k → spec_leading.l0 k s i = some ((i + lead (s.data.toList.drop i) : Nat) : Int) := by
  induction d with
  | zero =>
    intro k i h1 hd hk
    obtain ⟨k, rfl⟩ : ∃ m, k = m + 1 := ⟨k - 1, by omega⟩
    simp only [spec_leading.l0]
    rw [if_neg (by omega), List.drop_eq_nil_of_le (by simp; omega)]
    simp [lead]
  | succ d ih =>
    intro k i h1 hd hk
    obtain ⟨k, rfl⟩ : ∃ m, k = m + 1 := ⟨k - 1, by omega⟩
    have hlt : i < s.size := by omega
    have hb : bt s (i : Int) = (s[i].toNat : Int) := by simp [bt, hlt]
    have e1 : wrap64 ((i : Int) + 1) = ((i + 1 : Nat) : Int) := by unfold wrap64; omega
    have ih' := ih k (i + 1) (by omega) (by omega) (by omega)
    simp only [spec_leading.l0]
    rw [if_pos (by omega), if_pos (by omega), hb, e1, lead_drop s i hlt, ih']
    have c32 := u8eq s[i] 32 (by omega)
    have c9 := u8eq s[i] 9 (by omega)
    by_cases h : ((s[i].toNat : Int) = 32)
    · rw [if_pos h, if_pos (.inl (c32.1 h))]; congr 2; omega
    · rw [if_neg h]
      by_cases h9 : ((s[i].toNat : Int) = 9)
      · rw [if_pos h9, if_pos (.inr (c9.1 h9))]; congr 2; omega
      · rw [if_neg h9, if_neg (fun hh => hh.elim (fun e => h (c32.2 e)) (fun e => h9 (c9.2 e)))]
        simp
theorem lead_f (s : ByteArray) (hs : s.size ≤ 2002) (k : Nat) (hk : 2003 ≤ k) : spec_leading.f k s = some (lead s.data.toList : Int) := by
  have := lead_l0 s hs s.size k 0 (by omega) (by omega) (by omega)
  unfold spec_leading.f
  simpa using this
theorem rd_at (L : List ByteArray) (i : Nat) (h : i < L.length) : rdOf ByteArray.empty L (i : Int) = L[i] := by
  simp [rdOf, List.getD_eq_getElem?_getD, h]

theorem common_l0 (L : List ByteArray) (hs : ∀ x ∈ L, x.size ≤ 2002) (hl : L.length ≤ 4000) (d : Nat) : ∀ (k i : Nat) (c : Int), i ≤ L.length → L.length - i = d → d + 2003 < k → -1 ≤ c →
    spec_common.l0 k L c i = some (mx (bcm c (L.drop i)) 0) := by
  induction d with
  | zero =>
    intro k i c h1 hd hk hc
    obtain ⟨k, rfl⟩ : ∃ m, k = m + 1 := ⟨k - 1, by omega⟩
    simp only [spec_common.l0]
    rw [if_neg (by omega), List.drop_eq_nil_of_le (by omega)]; rfl
  | succ d ih =>
    intro k i c h1 hd hk hc
    obtain ⟨k, rfl⟩ : ∃ m, k = m + 1 := ⟨k - 1, by omega⟩
    have hlt : i < L.length := by omega
    have e1 : wrap64 ((i : Int) + 1) = ((i + 1 : Nat) : Int) := by unfold wrap64; omega
    have hx := hs L[i] (List.getElem_mem hlt)
    simp only [spec_common.l0]
    rw [if_pos (by omega), if_pos (by omega), rd_at L i hlt, lead_f _ hx k (by omega), List.drop_eq_getElem_cons hlt, e1]
    simp only [Option.bind_some]
    generalize L[i] = x at *
    have i1 := fun c hc => ih k (i + 1) c (by omega) (by omega) (by omega) hc
    by_cases a1 : (lead x.data.toList : Int) < (x.size : Int)
    · rw [if_pos a1]
      by_cases a2 : c < 0
      · rw [if_pos a2, bcm_pos ⟨a1, .inl (by omega)⟩, i1 _ (by omega)]
      · rw [if_neg a2]
        by_cases a3 : (lead x.data.toList : Int) < c
        · rw [if_pos a3, bcm_pos ⟨a1, .inr a3⟩, i1 _ (by omega)]
        · rw [if_neg a3, bcm_neg (fun h => by omega), i1 _ hc]
    · rw [if_neg a1, bcm_neg (fun h => by omega), i1 _ hc]
theorem common_f (h : ByteArray) (T : List ByteArray) (hs : ∀ x ∈ h :: T, x.size ≤ 2002) (hl : (h :: T).length ≤ 4000) (k : Nat) (hk : 7000 ≤ k) : spec_common.f k (h :: T) = some (mx (bcm (-1) T) 0) := by
  have := common_l0 (h :: T) hs hl ((h :: T).length - 1) k 1 (-1) (by simp) rfl (by omega) (by omega)
  exact this
theorem blank_lead (x : ByteArray) : ((lead x.data.toList : Int) = (x.size : Int)) ↔ bblank x = true := by unfold bblank; rw [beq_iff_eq]
theorem lens_le (X : List (List UInt8)) (n : Nat) (h : ∀ x ∈ X, x.length ≤ n) : Lib.lens X ≤ X.length * n := by
  induction X with
  | nil => simp [Lib.lens]
  | cons x X ih =>
    have h1 := ih fun y hy => h y (List.mem_cons_of_mem _ hy)
    have h2 := h x (List.mem_cons_self)
    simp only [Lib.lens, List.map_cons, List.sum_cons, List.length_cons] at h1 ⊢
    rw [Nat.succ_mul]
    omega
def jn (X : List ByteArray) : List UInt8 := Lib.join (X.map (·.data.toList)) [10]
theorem jn_nil : jn [] = [] := rfl
theorem jn_snoc (X : List ByteArray) (x : ByteArray) (h : X ≠ []) : jn (X ++ [x]) = jn X ++ [10] ++ x.data.toList := by
  unfold jn
  cases X with
  | nil => exact absurd rfl h
  | cons y t =>
    rw [List.map_append, List.map_cons, List.cons_append, Lib.join_cons, Lib.join_cons]
    have := Lib.joinTail_take_succ [10] (t.map (·.data.toList) ++ [x.data.toList]) t.length x.data.toList (by simp)
    rw [List.take_of_length_le (by simp), List.take_append_of_le_length (by simp), List.take_of_length_le (by simp)] at this
    simp only [List.map_cons, List.map_nil]
    rw [this]
    simp
theorem jn_one (x : ByteArray) : jn [x] = x.data.toList := by unfold jn; simp [Lib.join_one]
theorem jn_len (X : List ByteArray) (hl : X.length ≤ 4000) (hs : ∀ x ∈ X, x.size ≤ 2002) : (jn X).length ≤ 8012000 := by
  unfold jn
  cases X with
  | nil => simp [Lib.join_nil]
  | cons y t =>
    rw [List.map_cons, Lib.join_length]
    have := lens_le ((y :: t).map (·.data.toList)) 2002 (by
      intro x hx
      obtain ⟨z, hz, rfl⟩ := List.mem_map.1 hx
      have := hs z hz
      simpa using this)
    simp only [List.map_cons, List.length_cons, List.length_map, List.length_nil] at this hl ⊢
    omega
theorem jn_take (X : List ByteArray) (i : Nat) : (jn (X.take i)).length ≤ (jn X).length := by
  unfold jn
  cases X with
  | nil => simp
  | cons y t =>
    cases i with
    | zero => simp [Lib.join_nil]
    | succ i =>
      rw [List.take_succ_cons, List.map_cons, List.map_cons, Lib.join_cons, Lib.join_cons, List.length_append, List.length_append]
      have := Lib.joinTail_take_le [10] (t.map (·.data.toList)) i
      rw [← List.map_take] at this
      omega
theorem app_data (a b : ByteArray) : (a ++ b).data.toList = a.data.toList ++ b.data.toList := by simp
theorem size_len (a : ByteArray) : a.size = a.data.toList.length := by simp

theorem bv_l3 (X : List ByteArray) (hl : X.length ≤ 4000) (hs : ∀ x ∈ X, x.size ≤ 2002) (d : Nat) : ∀ (k i : Nat) (out : ByteArray), i ≤ X.length → X.length - i = d → d < k → out.data.toList = jn (X.take i) →
    ∃ r, spec_BlockValue.l3 k X out i = some r ∧ r.data.toList = jn X := by
  induction d with
  | zero =>
    intro k i out h1 hd hk ho
    obtain ⟨k, rfl⟩ : ∃ m, k = m + 1 := ⟨k - 1, by omega⟩
    refine ⟨out, ?_, ?_⟩
    · simp only [spec_BlockValue.l3]; rw [if_neg (by omega)]
    · rw [ho, List.take_of_length_le (by omega)]
  | succ d ih =>
    intro k i out h1 hd hk ho
    obtain ⟨k, rfl⟩ : ∃ m, k = m + 1 := ⟨k - 1, by omega⟩
    have hlt : i < X.length := by omega
    have e1 : wrap64 ((i : Int) + 1) = ((i + 1 : Nat) : Int) := by unfold wrap64; omega
    have hx := hs X[i] (List.getElem_mem hlt)
    have hol : out.size ≤ 8012000 := by
      rw [size_len, ho]
      exact Nat.le_trans (jn_take X i) (jn_len X hl hs)
    have ht : X.take (i + 1) = X.take i ++ [X[i]] := List.take_succ_eq_append_getElem hlt
    simp only [spec_BlockValue.l3]
    rw [if_pos (by omega), rd_at X i hlt, e1]
    have s10 : (⟨#[10]⟩ : ByteArray).size = 1 := rfl
    by_cases h0 : i = 0
    · subst h0
      rw [if_neg (by omega), if_pos (by omega), if_pos (by omega)]
      refine ih k (0 + 1) _ (by omega) (by omega) (by omega) ?_
      rw [app_data, ho, ht]
      simp [jn_one, jn_nil]
    · have hsz : (out ++ (⟨#[10]⟩ : ByteArray)).size = out.size + 1 := by rw [ByteArray.size_append]; rfl
      rw [if_pos (by omega), if_pos (by omega), if_pos (by omega), if_pos (by omega)]
      refine ih k (i + 1) _ (by omega) (by omega) (by omega) ?_
      rw [app_data, app_data, ho, ht, jn_snoc _ _ (by intro e; have := congrArg List.length e; rw [List.length_take, List.length_nil] at this; omega)]

theorem bv_l2 (n : Nat) : ∀ (X : List ByteArray), X.length = n → X.length ≤ 4000 → (∀ x ∈ X, x.size ≤ 2002) → ∀ k, n + 8000 ≤ k → ∃ r, spec_BlockValue.l2 k X = some r ∧ r.data.toList = jn (btail X) := by
  induction n with
  | zero =>
    intro X hX hl hs k hk
    obtain rfl : X = [] := List.eq_nil_of_length_eq_zero hX
    obtain ⟨k, rfl⟩ : ∃ m, k = m + 2 := ⟨k - 2, by omega⟩
    obtain ⟨r, h1, h2⟩ := bv_l3 [] (by simp) (by simp) 0 k 0 ⟨#[]⟩ (by simp) rfl (by omega) rfl
    refine ⟨r, ?_, h2⟩
    simp only [spec_BlockValue.l2, spec_BlockValue.j4]
    rw [if_neg (by simp)]
    exact h1
  | succ n ih =>
    intro X hX hl hs k hk
    rcases List.eq_nil_or_concat X with rfl | ⟨Y, y, rfl⟩
    · simp at hX
    rw [List.concat_eq_append] at *
    have hY : Y.length = n := by simpa using hX
    obtain ⟨k, rfl⟩ : ∃ m, k = m + 2 := ⟨k - 2, by omega⟩
    have hlen : (Y ++ [y]).length = n + 1 := hX
    have e1 : wrap64 (((Y ++ [y]).length : Int) - 1) = (n : Int) := by rw [hlen]; unfold wrap64; omega
    have ey : rdOf ByteArray.empty (Y ++ [y]) (n : Int) = y := by rw [rd_at _ _ (by omega)]; simp [hY]
    have hy := hs y (by simp)
    simp only [spec_BlockValue.l2]
    rw [e1, ey, if_pos (by omega), if_pos (by omega), if_pos (by omega), lead_f y hy (k + 1) (by omega)]
    simp only [Option.bind_some, Int.toNat_natCast]
    by_cases hb : bblank y = true
    · rw [if_pos ((blank_lead y).2 hb), if_pos (by omega), List.take_append_of_le_length (by omega), List.take_of_length_le (by omega), btail_snoc_blank _ _ hb]
      exact ih Y hY (by omega) (fun x hx => hs x (by simp [hx])) (k + 1) (by omega)
    · rw [if_neg (fun h => hb ((blank_lead y).1 h)), btail_snoc_not _ _ (by simpa using hb)]
      simp only [spec_BlockValue.j4]
      exact bv_l3 (Y ++ [y]) hl hs _ k 0 ⟨#[]⟩ (by omega) rfl (by omega) rfl

theorem bv_l1 (n : Nat) : ∀ (X : List ByteArray), X.length = n → X.length ≤ 4000 → (∀ x ∈ X, x.size ≤ 2002) → ∀ k, n + 13000 ≤ k → ∃ r, spec_BlockValue.l1 k X = some r ∧ r.data.toList = jn (btail (X.dropWhile bblank)) := by
  induction n with
  | zero =>
    intro X hX hl hs k hk
    obtain rfl : X = [] := List.eq_nil_of_length_eq_zero hX
    obtain ⟨k, rfl⟩ : ∃ m, k = m + 2 := ⟨k - 2, by omega⟩
    obtain ⟨r, h1, h2⟩ := bv_l2 0 [] rfl (by simp) (by simp) k (by omega)
    refine ⟨r, ?_, h2⟩
    simp only [spec_BlockValue.l1, spec_BlockValue.j2]
    rw [if_neg (by simp)]
    exact h1
  | succ n ih =>
    intro X hX hl hs k hk
    cases X with
    | nil => simp at hX
    | cons y Y =>
      have hY : Y.length = n := by simpa using hX
      have hlen : (y :: Y).length = n + 1 := hX
      obtain ⟨k, rfl⟩ : ∃ m, k = m + 2 := ⟨k - 2, by omega⟩
      have ey : rdOf ByteArray.empty (y :: Y) 0 = y := rfl
      have hy := hs y (by simp)
      simp only [spec_BlockValue.l1]
      rw [ey, if_pos (by omega), if_pos (by omega), lead_f y hy (k + 1) (by omega)]
      simp only [Option.bind_some]
      by_cases hb : bblank y = true
      · rw [if_pos ((blank_lead y).2 hb), if_pos (by omega), List.dropWhile_cons, if_pos hb]
        exact ih Y hY (by omega) (fun x hx => hs x (by simp [hx])) (k + 1) (by omega)
      · rw [if_neg (fun h => hb ((blank_lead y).1 h)), List.dropWhile_cons, if_neg hb]
        simp only [spec_BlockValue.j2]
        exact bv_l2 (n + 1) (y :: Y) hX hl hs k (by omega)

/-- The list behind j rounds of the cutting loop. -/
def smix (c : Int) (h : ByteArray) (T : List ByteArray) (j : Nat) : List ByteArray := h :: ((T.take j).map (scut c) ++ T.drop j)
theorem smix_len (c : Int) (h : ByteArray) (T : List ByteArray) (j : Nat) (hj : j ≤ T.length) : (smix c h T j).length = T.length + 1 := by simp [smix]; omega
theorem smix_get (c : Int) (h : ByteArray) (T : List ByteArray) (j : Nat) (hj : j < T.length) : rdOf ByteArray.empty (smix c h T j) ((j + 1 : Nat) : Int) = T[j] := by
  unfold rdOf smix
  have hl : ((T.take j).map (scut c)).length = j := by simp; omega
  rw [Int.toNat_natCast, List.getD_eq_getElem?_getD, List.getElem?_cons_succ, List.getElem?_append_right (by omega), hl, Nat.sub_self, List.getElem?_drop]
  simp [hj]
theorem smix_set (c : Int) (h : ByteArray) (T : List ByteArray) (j : Nat) (hj : j < T.length) : (smix c h T j).set (j + 1) (scut c T[j]) = smix c h T (j + 1) := by
  unfold smix
  have hl : ((T.take j).map (scut c)).length = j := by simp; omega
  rw [List.set_cons_succ, List.drop_eq_getElem_cons hj, List.set_append_right _ _ (by omega), hl, Nat.sub_self, List.take_succ_eq_append_getElem hj, List.map_append, List.append_assoc]
  rfl
theorem scut_size (c : Int) (x : ByteArray) : (scut c x).size ≤ x.size := by unfold scut; rw [ByteArray.size_extract]; omega

theorem bv_l0 (c : Int) (hc : 0 ≤ c) (h : ByteArray) (T : List ByteArray) (hl : T.length < 4000) (hs : ∀ x ∈ h :: T, x.size ≤ 2002) (d : Nat) : ∀ (k j : Nat), j ≤ T.length → T.length - j = d → d + 17100 ≤ k →
    ∃ r, spec_BlockValue.l0 k (smix c h T j) c ((j + 1 : Nat) : Int) = some r ∧ r.data.toList = jn (btail ((h :: T.map (scut c)).dropWhile bblank)) := by
  induction d with
  | zero =>
    intro k j h1 hd hk
    obtain ⟨k, rfl⟩ : ∃ m, k = m + 1 := ⟨k - 1, by omega⟩
    have hm := smix_len c h T j h1
    have e : smix c h T j = h :: T.map (scut c) := by
      unfold smix; rw [List.take_of_length_le (by omega), List.drop_eq_nil_of_le (by omega)]; simp
    simp only [spec_BlockValue.l0]
    rw [if_neg (by omega), e]
    refine bv_l1 (T.length + 1) _ (by simp) (by simp; omega) ?_ k (by omega)
    intro x hx
    rcases List.mem_cons.1 hx with rfl | hx
    · exact hs _ (by simp)
    · obtain ⟨y, hy, rfl⟩ := List.mem_map.1 hx
      exact Nat.le_trans (scut_size c y) (hs y (by simp [hy]))
  | succ d ih =>
    intro k j h1 hd hk
    obtain ⟨k, rfl⟩ : ∃ m, k = m + 1 := ⟨k - 1, by omega⟩
    have hlt : j < T.length := by omega
    have hm := smix_len c h T j h1
    have e1 : wrap64 (((j + 1 : Nat) : Int) + 1) = ((j + 1 + 1 : Nat) : Int) := by unfold wrap64; omega
    simp only [spec_BlockValue.l0]
    rw [smix_get c h T j hlt, e1]
    have b1 : 0 ≤ mn c (T[j].size : Int) ∧ mn c (T[j].size : Int) ≤ (T[j].size : Int) := by unfold mn; split <;> omega
    rw [if_pos (by omega), if_pos (by omega), if_pos b1.1, if_pos b1.2, Int.toNat_natCast]
    have := smix_set c h T j hlt
    unfold scut at this
    rw [this]
    exact ih k (j + 1) (by omega) (by omega) (by omega)
theorem bblank_bool (x : ByteArray) : ¬ bblank x = true ↔ ¬ (lead x.data.toList : Int) = (x.size : Int) := not_congr (blank_lead x).symm
theorem plain_l0 (L : List ByteArray) (n : Int) (hs : ∀ x ∈ L, x.size ≤ 2002) (hl : L.length ≤ 4000) (d : Nat) : ∀ (k i : Nat), i ≤ L.length → L.length - i = d → d + 2003 < k →
    ∃ b, spec_plainBlock.l0 k L n i = some b ∧ (b = true → ∀ x ∈ L.drop i, bblank x = true → 0 < x.size → ¬ (x.size : Int) < n) := by
  induction d with
  | zero =>
    intro k i h1 hd hk
    obtain ⟨k, rfl⟩ : ∃ m, k = m + 1 := ⟨k - 1, by omega⟩
    refine ⟨true, ?_, ?_⟩
    · simp only [spec_plainBlock.l0]; rw [if_neg (by omega)]
    · rw [List.drop_eq_nil_of_le (by omega)]; simp
  | succ d ih =>
    intro k i h1 hd hk
    obtain ⟨k, rfl⟩ : ∃ m, k = m + 1 := ⟨k - 1, by omega⟩
    have hlt : i < L.length := by omega
    have e1 : wrap64 ((i : Int) + 1) = ((i + 1 : Nat) : Int) := by unfold wrap64; omega
    have hx := hs L[i] (List.getElem_mem hlt)
    obtain ⟨b, hb, hb2⟩ := ih k (i + 1) (by omega) (by omega) (by omega)
    simp only [spec_plainBlock.l0]
    rw [if_pos (by omega), if_pos (by omega), rd_at L i hlt, lead_f _ hx k (by omega), List.drop_eq_getElem_cons hlt, e1]
    simp only [Option.bind_some]
    generalize L[i] = x at *
    by_cases a1 : (lead x.data.toList : Int) = (x.size : Int)
    · rw [if_pos a1]
      by_cases a2 : (x.size : Int) > 0
      · rw [if_pos a2]
        by_cases a3 : (x.size : Int) < n
        · rw [if_pos a3]; exact ⟨false, rfl, by simp⟩
        · rw [if_neg a3]
          refine ⟨b, hb, fun h y hy => ?_⟩
          rcases List.mem_cons.1 hy with rfl | hy
          · exact fun _ _ => a3
          · exact hb2 h y hy
      · rw [if_neg a2]
        refine ⟨b, hb, fun h y hy => ?_⟩
        rcases List.mem_cons.1 hy with rfl | hy
        · exact fun _ h0 => absurd h0 (by omega)
        · exact hb2 h y hy
    · rw [if_neg a1]
      refine ⟨b, hb, fun h y hy => ?_⟩
      rcases List.mem_cons.1 hy with rfl | hy
      · exact fun hbl => absurd ((blank_lead _).2 hbl) a1
      · exact hb2 h y hy

theorem plain_f (s : ByteArray) (h : ByteArray) (T : List ByteArray) (hs : ∀ x ∈ h :: T, x.size ≤ 2002) (hl : (h :: T).length ≤ 4000) (k : Nat) (hk : 7001 ≤ k) (hL : spec_Lines.f k s = some (h :: T)) :
    ∃ b, spec_plainBlock.f k s = some b ∧ (b = true → Sure (h :: T)) := by
  obtain ⟨k, rfl⟩ : ∃ m, k = m + 1 := ⟨k - 1, by omega⟩
  unfold spec_plainBlock.f
  rw [hL, Option.bind_some, common_f h T hs hl (k + 1) (by omega), Option.bind_some]
  obtain ⟨b, hb, hb2⟩ := plain_l0 (h :: T) (mx (bcm (-1) T) 0) hs hl ((h :: T).length - 1) k 1 (by simp) rfl (by omega)
  have hb' : spec_plainBlock.l0 k (h :: T) (mx (bcm (-1) T) 0) 1 = some b := hb
  have eh : rdOf ByteArray.empty (h :: T) 0 = h := rfl
  by_cases a1 : mx (bcm (-1) T) 0 > 0
  · rw [if_pos a1, if_pos (by simp), eh, lead_f h (hs h (by simp)) (k + 1) (by omega), Option.bind_some]
    simp only [spec_plainBlock.j0]
    by_cases a2 : (lead h.data.toList : Int) < (h.size : Int)
    · exact ⟨false, by rw [if_pos (by simpa using a2)], by simp⟩
    · refine ⟨b, by rw [if_neg (by simpa using a2)]; exact hb', fun hbt => ⟨fun _ => ?_, ?_⟩⟩
      · rw [← blank_lead]; have := lead_size h; omega
      · simpa using hb2 hbt
  · rw [if_neg a1]
    simp only [spec_plainBlock.j0]
    exact ⟨b, by rw [if_neg (by simp)]; exact hb', fun hbt => ⟨fun h0 => absurd h0 a1, by simpa using hb2 hbt⟩⟩

theorem bsl_sub (L : List ByteArray) (hs : ∀ x ∈ L, x.size ≤ 2002) : (bsl L).length ≤ L.length ∧ ∀ x ∈ bsl L, x.size ≤ 2002 := by
  have hc : ∀ c, ∀ x ∈ L.map (bcut c), x.size ≤ 2002 := by
    intro c x hx
    obtain ⟨y, hy, rfl⟩ := List.mem_map.1 hx
    have := hs y hy
    unfold bcut
    split
    · exact this
    · rw [ByteArray.size_extract]; omega
  unfold bsl btail
  constructor
  · rw [List.length_reverse]
    refine Nat.le_trans (List.dropWhile_sublist _).length_le ?_
    rw [List.length_reverse]
    refine Nat.le_trans (List.dropWhile_sublist _).length_le ?_
    split <;> simp
  · intro x hx
    have h1 := (List.dropWhile_sublist _).subset (List.mem_reverse.1 hx)
    have h2 := (List.dropWhile_sublist _).subset (List.mem_reverse.1 h1)
    split at h2
    · exact hc _ x h2
    · exact hs x h2
theorem bsv_same (s : ByteArray) (h : ByteArray) (T : List ByteArray) (hl : (h :: T).length ≤ 2003) (hz : ∀ x ∈ h :: T, x.size ≤ 2002) (k : Nat) (hk : 30000 ≤ k)
    (hL : spec_Lines.f k s = some (h :: T)) (hZ : lexer_zzLines.f k s = some (h :: T)) :
    ∃ a r, lexer_blockStringValue.f k s = some a ∧ spec_BlockValue.f k s = some r ∧ (Sure (h :: T) → a.toList = r.toList) := by
  obtain ⟨b1, b2⟩ := bsl_sub (h :: T) hz
  have hj := jn_len (bsl (h :: T)) (by omega) b2
  obtain ⟨r, h1, h2⟩ := bv_l0 (mx (bcm (-1) T) 0) (by unfold mx; split <;> omega) h T (by simp at hl; omega) hz T.length k 0 (by omega) (by omega) (by simp at hl; omega)
  refine ⟨⟨(jn (bsl (h :: T))).toArray⟩, r, ?_, ?_, fun hS => ?_⟩
  · unfold lexer_blockStringValue.f
    rw [hZ]
    simp only [Option.bind_some]
    rw [if_pos ⟨by simp, by omega, List.all_eq_true.2 fun x hx => decide_eq_true (by have := hz x hx; omega)⟩]
    unfold strings_Join.f
    have hj' : (Lib.join ((bsl (h :: T)).map (·.data.toList)) (⟨#[10]⟩ : ByteArray).data.toList).length ≤ 140737488355328 := by
      show (jn (bsl (h :: T))).length ≤ _
      omega
    rw [if_pos ⟨by omega, hj'⟩]
    rfl
  · unfold spec_BlockValue.f
    rw [hL, Option.bind_some, common_f h T hz (by omega) k (by omega), Option.bind_some]
    have e : smix (mx (bcm (-1) T) 0) h T 0 = h :: T := by simp [smix]
    rw [e] at h1
    exact h1
  · rw [ByteArray.toList_eq, ByteArray.toList_eq, h2, same_lines _ hS]
    rfl
/-- A raw text: what the reference and the package make of it. -/
theorem raw_law (s : ByteArray) (hs : s.size ≤ 2002) : ∃ (p : Bool) (a r : ByteArray), (∀ k, 40000 ≤ k → spec_BlockValue.f k s = some r ∧ spec_plainBlock.f k s = some p ∧ lexer_blockStringValue.f k s = some a) ∧ (p = true → a.toList = r.toList) := by
  obtain ⟨L, e1, e2, l0, l1, l2⟩ := lines_both s hs s.size 40000 [] 0 0 (by omega) (by omega) (by omega) (by omega) (by simp; omega)
  cases L with
  | nil => simp at l0
  | cons h T =>
    simp only [List.nil_append] at e1 e2
    have hz : ∀ x ∈ h :: T, x.size ≤ 2002 := fun x hx => by have := l2 x hx; omega
    obtain ⟨p, hp, hp2⟩ := plain_f s h T hz (by omega) 40000 (by omega) e1
    obtain ⟨a, r, i1, i2, i3⟩ := bsv_same s h T (by omega) hz 40000 (by omega) e1 e2
    refine ⟨p, a, r, fun k hk => ⟨?_, ?_, ?_⟩, fun h => i3 (hp2 h)⟩
    · exact at_rounds (g := fun k => spec_BlockValue.f k s) (spec_BlockValue.mono s) hk i2
    · exact at_rounds (g := fun k => spec_plainBlock.f k s) (spec_plainBlock.mono s) hk hp
    · exact at_rounds (g := fun k => lexer_blockStringValue.f k s) (lexer_blockStringValue.mono s) hk i1
end Go.Proofs.YtfblohdfmaankaaGreatDoor.PFnTextWritten
