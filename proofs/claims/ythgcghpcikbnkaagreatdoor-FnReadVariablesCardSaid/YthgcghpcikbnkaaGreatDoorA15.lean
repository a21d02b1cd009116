/- A part of the proof of the theorem of this claim: Paw. No condition of its own. -/
import Derived.Test.YthgcghpcikbnkaaGreatDoorA5
set_option maxHeartbeats 16000000
set_option maxRecDepth 100000
namespace Go.Proofs.YthgcghpcikbnkaaGreatDoor.R
open Go.RowKit Go.Proofs.YthgcghpcikbnkaaGreatDoorW.PrintWords Go.Proofs.YthgcghpcikbnkaaGreatDoorW.PrintLast Go.Proofs.YthgcghpcikbnkaaGreatDoorW.PrintMore
set_option linter.unusedVariables false
set_option linter.unusedSimpArgs false
theorem w_up {i : Nat} (h : i ≤ 4000) : Value.int .i64 (wrap64 ((i : Int) + 1)) = .int .i64 ((i + 1 : Nat) : Int) := by
 rw [w64 (by omega) (by omega)]; rfl
theorem high_n (n b0 b1 b2 b3 : Nat) (h0 : 128 ≤ b0) : 128 ≤ (Go.Lib.decodeN n b0 b1 b2 b3).1 := by
 unfold Go.Lib.decodeN
 repeat' split
 all_goals (simp only; omega)
theorem high_at (t : ByteArray) (p : Nat) (hp : p < t.size) (hb : 128 ≤ bt t p) : 128 ≤ (Go.Lib.decodeGo (t.extract p t.size)).1 := by
 have hsz : (t.extract p t.size).size = t.size - p := by rw [ByteArray.size_extract]; omega
 have hx : (((t.extract p t.size).get! 0).toNat : Int) = bt t p := by
  rw [get_b _ 0 (by omega), ByteArray.getElem_extract]
  unfold bt
  rw [dif_pos (show (p : Int).toNat < t.size by omega)]
  simp only [Int.toNat_natCast, Nat.add_zero]
 unfold Go.Lib.decodeGo
 rw [if_neg (by omega), Go.Lib.decode_at, hsz]
 exact high_n _ _ _ _ _ (by omega)
theorem bom_of (s : ByteArray) (i : Nat) (h : i + 2 < s.size) (h0 : (s[i]'(by omega)).toNat = 239) (h1 : (s[i + 1]'(by omega)).toNat = 187) (h2 : (s[i + 2]'h).toNat = 191) : bomAt s i = true := by
 unfold bomAt
 rw [decide_eq_true (by omega), Bool.true_and, beq_iff_eq, ByteArray.toList_eq, ByteArray.toList_eq, ByteArray.data_extract, Array.toList_extract, List.extract_eq_take_drop]
 have hl : i + 2 < s.data.toList.length := by simpa using h
 rw [List.drop_eq_getElem_cons (show i < s.data.toList.length by omega), List.drop_eq_getElem_cons (show i + 1 < s.data.toList.length by omega), List.drop_eq_getElem_cons hl]
 have e : ∀ (x : UInt8) (n : Nat), n < 256 → x.toNat = n → x = UInt8.ofNat n := fun x n hn hx => UInt8.toNat_inj.mp (by rw [hx]; simp; omega)
 have e0 : s.data.toList[i]'(by omega) = 239 := e _ 239 (by omega) h0
 have e1 : s.data.toList[i + 1]'(by omega) = 187 := e _ 187 (by omega) h1
 have e2 : s.data.toList[i + 1 + 1]'hl = 191 := e _ 191 (by omega) h2
 rw [e0, e1, e2, show i + 3 - i = 3 from by omega]
 rfl
theorem dec_ok (s : ByteArray) (i : Nat) (hi : i < s.size) (hb : 128 ≤ bt s i) (hm : bomAt s i = false) : 128 ≤ (Go.Lib.decodeGo (s.extract i s.size)).1 ∧ (Go.Lib.decodeGo (s.extract i s.size)).1 ≠ 65279 := by
 have hsz : (s.extract i s.size).size = s.size - i := by rw [ByteArray.size_extract]; omega
 have hbt : bt s i = ((s[i]'hi).toNat : Int) := by
  unfold bt; rw [dif_pos (show (i : Int).toNat < s.size by omega)]; simp only [Int.toNat_natCast]
 unfold Go.Lib.decodeGo
 rw [if_neg (by omega)]
 have hx : ∀ j, (hj : i + j < s.size) → (s.extract i s.size).get! (0 + j) = s[i + j]'hj := fun j hj => by
  rw [Nat.zero_add, get_b _ j (by omega), ByteArray.getElem_extract]
 have h0 : ((s.extract i s.size)[0]'(by omega)) = s[i] := by simp [ByteArray.getElem_extract]
 refine ⟨?_, fun h => ?_⟩
 ·have h9 := high_at s i hi hb
  unfold Go.Lib.decodeGo at h9
  rw [if_neg (by omega)] at h9
  exact h9
 rw [Go.Lib.decode_at] at h
 have g0 := (s.extract i s.size).get! 0 |>.toNat_lt
 have g1 := (s.extract i s.size).get! (0 + 1) |>.toNat_lt
 have g2 := (s.extract i s.size).get! (0 + 2) |>.toNat_lt
 have key : ∀ n b0 b1 b2 b3 : Nat, b0 < 256 → b1 < 256 → b2 < 256 → (Go.Lib.decodeN n b0 b1 b2 b3).1 = 65279 → 2 < n ∧ b0 = 239 ∧ b1 = 187 ∧ b2 = 191 := by
  intro n b0 b1 b2 b3 k0 k1 k2 hh
  unfold Go.Lib.decodeN at hh
  repeat' split at hh
  all_goals (simp only at hh; omega)
 obtain ⟨q0, q1, q2, q3⟩ := key _ _ _ _ _ g0 g1 g2 h
 have hlt : i + 2 < s.size := by omega
 have t := bom_of s i hlt (by rw [← q1, ← h0, ← get_b _ 0 (by omega)]) (by rw [← q2, hx 1 (by omega)]) (by rw [← q3, hx 2 (by omega)])
 rw [hm] at t; cases t
theorem rn_stop (s : ByteArray) (hs : s.size ≤ 2000) (i : Nat) (hi : i < s.size) (hm : bomAt s i = false) (hb : isBl (bt s i) = false) (hc : bt s i ≠ 35) :
 ∃ c k : Int, rn s i = (c, k) ∧ (c == 65279) = false ∧ (c == 9) = false ∧ (c == 32) = false ∧ (c == 10) = false ∧ (c == 13) = false ∧ (c == 44) = false ∧ (c == 35) = false := by
 have hlo := bt_lo s i
 unfold rn
 rw [if_neg (by omega)]
 by_cases h : bt s i < 128
 ·rw [if_pos h]
  obtain ⟨d1, d2, d3, d4, d5⟩ : bt s i ≠ 32 ∧ bt s i ≠ 9 ∧ bt s i ≠ 10 ∧ bt s i ≠ 13 ∧ bt s i ≠ 44 := by
   unfold isBl at hb
   simp only [Bool.or_eq_false_iff, beq_eq_false_iff_ne] at hb
   exact ⟨hb.1.1.1.1, hb.1.1.1.2, hb.1.1.2, hb.1.2, hb.2⟩
  refine ⟨_, _, rfl, ?_, ?_, ?_, ?_, ?_, ?_, ?_⟩ <;> (rw [beq_eq_false_iff_ne]; omega)
 ·rw [if_neg h]
  have := dec_ok s i hi (by omega) hm
  refine ⟨_, _, rfl, ?_, ?_, ?_, ?_, ?_, ?_, ?_⟩ <;> (rw [beq_eq_false_iff_ne]; simp only [Int.ofNat_eq_natCast]; omega)
theorem rn_ascii (s : ByteArray) (i : Nat) (hi : i < s.size) (c : Int) (h : bt s i = c) (hc : c < 128) : rn s i = (c, 1) := by
 unfold rn; rw [if_neg (by omega), if_pos (by omega), h]
theorem rn_end (s : ByteArray) (i : Nat) (hi : ¬ i < s.size) : rn s i = (-1, 65533) := by
 unfold rn; rw [if_pos (by omega)]
theorem sc_cases (s : ByteArray) (i n : Nat) (hi : i < s.size) (h : Sc s false i = some n) :
 ((bt s i = 32 ∨ bt s i = 9 ∨ bt s i = 10 ∨ bt s i = 13 ∨ bt s i = 44) ∧ Sc s false (i + 1) = some n) ∨ (bt s i = 35 ∧ Sc s true (i + 1) = some n) ∨ (isBl (bt s i) = false ∧ bt s i ≠ 35 ∧ bomAt s i = false ∧ i = n) := by
 rw [sc_f s i hi] at h
 by_cases hb : isBl (bt s i) = true
 ·rw [if_pos hb] at h
  refine .inl ⟨?_, h⟩
  unfold isBl at hb
  simp only [Bool.or_eq_true, beq_iff_eq] at hb
  omega
 rw [if_neg hb] at h
 by_cases hc : bt s i = 35
 ·rw [if_pos hc] at h; exact .inr (.inl ⟨hc, h⟩)
 rw [if_neg hc] at h
 by_cases hm : bomAt s i = true
 ·rw [if_pos hm] at h; cases h
 rw [if_neg hm] at h
 exact .inr (.inr ⟨by simpa using hb, hc, by simpa using hm, Option.some.inj h⟩)
theorem sc_cases_t (s : ByteArray) (i n : Nat) (hi : i < s.size) (h : Sc s true i = some n) :
 ((bt s i = 10 ∨ bt s i = 13) ∧ Sc s false i = some n) ∨ (bt s i = 9 ∧ Sc s true (i + 1) = some n) ∨ ((bt s i < 128 ∧ (bt s i != 0) = true ∧ decide (31 < bt s i) = true ∧ (bt s i != 10) = true ∧ (bt s i != 13) = true) ∧ Sc s true (i + 1) = some n) := by
 have hnl := sc_nl s i hi
 have h' := h
 rw [sc_t s i hi] at h
 by_cases hb : bt s i = 10 ∨ bt s i = 13
 ·exact .inl ⟨hb, (hnl hb) ▸ h'⟩
 rw [if_neg hb] at h
 by_cases hc : 128 ≤ bt s i ∨ (bt s i < 32 ∧ bt s i ≠ 9)
 ·rw [if_pos hc] at h; cases h
 rw [if_neg hc] at h
 by_cases h9 : bt s i = 9
 ·exact .inr (.inl ⟨h9, h⟩)
 ·refine .inr (.inr ⟨⟨by omega, by rw [bne_iff_ne]; omega, decide_eq_true (by omega), by rw [bne_iff_ne]; omega, by rw [bne_iff_ne]; omega⟩, h⟩)
def msr (s : ByteArray) : Value → Nat
 | .int _ a => s.size - a.toNat
 | _ => 0
theorem msr_int (s : ByteArray) (k : IntKind) (a : Int) : msr s (.int k a) = s.size - a.toNat := rfl
theorem msr_upb (s : ByteArray) (i : Nat) (h : i < s.size) (hs : s.size ≤ 4000) : msr s (.int .i64 (wrap64 ((i : Int) + 1))) < msr s (.int .i64 (i : Int)) := by
 have e : wrap64 ((i : Int) + 1) = ((i + 1 : Nat) : Int) := (w64 (by omega) (by omega)).trans (by omega)
 rw [e, msr_int, msr_int, Int.toNat_natCast, Int.toNat_natCast]
 omega
set_option maxHeartbeats 8000000 in
set_option maxRecDepth 100000 in
theorem paw_walk (s : ByteArray) (b cap : Nat) (w : World) (hT : Glob w) (hs : s.size ≤ 2000) (hc : s.size ≤ cap) (hp : ∀ j : Nat, j < s.size → w.cell? ⟨b, j, none⟩ = some (.int .u8 (bt s j))) (p : Nat) (hp0 : p ≤ s.size) (n : Nat) (hn : Sc s false p = some n) :
 Calls Tryz.prog 127 #[.slice (some ⟨b, 0, none⟩) s.size cap, .int .i64 p] w fun e w' => e = .returned (.tuple #[.int .i64 n, .int .i64 n]) ∧ Below w.heap.size w w' := by
 have RA : ∀ i : Nat, i ≤ s.size → _ := fun i hi => runeAt_walk s b cap w hT i hi (by omega) hc hp
 have HR := mkA RA
 have HS := mkA hs
 have HN := mkA hn
 have HP0 := mkA hp0
 clear RA hT hc hp hs hn hp0
 go_enter Tryz.func127, Tryz.ntmps127
 go_wp2
 repeat (go_quiet (fail); try go_wp2)
 go_loopw [4, 5] (fun v4 v5 wr => ∃ (i : Nat), v4 = .int .i64 i ∧ v5 = .int .i64 i ∧ w = wr ∧ Aside0 (i ≤ s.size) ∧ Aside0 (Sc s false i = some n)) (fun v4 v5 _ => msr s v4)
 case atStart => exact ⟨p, rfl, rfl, rfl, ⟨HP0.out⟩, ⟨HN.out⟩⟩
 case round =>
  obtain ⟨i, rfl, rfl, rfl, HI, HC⟩ := hrel
  by_cases hlt : i < s.size
  ·have HLT := mkA hlt
   have cR := HR.out i HI.out
   rcases sc_cases s i n hlt HC.out with ⟨hb, h⟩ | ⟨hb, h⟩ | ⟨hb, hc, hm, rfl⟩
   ·have HX := mkA h
    clear h
    rcases hb with hb | hb | hb | hb | hb
    all_goals
     rw [rn_ascii s i hlt _ hb (by decide)] at cR
     have HA := mkA (show i < s.size → bt s i < 128 from fun _ => by rw [hb]; decide)
     clear hb
     go_wp2_with (first | (go_at_call 129; refine cR.mono ?_; rintro e w' ⟨rfl, hB, hE⟩; obtain rfl := (hE HA.out).symm))
     repeat (go_quiet (fail); try go_wp2)
     go_roundw
     case rel => exact ⟨i + 1, by have := HS.out; have := HLT.out; exact w_up (by omega), by have := HS.out; have := HLT.out; exact w_up (by omega), by first | rfl | trivial, ⟨HLT.out⟩, HX⟩
     case measure => exact msr_upb s i HLT.out (by have := HS.out; omega)
   ·have HX := mkA h
    rw [rn_ascii s i hlt _ hb (by decide)] at cR
    have HA := mkA (show i < s.size → bt s i < 128 from fun _ => by rw [hb]; decide)
    clear h hb
    go_wp2_with (first | (go_at_call 129; refine cR.mono ?_; rintro e w' ⟨rfl, hB, hE⟩; obtain rfl := (hE HA.out).symm))
    repeat (go_quiet (fail); try go_wp2)
    clear cR
    go_loopw [4, 5] (fun v4 v5 wr => ∃ (j : Nat), v4 = .int .i64 j ∧ v5 = .int .i64 j ∧ w = wr ∧ Aside0 (j ≤ s.size ∧ i < j) ∧ Aside0 (Sc s true j = some n)) (fun v4 v5 _ => msr s v4)
    case atStart => exact ⟨i + 1, by have := HS.out; have := HLT.out; exact w_up (by omega), by have := HS.out; have := HLT.out; exact w_up (by omega), by first | rfl | trivial, ⟨HLT.out, by omega⟩, HX⟩
    case round =>
     obtain ⟨j, rfl, rfl, rfl, HJ, HD⟩ := hrel
     by_cases hlj : j < s.size
     ·have HLJ := mkA hlj
      have cR := HR.out j HJ.out.1
      rcases sc_cases_t s j n hlj HD.out with ⟨hb, h⟩ | ⟨hb, h⟩ | ⟨⟨ha, d1, d2, d3, d4⟩, h⟩
      ·have HY := mkA h
       clear h
       rcases hb with hb | hb
       all_goals
        rw [rn_ascii s j hlj _ hb (by decide)] at cR
        have HA2 := mkA (show j < s.size → bt s j < 128 from fun _ => by rw [hb]; decide)
        clear hb
        go_wp2_with (first | (go_at_call 129; refine cR.mono ?_; rintro e w' ⟨rfl, hB, hE⟩; obtain rfl := (hE HA2.out).symm))
        repeat (go_quiet (fail); try go_wp2)
        go_roundw
        case rel => exact ⟨j, rfl, rfl, by first | rfl | trivial, ⟨HJ.out.1⟩, HY⟩
        case measure => have h1 := HJ.out; have h2 := HLT.out; rw [msr_int, msr_int, Int.toNat_natCast, Int.toNat_natCast]; omega
      ·have HY := mkA h
       rw [rn_ascii s j hlj _ hb (by decide)] at cR
       have HA2 := mkA (show j < s.size → bt s j < 128 from fun _ => by rw [hb]; decide)
       clear hb h
       go_wp2_with (first | (go_at_call 129; refine cR.mono ?_; rintro e w' ⟨rfl, hB, hE⟩; obtain rfl := (hE HA2.out).symm))
       go_roundw
       case rel => exact ⟨j + 1, by have := HS.out; have := HLJ.out; exact w_up (by omega), by have := HS.out; have := HLJ.out; exact w_up (by omega), by first | rfl | trivial, ⟨HLJ.out, by have := HJ.out; omega⟩, HY⟩
       case measure => exact msr_upb s j HLJ.out (by have := HS.out; omega)
      ·have HY := mkA h
       rw [rn_ascii s j hlj _ rfl ha] at cR
       have HA2 := mkA (show j < s.size → bt s j < 128 from fun _ => ha)
       clear ha h
       go_wp2_with (first | (go_at_call 129; refine cR.mono ?_; rintro e w' ⟨rfl, hB, hE⟩; obtain rfl := (hE HA2.out).symm))
       go_roundw
       case rel => exact ⟨j + 1, by have := HS.out; have := HLJ.out; exact w_up (by omega), by have := HS.out; have := HLJ.out; exact w_up (by omega), by first | rfl | trivial, ⟨HLJ.out, by have := HJ.out; omega⟩, HY⟩
       case measure => exact msr_upb s j HLJ.out (by have := HS.out; omega)
     ·have cR := HR.out j HJ.out.1
      rw [rn_end s j hlj] at cR
      have HA2 := mkA (show j < s.size → bt s j < 128 from fun h => absurd h hlj)
      go_wp2_with (first | (go_at_call 129; refine cR.mono ?_; rintro e w' ⟨rfl, hB, hE⟩; obtain rfl := (hE HA2.out).symm))
      repeat (go_quiet (fail); try go_wp2)
      go_roundw
      case rel => exact ⟨j, rfl, rfl, by first | rfl | trivial, ⟨HJ.out.1⟩, ⟨(show Sc s false j = Sc s true j by rw [show j = s.size from by have := HJ.out; omega, sc_end, sc_end]).trans HD.out⟩⟩
      case measure => have h1 := HJ.out; have h2 := HLT.out; rw [msr_int, msr_int, Int.toNat_natCast, Int.toNat_natCast]; omega
   ·obtain ⟨c, k, hr, d1, d2, d3, d4, d5, d6, d7⟩ := rn_stop s HS.out i hlt hm hb hc
    rw [hr] at cR
    clear hr hb hc hm
    go_wp2_with (first | (go_at_call 129; refine cR.mono ?_; rintro e w' ⟨rfl, hB, hE⟩; have HB := mkA hB; clear hB hE))
    repeat (go_quiet (fail); try go_wp2)
    go_ret2
    exact ⟨rfl, HB.out⟩
  ·obtain rfl : i = n := by
    have e : i = s.size := by have := HI.out; omega
    have h := HC.out
    rw [e, sc_end] at h
    rw [e]; exact Option.some.inj h
   go_wp2
   repeat (go_quiet (fail); try go_wp2)
   go_ret2
   exact ⟨rfl, Below.refl _ _⟩
end Go.Proofs.YthgcghpcikbnkaaGreatDoor.R
