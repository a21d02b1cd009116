/- A part of the proof of the theorem of this claim: Lxp, Lxd, Lxe. No condition of its own. -/
import Derived.Test.YthgcghpcikbnkaaGreatDoorA12
set_option maxHeartbeats 16000000
set_option maxRecDepth 100000
namespace Go.Proofs.YthgcghpcikbnkaaGreatDoor.R
open Go.RowKit Go.Proofs.YthgcghpcikbnkaaGreatDoorW.PrintWords Go.Proofs.YthgcghpcikbnkaaGreatDoorW.PrintLast Go.Proofs.YthgcghpcikbnkaaGreatDoorW.PrintMore
set_option linter.unusedVariables false
set_option linter.unusedSimpArgs false
def PtR (s : ByteArray) (i : Nat) (c n : Int) : Prop :=
 n = 0 ∨ (n = 1 ∧ bt s i < 128 ∧ c = bt s i) ∨ ∃ m : Nat, n = m ∧ 2 ≤ m ∧ i + m ≤ s.size ∧ 128 ≤ c ∧ ∀ q : Nat, i ≤ q → q < i + m → 128 ≤ bt s q
def ptl (s : ByteArray) (n least : Int) : Nat → Nat → Int → Int × Int
 | 0, _, c => if c < least ∨ 1114111 < c ∨ (55296 ≤ c ∧ c < 57344) then (0, 0) else (c, n)
 | f + 1, p, c => if bt s p < 128 ∨ 191 < bt s p then (0, 0) else ptl s n least f (p + 1) (wrap64 (wrap64 (wrap64 (c * 64) + bt s p) - 128))
def ptm (s : ByteArray) (i m : Nat) (least c : Int) : Int × Int := if i + m ≤ s.size then ptl s m least (m - 1) (i + 1) c else (0, 0)
def ptF (s : ByteArray) (i : Nat) : Int × Int :=
 if bt s i < 128 then (bt s i, 1) else if 194 ≤ bt s i ∧ bt s i < 224 then ptm s i 2 128 (bt s i - 192) else if 224 ≤ bt s i ∧ bt s i < 240 then ptm s i 3 2048 (bt s i - 224) else if 240 ≤ bt s i ∧ bt s i < 245 then ptm s i 4 65536 (bt s i - 240) else (0, 0)
theorem ptl_step (s : ByteArray) (n least : Int) (i m p : Nat) (c : Int) (h : p < i + m) : ptl s n least (i + m - p) p c = if bt s p < 128 ∨ 191 < bt s p then (0, 0) else ptl s n least (i + m - (p + 1)) (p + 1) (wrap64 (wrap64 (wrap64 (c * 64) + bt s p) - 128)) := by
 rw [show i + m - p = (i + m - (p + 1)) + 1 from by omega]; rfl
theorem ptl_end (s : ByteArray) (n least : Int) (i m p : Nat) (c : Int) (h : p = i + m) : ptl s n least (i + m - p) p c = if c < least ∨ 1114111 < c ∨ (55296 ≤ c ∧ c < 57344) then (0, 0) else (c, n) := by
 rw [show i + m - p = 0 from by omega]; rfl
theorem ptl_ok (s : ByteArray) (n least : Int) : ∀ (f p : Nat) (c : Int), (ptl s n least f p c).2 = 0 ∨ ((ptl s n least f p c).2 = n ∧ least ≤ (ptl s n least f p c).1 ∧ ∀ q : Nat, p ≤ q → q < p + f → 128 ≤ bt s q) := by
 intro f
 induction f with
 | zero =>
   intro p c
   unfold ptl
   split
   ·exact .inl rfl
   ·exact .inr ⟨rfl, by show least ≤ c; omega, fun q h1 h2 => absurd h1 (by omega)⟩
 | succ f ih =>
   intro p c
   unfold ptl
   split
   ·exact .inl rfl
   ·rcases ih (p + 1) (wrap64 (wrap64 (wrap64 (c * 64) + bt s p) - 128)) with h | ⟨h1, h2, h3⟩
    ·exact .inl h
    ·refine .inr ⟨h1, h2, fun q h4 h5 => ?_⟩
     by_cases e : q = p
     ·rw [e]; omega
     ·exact h3 q (by omega) (by omega)
theorem ptm_ok (s : ByteArray) (i m : Nat) (least c : Int) (hm : 2 ≤ m) (hl : 128 ≤ least) (hb : 128 ≤ bt s i) : PtR s i (ptm s i m least c).1 (ptm s i m least c).2 := by
 unfold ptm
 split
 ·rcases ptl_ok s m least (m - 1) (i + 1) c with h | ⟨h1, h2, h3⟩
  ·exact .inl h
  ·refine .inr (.inr ⟨m, h1, hm, by assumption, by omega, fun q h4 h5 => ?_⟩)
   by_cases e : q = i
   ·rw [e]; exact hb
   ·exact h3 q (by omega) (by omega)
 ·exact .inl rfl
theorem ptF_ok (s : ByteArray) (i : Nat) : PtR s i (ptF s i).1 (ptF s i).2 := by
 unfold ptF
 split
 ·exact .inr (.inl ⟨rfl, by assumption, rfl⟩)
 split
 ·exact ptm_ok s i 2 128 _ (by decide) (by decide) (by omega)
 split
 ·exact ptm_ok s i 3 2048 _ (by decide) (by decide) (by omega)
 split
 ·exact ptm_ok s i 4 65536 _ (by decide) (by decide) (by omega)
 ·exact .inl rfl
theorem pt_ret {R : Int × Int} {c n : Int} {w : World} (h : R = (c, n)) : Qv (.tuple #[.int .i64 R.1, .int .i64 R.2]) w (.returned (.tuple #[.int .i64 c, .int .i64 n])) w := by subst h; exact ⟨rfl, rfl⟩
theorem point_d (s : ByteArray) (i : Nat) (hi : i < s.size) (hsz : s.size ≤ 2000) (w : World) : Calls Tryz.prog 33 #[.string s, .int .i64 i] w (Qv (.tuple #[.int .i64 (ptF s i).1, .int .i64 (ptF s i).2]) w) := by
 have hb0 := bt_nat s i hi
 obtain ⟨R, hR⟩ : ∃ R, R = ptF s i := ⟨_, rfl⟩
 rw [← hR]
 obtain ⟨b, hb⟩ : ∃ b, b = bt s i := ⟨_, rfl⟩
 have q1 : (i < s.size) = True := eq_true hi
 have q2 : ((i : Int) < (s.size : Int)) = True := eq_true (by omega)
 rw [← hb] at hb0
 have hlo := bt_lo s i
 rw [← hb] at hlo
 by_cases h1 : b < 128
 ·have HRE := mkA (show R = (b, 1) by rw [hR]; unfold ptF; rw [← hb, if_pos h1])
  have w1 : wrap64 b = b := w64 (by omega) (by omega)
  clear hb hsz hR
  go_enter Tryz.func33, Tryz.ntmps33
  go_wp2
  go_ret2
  exact pt_ret HRE.out
 by_cases h2 : 194 ≤ b ∧ b < 224
 ·obtain ⟨h2a, h2b⟩ := h2
  have w1 : wrap64 b = b := w64 (by omega) (by omega)
  have w2 : wrap64 ((i : Int) + 2) = (i : Int) + 2 := w64 (by omega) (by omega)
  have w3 : wrap64 ((i : Int) + 1) = ((i + 1 : Nat) : Int) := (w64 (by omega) (by omega)).trans (by omega)
  have w5 : wrap64 (b - 192) = b - 192 := w64 (by omega) (by omega)
  have HW3 := mkA w3
  clear w3
  have HRE := mkA (show R = ptm s i 2 128 (b - 192) by rw [hR]; unfold ptF; rw [← hb]; rw [if_neg (by omega), if_pos (by omega)])
  clear hR
  by_cases hs : i + 2 ≤ s.size
  case neg =>
   have q3 : ((i : Int) + 2 ≤ (s.size : Int)) = False := eq_false (by omega)
   have q4 : ((s.size : Int) < (i : Int) + 2) = True := eq_true (by omega)
   have HZ := mkA (show R = (0, 0) by rw [HRE.out]; unfold ptm; rw [if_neg hs])
   clear hs hsz
   go_enter Tryz.func33, Tryz.ntmps33
   go_wp2
   go_ret2
   exact pt_ret HZ.out
  case pos =>
   have q4 : ((s.size : Int) < (i : Int) + 2) = False := eq_false (by omega)
   have HS := mkA hs
   have HI := mkA hi
   have HZ := mkA hsz
   have HRL := mkA (show R = ptl s 2 128 (i + 2 - (i + 1)) (i + 1) (b - 192) by rw [HRE.out]; unfold ptm; rw [if_pos hs, show i + 2 - (i + 1) = 2 - 1 from by omega]; rfl)
   clear hs hsz HRE
   go_enter Tryz.func33, Tryz.ntmps33
   go_wp2
   go_loop [4, 5, 8] (fun v4 v5 v8 => ∃ (c : Int) (p : Nat), v4 = .int .i64 c ∧ v5 = .int .i64 2 ∧ v8 = .int .i64 p ∧ Aside0 (i + 1 ≤ p ∧ p ≤ i + 2 ∧ R = ptl s 2 128 (i + 2 - p) p c)) (fun _ _ v8 => i + 2 - (intOf v8).toNat)
   case atStart =>
    exact ⟨b - 192, i + 1, by first | rfl | exact congrArg (Value.int .i64) w5 | exact congrArg (Value.int .i64) (by rw [hb]), rfl, congrArg (Value.int .i64) HW3.out, ⟨Nat.le_refl _, by omega, HRL.out⟩⟩
   case round =>
    obtain ⟨c, p, rfl, rfl, rfl, HP⟩ := hrel
    clear w5 HRL
    by_cases hp : p < i + 2
    ·have hps : p < s.size := by have := HS.out; omega
     have q5 : ((p : Int) < (i : Int) + 2) = True := eq_true (by omega)
     have q6 : ((p : Int) < (s.size : Int)) = True := eq_true (by omega)
     have q7 : (p < s.size) = True := eq_true hps
     have hbp := bt_nat s p hps
     obtain ⟨x, hx⟩ : ∃ x, x = bt s p := ⟨_, rfl⟩
     rw [← hx] at hbp
     have hxl := bt_lo s p
     rw [← hx] at hxl
     have w6 : wrap64 x = x := w64 (by omega) (by omega)
     have HX := mkA hx
     have HPL := mkA hp
     have HNW := mkA (show wrap64 ((p : Int) + 1) = ((p + 1 : Nat) : Int) from by have := HZ.out; exact (w64 (by omega) (by omega)).trans (by omega))
     have HST := mkA (HP.out.2.2.trans (ptl_step s 2 128 i 2 p c hp))
     clear hx hp hxl
     by_cases x1 : x < 128
     ·have HZZ := mkA (show R = (0, 0) by rw [HST.out, ← HX.out, if_pos (.inl x1)])
      go_wp2
      go_ret2
      exact pt_ret HZZ.out
     ·by_cases x2 : 191 < x
      ·have HZZ := mkA (show R = (0, 0) by rw [HST.out, ← HX.out, if_pos (.inr x2)])
       go_wp2
       go_ret2
       exact pt_ret HZZ.out
      ·have HNX := mkA (show R = ptl s 2 128 (i + 2 - (p + 1)) (p + 1) (wrap64 (wrap64 (wrap64 (c * 64) + x) - 128)) by rw [HST.out, ← HX.out, if_neg (by omega)])
       go_wp2
       go_round
       case rel => exact ⟨_, p + 1, rfl, rfl, congrArg (Value.int .i64) HNW.out, ⟨by have := HP.out.1; omega, HPL.out, HNX.out⟩⟩
       case measure =>
        rw [HNW.out]
        have := HPL.out
        simp only [intOf]
        omega
    ·have q5 : ((p : Int) < (i : Int) + 2) = False := eq_false (by omega)
     have hp2 : p = i + 2 := by have := HP.out.2.1; omega
     have HRF := mkA (HP.out.2.2.trans (ptl_end s 2 128 i 2 p c hp2))
     clear hp hp2
     go_wp2
     all_goals go_ret2
     all_goals first
      | (refine pt_ret (HRF.out.trans ?_); rw [if_pos (by omega)]; done)
      | (refine pt_ret (HRF.out.trans ?_); rw [if_neg (by omega)]; done)
 by_cases h3 : 224 ≤ b ∧ b < 240
 ·obtain ⟨h2a, h2b⟩ := h3
  have w1 : wrap64 b = b := w64 (by omega) (by omega)
  have w2 : wrap64 ((i : Int) + 3) = (i : Int) + 3 := w64 (by omega) (by omega)
  have w3 : wrap64 ((i : Int) + 1) = ((i + 1 : Nat) : Int) := (w64 (by omega) (by omega)).trans (by omega)
  have w5 : wrap64 (b - 224) = b - 224 := w64 (by omega) (by omega)
  have HW3 := mkA w3
  clear w3
  have HRE := mkA (show R = ptm s i 3 2048 (b - 224) by rw [hR]; unfold ptF; rw [← hb]; rw [if_neg (by omega), if_neg (by omega), if_pos (by omega)])
  clear hR
  by_cases hs : i + 3 ≤ s.size
  case neg =>
   have q3 : ((i : Int) + 3 ≤ (s.size : Int)) = False := eq_false (by omega)
   have q4 : ((s.size : Int) < (i : Int) + 3) = True := eq_true (by omega)
   have HZ := mkA (show R = (0, 0) by rw [HRE.out]; unfold ptm; rw [if_neg hs])
   clear hs hsz
   go_enter Tryz.func33, Tryz.ntmps33
   go_wp2
   go_ret2
   exact pt_ret HZ.out
  case pos =>
   have q4 : ((s.size : Int) < (i : Int) + 3) = False := eq_false (by omega)
   have HS := mkA hs
   have HI := mkA hi
   have HZ := mkA hsz
   have HRL := mkA (show R = ptl s 3 2048 (i + 3 - (i + 1)) (i + 1) (b - 224) by rw [HRE.out]; unfold ptm; rw [if_pos hs, show i + 3 - (i + 1) = 3 - 1 from by omega]; rfl)
   clear hs hsz HRE
   go_enter Tryz.func33, Tryz.ntmps33
   go_wp2
   go_loop [4, 5, 8] (fun v4 v5 v8 => ∃ (c : Int) (p : Nat), v4 = .int .i64 c ∧ v5 = .int .i64 3 ∧ v8 = .int .i64 p ∧ Aside0 (i + 1 ≤ p ∧ p ≤ i + 3 ∧ R = ptl s 3 2048 (i + 3 - p) p c)) (fun _ _ v8 => i + 3 - (intOf v8).toNat)
   case atStart =>
    exact ⟨b - 224, i + 1, by first | rfl | exact congrArg (Value.int .i64) w5 | exact congrArg (Value.int .i64) (by rw [hb]), rfl, congrArg (Value.int .i64) HW3.out, ⟨Nat.le_refl _, by omega, HRL.out⟩⟩
   case round =>
    obtain ⟨c, p, rfl, rfl, rfl, HP⟩ := hrel
    clear w5 HRL
    by_cases hp : p < i + 3
    ·have hps : p < s.size := by have := HS.out; omega
     have q5 : ((p : Int) < (i : Int) + 3) = True := eq_true (by omega)
     have q6 : ((p : Int) < (s.size : Int)) = True := eq_true (by omega)
     have q7 : (p < s.size) = True := eq_true hps
     have hbp := bt_nat s p hps
     obtain ⟨x, hx⟩ : ∃ x, x = bt s p := ⟨_, rfl⟩
     rw [← hx] at hbp
     have hxl := bt_lo s p
     rw [← hx] at hxl
     have w6 : wrap64 x = x := w64 (by omega) (by omega)
     have HX := mkA hx
     have HPL := mkA hp
     have HNW := mkA (show wrap64 ((p : Int) + 1) = ((p + 1 : Nat) : Int) from by have := HZ.out; exact (w64 (by omega) (by omega)).trans (by omega))
     have HST := mkA (HP.out.2.2.trans (ptl_step s 3 2048 i 3 p c hp))
     clear hx hp hxl
     by_cases x1 : x < 128
     ·have HZZ := mkA (show R = (0, 0) by rw [HST.out, ← HX.out, if_pos (.inl x1)])
      go_wp2
      go_ret2
      exact pt_ret HZZ.out
     ·by_cases x2 : 191 < x
      ·have HZZ := mkA (show R = (0, 0) by rw [HST.out, ← HX.out, if_pos (.inr x2)])
       go_wp2
       go_ret2
       exact pt_ret HZZ.out
      ·have HNX := mkA (show R = ptl s 3 2048 (i + 3 - (p + 1)) (p + 1) (wrap64 (wrap64 (wrap64 (c * 64) + x) - 128)) by rw [HST.out, ← HX.out, if_neg (by omega)])
       go_wp2
       go_round
       case rel => exact ⟨_, p + 1, rfl, rfl, congrArg (Value.int .i64) HNW.out, ⟨by have := HP.out.1; omega, HPL.out, HNX.out⟩⟩
       case measure =>
        rw [HNW.out]
        have := HPL.out
        simp only [intOf]
        omega
    ·have q5 : ((p : Int) < (i : Int) + 3) = False := eq_false (by omega)
     have hp2 : p = i + 3 := by have := HP.out.2.1; omega
     have HRF := mkA (HP.out.2.2.trans (ptl_end s 3 2048 i 3 p c hp2))
     clear hp hp2
     go_wp2
     all_goals go_ret2
     all_goals first
      | (refine pt_ret (HRF.out.trans ?_); rw [if_pos (by omega)]; done)
      | (refine pt_ret (HRF.out.trans ?_); rw [if_neg (by omega)]; done)
 by_cases h4 : 240 ≤ b ∧ b < 245
 ·obtain ⟨h2a, h2b⟩ := h4
  have w1 : wrap64 b = b := w64 (by omega) (by omega)
  have w2 : wrap64 ((i : Int) + 4) = (i : Int) + 4 := w64 (by omega) (by omega)
  have w3 : wrap64 ((i : Int) + 1) = ((i + 1 : Nat) : Int) := (w64 (by omega) (by omega)).trans (by omega)
  have w5 : wrap64 (b - 240) = b - 240 := w64 (by omega) (by omega)
  have HW3 := mkA w3
  clear w3
  have HRE := mkA (show R = ptm s i 4 65536 (b - 240) by rw [hR]; unfold ptF; rw [← hb]; rw [if_neg (by omega), if_neg (by omega), if_neg (by omega), if_pos (by omega)])
  clear hR
  by_cases hs : i + 4 ≤ s.size
  case neg =>
   have q3 : ((i : Int) + 4 ≤ (s.size : Int)) = False := eq_false (by omega)
   have q4 : ((s.size : Int) < (i : Int) + 4) = True := eq_true (by omega)
   have HZ := mkA (show R = (0, 0) by rw [HRE.out]; unfold ptm; rw [if_neg hs])
   clear hs hsz
   go_enter Tryz.func33, Tryz.ntmps33
   go_wp2
   go_ret2
   exact pt_ret HZ.out
  case pos =>
   have q4 : ((s.size : Int) < (i : Int) + 4) = False := eq_false (by omega)
   have HS := mkA hs
   have HI := mkA hi
   have HZ := mkA hsz
   have HRL := mkA (show R = ptl s 4 65536 (i + 4 - (i + 1)) (i + 1) (b - 240) by rw [HRE.out]; unfold ptm; rw [if_pos hs, show i + 4 - (i + 1) = 4 - 1 from by omega]; rfl)
   clear hs hsz HRE
   go_enter Tryz.func33, Tryz.ntmps33
   go_wp2
   go_loop [4, 5, 8] (fun v4 v5 v8 => ∃ (c : Int) (p : Nat), v4 = .int .i64 c ∧ v5 = .int .i64 4 ∧ v8 = .int .i64 p ∧ Aside0 (i + 1 ≤ p ∧ p ≤ i + 4 ∧ R = ptl s 4 65536 (i + 4 - p) p c)) (fun _ _ v8 => i + 4 - (intOf v8).toNat)
   case atStart =>
    exact ⟨b - 240, i + 1, by first | rfl | exact congrArg (Value.int .i64) w5 | exact congrArg (Value.int .i64) (by rw [hb]), rfl, congrArg (Value.int .i64) HW3.out, ⟨Nat.le_refl _, by omega, HRL.out⟩⟩
   case round =>
    obtain ⟨c, p, rfl, rfl, rfl, HP⟩ := hrel
    clear w5 HRL
    by_cases hp : p < i + 4
    ·have hps : p < s.size := by have := HS.out; omega
     have q5 : ((p : Int) < (i : Int) + 4) = True := eq_true (by omega)
     have q6 : ((p : Int) < (s.size : Int)) = True := eq_true (by omega)
     have q7 : (p < s.size) = True := eq_true hps
     have hbp := bt_nat s p hps
     obtain ⟨x, hx⟩ : ∃ x, x = bt s p := ⟨_, rfl⟩
     rw [← hx] at hbp
     have hxl := bt_lo s p
     rw [← hx] at hxl
     have w6 : wrap64 x = x := w64 (by omega) (by omega)
     have HX := mkA hx
     have HPL := mkA hp
     have HNW := mkA (show wrap64 ((p : Int) + 1) = ((p + 1 : Nat) : Int) from by have := HZ.out; exact (w64 (by omega) (by omega)).trans (by omega))
     have HST := mkA (HP.out.2.2.trans (ptl_step s 4 65536 i 4 p c hp))
     clear hx hp hxl
     by_cases x1 : x < 128
     ·have HZZ := mkA (show R = (0, 0) by rw [HST.out, ← HX.out, if_pos (.inl x1)])
      go_wp2
      go_ret2
      exact pt_ret HZZ.out
     ·by_cases x2 : 191 < x
      ·have HZZ := mkA (show R = (0, 0) by rw [HST.out, ← HX.out, if_pos (.inr x2)])
       go_wp2
       go_ret2
       exact pt_ret HZZ.out
      ·have HNX := mkA (show R = ptl s 4 65536 (i + 4 - (p + 1)) (p + 1) (wrap64 (wrap64 (wrap64 (c * 64) + x) - 128)) by rw [HST.out, ← HX.out, if_neg (by omega)])
       go_wp2
       go_round
       case rel => exact ⟨_, p + 1, rfl, rfl, congrArg (Value.int .i64) HNW.out, ⟨by have := HP.out.1; omega, HPL.out, HNX.out⟩⟩
       case measure =>
        rw [HNW.out]
        have := HPL.out
        simp only [intOf]
        omega
    ·have q5 : ((p : Int) < (i : Int) + 4) = False := eq_false (by omega)
     have hp2 : p = i + 4 := by have := HP.out.2.1; omega
     have HRF := mkA (HP.out.2.2.trans (ptl_end s 4 65536 i 4 p c hp2))
     clear hp hp2
     go_wp2
     all_goals go_ret2
     all_goals first
      | (refine pt_ret (HRF.out.trans ?_); rw [if_pos (by omega)]; done)
      | (refine pt_ret (HRF.out.trans ?_); rw [if_neg (by omega)]; done)
 have w1 : wrap64 b = b := w64 (by omega) (by omega)
 have h9 : b < 194 ∨ 245 ≤ b := by omega
 have HRE := mkA (show R = (0, 0) by rw [hR]; unfold ptF; rw [← hb, if_neg (by omega), if_neg (by omega), if_neg (by omega), if_neg (by omega)])
 rcases h9 with h9 | h9
 all_goals
  clear hb h2 h3 h4 hsz hR
  go_enter Tryz.func33, Tryz.ntmps33
  go_wp2
  go_ret2
  exact pt_ret HRE.out
theorem digits_q {C : LC} {w : World} {t : LS} (h : LX C w t) (i : Nat) (hi : i ≤ C.s.size + 2) : Calls Tryz.prog 121 #[ptr C.gx, .int .i64 i] w (Qv (.int .i64 (dg C.s i)) w) := by
 have HP := mkA h
 have SZ := mkA h.sz
 have HI := mkA hi
 clear h hi
 go_enter Tryz.func121, Tryz.ntmps121
 go_wp2
 go_loop [1] (fun v1 => ∃ p : Nat, v1 = .int .i64 p ∧ Aside0 (p ≤ C.s.size + 2 ∧ dg C.s i = dg C.s p)) (fun v1 => C.s.size + 3 - (intOf v1).toNat)
 case atStart => exact ⟨i, rfl, ⟨HI.out, rfl⟩⟩
 case round =>
  obtain ⟨p, rfl, HR⟩ := hrel
  have HNW := mkA (show wrap64 ((p : Int) + 1) = ((p + 1 : Nat) : Int) from by have := SZ.out; have := HR.out.1; exact (w64 (by omega) (by omega)).trans (by omega))
  cases hd : isD (nx C.s p)
  ·have HD := mkA hd
   go_wp2_with (first
    | (go_at_call 70; (with_reducible refine (next_q HP.out p).mono ?_); rintro e w_ ⟨rfl, hw_⟩; subst w_)
    | (go_at_call 71; (with_reducible refine (isDigit_q (nx C.s p) _).mono ?_); rintro e w_ ⟨rfl, hw_⟩; subst w_; rw [HD.out]))
   go_ret
   exact ret_eq (congrArg (Value.int .i64) (by rw [HR.out.2, dg_no _ _ HD.out]))
  ·have HD := mkA hd
   go_wp2_with (first
    | (go_at_call 70; (with_reducible refine (next_q HP.out p).mono ?_); rintro e w_ ⟨rfl, hw_⟩; subst w_)
    | (go_at_call 71; (with_reducible refine (isDigit_q (nx C.s p) _).mono ?_); rintro e w_ ⟨rfl, hw_⟩; subst w_; rw [HD.out]))
   go_round
   case rel => exact ⟨p + 1, congrArg (Value.int .i64) HNW.out, ⟨by have := nx_in C.s p (by intro e; have := HD.out; rw [e] at this; cases this); omega, by rw [HR.out.2, dg_yes _ _ HD.out]⟩⟩
   case measure =>
    rw [HNW.out]
    have := nx_in C.s p (by intro e; have := HD.out; rw [e] at this; cases this)
    simp only [intOf]
    omega
def NuR (o : Option (Int × Nat)) (K z : Int) : Prop := (o = none ∧ K = 0 ∧ z = 0) ∨ ∃ q : Nat, o = some (K, q) ∧ z = q
def NuP (s : ByteArray) (p : Nat) (w : World) (e : Ending) (w' : World) : Prop := ∃ K z : Int, e = .returned (.tuple #[.int .i64 K, .int .i64 z]) ∧ w' = w ∧ NuR (numAt s p) K z
theorem nu_none {s : ByteArray} {p : Nat} {w : World} (h : numAt s p = none) : NuP s p w (.returned (.tuple #[.int .i64 0, .int .i64 0])) w := ⟨0, 0, rfl, rfl, .inl ⟨h, rfl, rfl⟩⟩
theorem nu_some {s : ByteArray} {p q : Nat} {w : World} {K z : Int} (h : numAt s p = some (K, q)) (hz : z = q) : NuP s p w (.returned (.tuple #[.int .i64 K, .int .i64 z])) w := ⟨K, z, rfl, rfl, .inr ⟨q, h, hz⟩⟩
theorem numeral_q {C : LC} {w : World} {t : LS} (h : LX C w t) (p : Nat) (hp : p < C.s.size) (hd : nx C.s p = 45 ∨ isD (nx C.s p) = true) : Calls Tryz.prog 92 #[ptr C.gx, .int .i64 p] w (NuP C.s p w) := by
 have HP := mkA h
 have SZ := mkA h.sz
 have HI := mkA hp
 have HD := mkA hd
 have N0 := mkA (next_q h p)
 obtain ⟨x0, hx0⟩ : ∃ x, x = nx C.s p := ⟨_, rfl⟩
 rw [← hx0] at N0
 have HX0 := mkA hx0
 have W0 := mkA (show wrap64 ((p : Int) + 1) = ((p + 1 : Nat) : Int) from by have := SZ.out; exact (w64 (by omega) (by omega)).trans (by omega))
 clear h hp hd hx0
 go_enter Tryz.func92, Tryz.ntmps92
 go_upto_if 11 with (first
  | (go_at_call 70; (with_reducible refine N0.out.mono ?_); rintro e w_ ⟨rfl, hw_⟩; subst w_))
 go_cut [1] (fun v1 wc => ∃ a : Nat, v1 = .int .i64 a ∧ Aside0 (a = if nx C.s p = 45 then p + 1 else p) ∧ Aside0 (wc = w))
 case first =>
  by_cases h45 : x0 = 45
  ·have q := show (x0 == 45) = true from by rw [h45]; rfl
   have H := mkA h45
   clear h45
   go_wp2
   go_meet
   exact ⟨p + 1, congrArg (Value.int .i64) W0.out, ⟨by rw [← HX0.out, if_pos H.out]⟩, ⟨rfl⟩⟩
  ·have q := show (x0 == 45) = false from by simpa using h45
   have H := mkA h45
   clear h45
   go_wp2
   go_meet
   exact ⟨p, rfl, ⟨by rw [← HX0.out, if_neg H.out]⟩, ⟨rfl⟩⟩
 case rest =>
  obtain ⟨a, rfl, HA, HW⟩ := hcut
  have hw := HW.out
  clear HW
  subst wc
  have hnum : numAt C.s p = num1 C.s a := by unfold numAt; rw [HA.out]
  have hal : a ≤ C.s.size := by have := HI.out; rw [HA.out]; split <;> omega
  have HN := mkA hnum
  have c0 : w.cell? ⟨C.gx, 0, none⟩ = some (.string C.s) := by
   obtain ⟨A, cp, hc, _⟩ := HP.out.cell
   exact (blk_cell hc 0).trans rfl
  have HL := mkA hal
  have NA := mkA (digits_q HP.out a (by omega))
  obtain ⟨z, hz⟩ : ∃ z : Nat, z = dg C.s a := ⟨_, rfl⟩
  have hzl : z ≤ C.s.size := by rw [hz]; exact dg_le _ _ hal
  have hza : a ≤ z := by rw [hz]; exact dg_ge _ _
  rw [← hz] at NA
  have HZ := mkA hz
  have HZL := mkA hzl
  clear hnum hz
  by_cases hzz : z = a
  ·have q := show ((z : Int) == (a : Int)) = true from by rw [hzz]; exact beq_self_eq_true _
   have q2 := show (z == a) = true from by rw [hzz]; exact beq_self_eq_true _
   have H := mkA hzz
   clear hzz hal hzl hza
   go_wp2_with (first
    | (go_at_call 121; (with_reducible refine NA.out.mono ?_); rintro e w_ ⟨rfl, hw_⟩; subst w_))
   go_ret2
   exact nu_none (by rw [HN.out]; unfold num1; rw [if_pos (.inl (by rw [← HZ.out]; exact H.out))])
  ·have q := show ((z : Int) == (a : Int)) = false from beq_eq_false_iff_ne.mpr (by omega)
   have q2 := show (z == a) = false from beq_eq_false_iff_ne.mpr hzz
   have has : a < C.s.size := by omega
   have q3 : (a < C.s.size) = True := eq_true has
   have q4 : ((a : Int) < (C.s.size : Int)) = True := eq_true (by omega)
   have hx := bt_nat C.s a has
   obtain ⟨x, hxx⟩ : ∃ x, x = bt C.s a := ⟨_, rfl⟩
   rw [← hxx] at hx
   have hxn : nx C.s a = x := by rw [hxx]; unfold nx; rw [if_pos has]
   have HX := mkA hxn
   have HZZ := mkA hzz
   have wa : wrap64 ((a : Int) + 1) = ((a + 1 : Nat) : Int) := by have := SZ.out; exact (w64 (by omega) (by omega)).trans (by omega)
   have HAZ := mkA hza
   clear hxn hxx hzz hal hzl hza
   by_cases h0 : x = 48 ∧ a + 1 < z
   ·have q5 := show (x == 48) = true from by rw [h0.1]; rfl
    have q8 : ((a : Int) + 1 < (z : Int)) = True := eq_true (by omega)
    have H := mkA h0
    clear h0
    go_wp2_with (first
     | (go_at_call 121; (with_reducible refine NA.out.mono ?_); rintro e w_ ⟨rfl, hw_⟩; subst w_))
    go_ret2
    exact nu_none (by rw [HN.out]; unfold num1; rw [if_pos (.inr ⟨by rw [HX.out]; exact H.out.1, by rw [← HZ.out]; exact H.out.2⟩)])
   ·have HNF := mkA (show numAt C.s p = frac C.s z from by rw [HN.out]; unfold num1; rw [if_neg (by rw [← HZ.out, HX.out]; intro hh; rcases hh with hh | hh; exact HZZ.out hh; exact h0 hh), ← HZ.out])
    have NZ := mkA (next_q HP.out z)
    obtain ⟨y, hy⟩ : ∃ y, y = nx C.s z := ⟨_, rfl⟩
    rw [← hy] at NZ
    have HY := mkA hy
    clear hy
    by_cases hb : x = 48
    case' neg =>
     have q5 := show (x == 48) = false from by simpa using hb
     clear h0 hb
     go_upto_if 38 with (first
      | (go_at_call 121; (with_reducible refine NA.out.mono ?_); rintro e w_ ⟨rfl, hw_⟩; subst w_)
      | (go_at_call 70; (with_reducible refine NZ.out.mono ?_); rintro e w_ ⟨rfl, hw_⟩; subst w_))
    case' pos =>
     have q5 := show (x == 48) = true from by rw [hb]; rfl
     have q8 : ((a : Int) + 1 < (z : Int)) = False := eq_false (fun hh => h0 ⟨hb, by omega⟩)
     clear h0 hb
     go_upto_if 38 with (first
      | (go_at_call 121; (with_reducible refine NA.out.mono ?_); rintro e w_ ⟨rfl, hw_⟩; subst w_)
      | (go_at_call 70; (with_reducible refine NZ.out.mono ?_); rintro e w_ ⟨rfl, hw_⟩; subst w_))
    all_goals
     go_cut [1, 4, 5] (fun v1 v4 v5 wc => ∃ (a : Nat) (K : Int) (q : Nat), v1 = .int .i64 a ∧ v4 = .int .i64 K ∧ v5 = .int .i64 q ∧ Aside0 (numAt C.s p = expo C.s K q) ∧ Aside0 (q ≤ C.s.size) ∧ Aside0 (wc = w))
     case first =>
      by_cases h46 : y = 46
      ·have hzs : z < C.s.size := nx_in C.s z (by rw [← HY.out, h46]; decide)
       have q := show (y == 46) = true from by rw [h46]; rfl
       have H := mkA (HY.out.symm.trans h46)
       have wz : wrap64 ((z : Int) + 1) = ((z + 1 : Nat) : Int) := by have := SZ.out; exact (w64 (by omega) (by omega)).trans (by omega)
       have NB := mkA (show Calls Tryz.prog 121 #[ptr C.gx, .int .i64 ((z : Int) + 1)] w (Qv (.int .i64 (dg C.s (z + 1))) w) from digits_q HP.out (z + 1) (by omega))
       obtain ⟨z2, hz2⟩ : ∃ z2 : Nat, z2 = dg C.s (z + 1) := ⟨_, rfl⟩
       have hzl2 : z2 ≤ C.s.size := by rw [hz2]; exact dg_le _ _ hzs
       rw [← hz2] at NB
       have HZ2 := mkA hz2
       have HZL2 := mkA hzl2
       clear h46 hz2 hzl2 hzs
       by_cases he : z2 = z + 1
       ·have q2 := show ((z2 : Int) == ((z + 1 : Nat) : Int)) = true from by rw [he]; exact beq_self_eq_true _
        have q3 := show (z2 == z + 1) = true from by rw [he]; exact beq_self_eq_true _
        have q4 := show ((z2 : Int) == (z : Int) + 1) = true from by rw [he]; exact beq_self_eq_true _
        have H2 := mkA he
        clear he
        go_wp2_with (first
         | (go_at_call 121; (with_reducible refine NB.out.mono ?_); rintro e w_ ⟨rfl, hw_⟩; subst w_))
        go_ret2
        exact nu_none (by rw [HNF.out]; unfold frac; rw [if_pos H.out, if_pos (by rw [← HZ2.out]; exact H2.out)])
       ·have q2 := show ((z2 : Int) == ((z + 1 : Nat) : Int)) = false from beq_eq_false_iff_ne.mpr (by omega)
        have q3 := show (z2 == z + 1) = false from beq_eq_false_iff_ne.mpr he
        have q4 := show ((z2 : Int) == (z : Int) + 1) = false from beq_eq_false_iff_ne.mpr (by omega)
        have H2 := mkA he
        clear he
        go_wp2_with (first
         | (go_at_call 121; (with_reducible refine NB.out.mono ?_); rintro e w_ ⟨rfl, hw_⟩; subst w_))
        go_meet
        exact ⟨z + 1, 17, z2, congrArg (Value.int .i64) (by first | rfl | exact wz), rfl, rfl, ⟨by rw [HNF.out]; unfold frac; rw [if_pos H.out, if_neg (by rw [← HZ2.out]; exact H2.out), ← HZ2.out]⟩, HZL2, ⟨rfl⟩⟩
      ·have q := show (y == 46) = false from by simpa using h46
       have H := mkA h46
       clear h46
       go_wp2
       go_meet
       exact ⟨a, 16, z, rfl, rfl, rfl, ⟨by rw [HNF.out]; exact frac_no _ _ (by rw [← HY.out]; exact H.out)⟩, HZL, ⟨rfl⟩⟩
     case rest =>
      obtain ⟨a, K, q, rfl, rfl, rfl, HE, HQ, HW⟩ := hcut
      have hw := HW.out
      clear HW
      subst wc
      clear N0 NA NZ HX0 HX HY HZZ HAZ HZ HZL HNF HN HL HA
      have N1 := mkA (next_q HP.out q)
      obtain ⟨c, hc⟩ : ∃ c, c = nx C.s q := ⟨_, rfl⟩
      rw [← hc] at N1
      have HCC := mkA hc
      clear hc
      by_cases he : c = 101 ∨ c = 69
      case neg =>
       have p1 := show (c == 101) = false from beq_eq_false_iff_ne.mpr (fun h => he (.inl h))
       have p2 := show (c == 69) = false from beq_eq_false_iff_ne.mpr (fun h => he (.inr h))
       have H := mkA he
       clear he
       go_wp2_with (first
        | (go_at_call 70; (with_reducible refine N1.out.mono ?_); rintro e w_ ⟨rfl, hw_⟩; subst w_))
       go_ret2
       exact nu_some (by rw [HE.out]; exact expo_no _ _ _ (by rw [← HCC.out]; exact fun h => H.out (.inl h)) (by rw [← HCC.out]; exact fun h => H.out (.inr h))) rfl
      case pos =>
       have hqs : q < C.s.size := nx_in C.s q (by rw [← HCC.out]; omega)
       have HX := mkA (show nx C.s q = 101 ∨ nx C.s q = 69 by rw [← HCC.out]; exact he)
       have W1 : wrap64 ((q : Int) + 1) = ((q + 1 : Nat) : Int) := by have := SZ.out; exact (w64 (by omega) (by omega)).trans (by omega)
       have W2 : wrap64 (((q + 1 : Nat) : Int) + 1) = ((q + 2 : Nat) : Int) := by have := SZ.out; exact (w64 (by omega) (by omega)).trans (by omega)
       have N2 := mkA (next_q HP.out (q + 1))
       have N3 := mkA (digits_q HP.out (q + 1) (by omega))
       have N4 := mkA (digits_q HP.out (q + 2) (by omega))
       obtain ⟨q1, h1⟩ : ∃ q1 : Int, q1 = ((q + 1 : Nat) : Int) := ⟨_, rfl⟩
       obtain ⟨q2, h2⟩ : ∃ q2 : Int, q2 = ((q + 2 : Nat) : Int) := ⟨_, rfl⟩
       obtain ⟨d, hd⟩ : ∃ d, d = nx C.s (q + 1) := ⟨_, rfl⟩
       obtain ⟨z3, h3⟩ : ∃ z3 : Int, z3 = dg C.s (q + 1) := ⟨_, rfl⟩
       obtain ⟨z4, h4⟩ : ∃ z4 : Int, z4 = dg C.s (q + 2) := ⟨_, rfl⟩
       rw [← h1] at W1 W2 N2 N3
       rw [← h2] at W2 N4
       rw [← hd] at N2
       rw [← h3] at N3
       rw [← h4] at N4
       have H1 := mkA h1
       have H2 := mkA h2
       have H3 := mkA h3
       have H4 := mkA h4
       have HDD := mkA hd
       have hcs : (c == 101) = true ∨ ((c == 101) = false ∧ (c == 69) = true) := by
        rcases he with h | h
        ·exact .inl (by rw [h]; rfl)
        ·exact .inr ⟨by rw [h]; rfl, by rw [h]; rfl⟩
       clear h1 h2 h3 h4 hd he hqs
       by_cases hs : d = 43 ∨ d = 45
       case neg =>
        have p1 := show (d == 43) = false from beq_eq_false_iff_ne.mpr (fun h => hs (.inl h))
        have p2 := show (d == 45) = false from beq_eq_false_iff_ne.mpr (fun h => hs (.inr h))
        have HS := mkA (show ¬ (nx C.s (q + 1) = 43 ∨ nx C.s (q + 1) = 45) by rw [← HDD.out]; exact hs)
        clear hs
        by_cases hz : z3 = q1
        case pos =>
         have p3 := show (z3 == q1) = true from by rw [hz]; exact beq_self_eq_true _
         have HZ := mkA (show dg C.s (q + 1) = q + 1 by rw [H3.out, H1.out] at hz; omega)
         clear hz
         rcases hcs with p5 | ⟨p5, p6⟩
         all_goals
          go_wp2_with (first
           | (go_at_call 70; (with_reducible refine N1.out.mono ?_); rintro e w_ ⟨rfl, hw_⟩; subst w_)
           | (go_at_call 70; (with_reducible refine N2.out.mono ?_); rintro e w_ ⟨rfl, hw_⟩; subst w_)
           | (go_at_call 121; (with_reducible refine N3.out.mono ?_); rintro e w_ ⟨rfl, hw_⟩; subst w_))
          go_ret2
          exact nu_none (by rw [HE.out]; unfold expo; rw [if_pos HX.out, if_neg HS.out, if_pos HZ.out])
        case neg =>
         have p3 := show (z3 == q1) = false from beq_eq_false_iff_ne.mpr hz
         have HZ := mkA (show ¬ dg C.s (q + 1) = q + 1 by rw [H3.out, H1.out] at hz; omega)
         clear hz
         rcases hcs with p5 | ⟨p5, p6⟩
         all_goals
          go_wp2_with (first
           | (go_at_call 70; (with_reducible refine N1.out.mono ?_); rintro e w_ ⟨rfl, hw_⟩; subst w_)
           | (go_at_call 70; (with_reducible refine N2.out.mono ?_); rintro e w_ ⟨rfl, hw_⟩; subst w_)
           | (go_at_call 121; (with_reducible refine N3.out.mono ?_); rintro e w_ ⟨rfl, hw_⟩; subst w_))
          go_ret2
          exact nu_some (by rw [HE.out]; unfold expo; rw [if_pos HX.out, if_neg HS.out, if_neg HZ.out]) H3.out
       case pos =>
        have hds : (d == 43) = true ∨ ((d == 43) = false ∧ (d == 45) = true) := by
         rcases hs with h | h
         ·exact .inl (by rw [h]; rfl)
         ·exact .inr ⟨by rw [h]; rfl, by rw [h]; rfl⟩
        have HS := mkA (show nx C.s (q + 1) = 43 ∨ nx C.s (q + 1) = 45 by rw [← HDD.out]; exact hs)
        clear hs
        by_cases hz : z4 = q2
        case pos =>
         have p3 := show (z4 == q2) = true from by rw [hz]; exact beq_self_eq_true _
         have HZ := mkA (show dg C.s (q + 2) = q + 2 by rw [H4.out, H2.out] at hz; omega)
         clear hz
         rcases hcs with p5 | ⟨p5, p6⟩ <;> rcases hds with p7 | ⟨p7, p8⟩
         all_goals
          go_wp2_with (first
           | (go_at_call 70; (with_reducible refine N1.out.mono ?_); rintro e w_ ⟨rfl, hw_⟩; subst w_)
           | (go_at_call 70; (with_reducible refine N2.out.mono ?_); rintro e w_ ⟨rfl, hw_⟩; subst w_)
           | (go_at_call 121; (with_reducible refine N4.out.mono ?_); rintro e w_ ⟨rfl, hw_⟩; subst w_))
          go_ret2
          exact nu_none (by rw [HE.out]; unfold expo; rw [if_pos HX.out, if_pos HS.out, if_pos HZ.out])
        case neg =>
         have p3 := show (z4 == q2) = false from beq_eq_false_iff_ne.mpr hz
         have HZ := mkA (show ¬ dg C.s (q + 2) = q + 2 by rw [H4.out, H2.out] at hz; omega)
         clear hz
         rcases hcs with p5 | ⟨p5, p6⟩ <;> rcases hds with p7 | ⟨p7, p8⟩
         all_goals
          go_wp2_with (first
           | (go_at_call 70; (with_reducible refine N1.out.mono ?_); rintro e w_ ⟨rfl, hw_⟩; subst w_)
           | (go_at_call 70; (with_reducible refine N2.out.mono ?_); rintro e w_ ⟨rfl, hw_⟩; subst w_)
           | (go_at_call 121; (with_reducible refine N4.out.mono ?_); rintro e w_ ⟨rfl, hw_⟩; subst w_))
          go_ret2
          exact nu_some (by rw [HE.out]; unfold expo; rw [if_pos HX.out, if_pos HS.out, if_neg HZ.out]) H4.out
end Go.Proofs.YthgcghpcikbnkaaGreatDoor.R
