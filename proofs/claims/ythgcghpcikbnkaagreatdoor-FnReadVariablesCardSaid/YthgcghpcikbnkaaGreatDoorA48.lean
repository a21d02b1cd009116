/- A part of the proof of the theorem of this claim: Lwv. No condition of its own. -/
import Derived.Test.YthgcghpcikbnkaaGreatDoorA31
import Derived.Test.YthgcghpcikbnkaaGreatDoorA32
import Derived.Test.YthgcghpcikbnkaaGreatDoorA41
import Derived.Test.YthgcghpcikbnkaaGreatDoorA47
set_option maxHeartbeats 16000000
set_option maxRecDepth 100000
namespace Go.Proofs.YthgcghpcikbnkaaGreatDoor.R
open Go.RowKit Go.Proofs.YthgcghpcikbnkaaGreatDoorW.PrintWords Go.Proofs.YthgcghpcikbnkaaGreatDoorW.PrintLast Go.Proofs.YthgcghpcikbnkaaGreatDoorW.PrintMore
set_option linter.unusedVariables false
set_option linter.unusedSimpArgs false
theorem door_ok {w : World} {l : List Tk} {P : List Tk → O (List Row × List Tk)} {rows : List Row} {rest : List Tk} {n : Nat} {next : Int} {k : Nat} {s : ByteArray} (hn : n = rows.length) (hf : front l (P l) = .ok (ers rows, rest)) (hx : next < 0 ∨ ∃ t r, rest = t :: r ∧ next = t.a) (h : Calls Tryz.prog k #[.string s] w (DoorI w (front l (P l)))) :
 ∃ a3 : Int, (next < 0 ∨ a3 = next) ∧ Calls Tryz.prog k #[.string s] w fun e w' => ∃ (A3 : Option Addr) (c3 : Nat), e = .returned (.tuple #[.slice A3 n c3, .int .i64 a3, .bool true]) ∧ Below w.heap.size w w' ∧ w'.ownsRow w.heap.size 55 6 (.slice A3 n c3) n (flat (ers rows)) := by
 rw [hf] at h
 have hl : (ers rows).length = n := by rw [hn]; simp [ers]
 cases rest with
 | nil =>
   refine ⟨0, .inl ?_, h.mono fun e w' q => ?_⟩
   ·rcases hx with hx | ⟨t, r, h1, h2⟩
    ·exact hx
    ·cases h1
   ·obtain ⟨q1, A, cp, q2, q3⟩ := q
    rw [hl] at q2 q3
    exact ⟨A, cp, q2, q1, q3⟩
 | cons t r =>
   refine ⟨t.a, ?_, h.mono fun e w' q => ?_⟩
   ·rcases hx with hx | ⟨t', r', h1, h2⟩
    ·exact .inl hx
    ·injection h1 with h3 h4; subst h3; exact .inr h2.symm
   ·obtain ⟨q1, A, cp, q2, q3⟩ := q
    rw [hl] at q2 q3
    exact ⟨A, cp, q2, q1, q3⟩
theorem door_no {w : World} {l : List Tk} {P : List Tk → O (List Row × List Tk)} {k : Nat} {s : ByteArray} (hf : front l (P l) = .bad) (h : Calls Tryz.prog k #[.string s] w (DoorI w (front l (P l)))) :
 Calls Tryz.prog k #[.string s] w fun e w' => e = .returned (.tuple #[.slice none 0 0, .int .i64 0, .bool false]) ∧ Below w.heap.size w w' := by
 rw [hf] at h
 exact h.mono fun e w' q => ⟨q.2, q.1⟩
theorem front_ne {l : List Tk} {x : O (List Row × List Tk)} (h : front l x = .bad ∨ ∃ y, front l x = .ok y) : l ≠ [] → x ≠ .out := by
 intro hl e
 cases l with
 | nil => exact hl rfl
 | cons a b =>
   subst e
   rcases h with h | ⟨y, h⟩ <;> cases h
theorem read9V {s : ByteArray} (hs : s.size ≤ 2000) {w : World} (hG : Glob w) : Calls Tryz.prog 5 #[.string s, .int .i64 6, .func (.func 6) #[] #[]] w (fun e w' => e = .returned (.bool true) ∧ Below w.heap.size w w') := by
 have HS := mkA hs
 have HG := mkA hG
 have CS := mkA (short_q s hs w)
 have CR := mkA (readV_walk blkH hs w)
 clear hs hG
 go_enter Tryz.func5, Tryz.ntmps5
 go_wp2_with (first
  | (go_at_call 8; (with_reducible refine CS.out.mono ?_); rintro e w_ ⟨b, rfl, hw_⟩; subst w_))
 all_goals first
  | (go_ret; exact ⟨rfl, Below.refl _ _⟩)
  | skip
 go_upto_region 4 with (first
  | (go_at_call 9; (with_reducible refine CR.out.mono ?_); rintro e w1 ⟨rows, A, n, cp, next, ok, sure, rfl, h1, h2⟩; have H1 := mkA h1; have H2 := mkA h2; clear h1 h2))
 cases sure
 case false =>
  go_wp2
  go_ret
  exact ⟨rfl, H1.out⟩
 case true =>
 obtain ⟨l, k1, k2, k3⟩ := H2.out rfl
 have HG1 := mkA (Glob.below HG.out H1.out)
 have CD : front l ((pVars 2010) l) = .bad ∨ (∃ y, front l ((pVars 2010) l) = .ok y) → Calls Tryz.prog 6 #[.string s] w1 (DoorI w1 (front l ((pVars 2010) l))) := fun hf => rdVars HS.out HG1.out k1 (Nat.le_trans k2 (by decide)) (f := 2010) (by decide) (front_ne hf)
 rcases k3 with ⟨rfl, k3⟩ | ⟨rfl, rest, k3, k4, k5, k6, k7⟩
 ·have CN := mkA (door_no (P := pVars 2010) k3 (CD (.inl k3)))
  clear CD k1 k2 k3
  go_wp2_with (first
   | (go_at_call 6; (with_reducible refine CN.out.mono ?_); rintro e w2 ⟨rfl, hb⟩; have HB := mkA hb; clear hb))
  go_ret
  exact ⟨rfl, H1.out.trans (bel_le HB.out H1.out.size)⟩
 ·obtain ⟨a3, m1, m2⟩ := door_ok (P := pVars 2010) k3 k6 k7 (CD (.inr ⟨_, k6⟩))
  have CN := mkA m2
  have HO := mkA k5
  have HN := mkA k3
  have HL := mkA k4
  clear CD k1 k2 k3 k4 k5 k6 k7 m2
  go_upto_region 7 with (first
   | (go_at_call 6; (with_reducible refine CN.out.mono ?_); rintro e w2 ⟨A3, c3, rfl, hb, ho⟩; have HB := mkA hb; have HO3 := mkA ho; clear hb ho))
  have CM := mkA (same_walk HN.out HO3.out (own_typ HO.out (fun g cs x => blk_below x HB.out)) HL.out)
  by_cases hx : next < 0
  case pos =>
   have p1 : decide (next < 0) = true := decide_eq_true hx
   have p2 : (next < 0) = True := eq_true hx
   clear hx m1
   go_wp2_with (first
    | (go_at_call 10; (with_reducible refine CM.out.mono ?_); rintro e w3 ⟨rfl, hb⟩; have HB3 := mkA hb; clear hb))
   go_ret
   exact ⟨rfl, H1.out.trans (bel_le (HB.out.trans (bel_le HB3.out HB.out.size)) H1.out.size)⟩
  case neg =>
   have m3 : a3 = next := m1.resolve_left hx
   subst m3
   have p1 : decide (a3 < 0) = false := decide_eq_false hx
   have p2 : (a3 < 0) = False := eq_false hx
   clear hx m1
   go_wp2_with (first
    | (go_at_call 10; (with_reducible refine CM.out.mono ?_); rintro e w3 ⟨rfl, hb⟩; have HB3 := mkA hb; clear hb))
   go_ret
   exact ⟨rfl, H1.out.trans (bel_le (HB.out.trans (bel_le HB3.out HB.out.size)) H1.out.size)⟩
theorem read9V_big {s : ByteArray} (hs : 2000 < s.size) {w : World} : Calls Tryz.prog 5 #[.string s, .int .i64 6, .func (.func 6) #[] #[]] w (fun e w' => e = .returned (.bool true) ∧ Below w.heap.size w w') := by
 have CS := mkA (short_no s hs w)
 clear hs
 go_enter Tryz.func5, Tryz.ntmps5
 go_wp2_with (first
  | (go_at_call 8; (with_reducible refine CS.out.mono ?_); rintro e w_ ⟨rfl, hw_⟩; subst w_))
 go_ret
 exact ⟨rfl, Below.refl _ _⟩
theorem law_walk (s : ByteArray) (w : World) (hG : Glob w) : Calls Tryz.prog 3 #[.string s] w fun e w' => e = .returned (.bool true) ∧ Below w.heap.size w w' := by
 by_cases h1 : 2147483647 < s.size
 ·have q1 : ((2147483647 : Int) < (s.size : Int)) = True := eq_true (by omega)
  have q2 : (2147483647 < s.size) = True := eq_true h1
  clear h1
  go_enter Tryz.func3, Tryz.ntmps3
  go_wp2
  go_ret
  exact ⟨rfl, Below.refl _ _⟩
 ·have q1 : ((2147483647 : Int) < (s.size : Int)) = False := eq_false (by omega)
  have q2 : (2147483647 < s.size) = False := eq_false h1
  have CR : Aside0 (Calls Tryz.prog 5 #[.string s, .int .i64 6, .func (.func 6) #[] #[]] w (fun e w' => e = .returned (.bool true) ∧ Below w.heap.size w w')) := ⟨by
   by_cases h2 : s.size ≤ 2000
   ·exact read9V h2 hG
   ·exact read9V_big (by omega)⟩
  clear h1
  go_enter Tryz.func3, Tryz.ntmps3
  go_wp2_with (first
   | (go_at_call 5; (with_reducible refine CR.out.mono ?_); rintro e w1 ⟨rfl, hb⟩; have HB := mkA hb; clear hb))
  go_ret
  exact ⟨rfl, HB.out⟩
end Go.Proofs.YthgcghpcikbnkaaGreatDoor.R
