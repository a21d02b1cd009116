/- A part of the proof of the theorem of this claim: Pv3. No condition of its own. -/
import Derived.Test.YthgcghpcikbnkaaGreatDoorA27
set_option maxHeartbeats 16000000
set_option maxRecDepth 100000
namespace Go.Proofs.YthgcghpcikbnkaaGreatDoor.R
open Go.RowKit Go.Proofs.YthgcghpcikbnkaaGreatDoorW.PrintWords Go.Proofs.YthgcghpcikbnkaaGreatDoorW.PrintLast Go.Proofs.YthgcghpcikbnkaaGreatDoorW.PrintMore
set_option linter.unusedVariables false
set_option linter.unusedSimpArgs false
theorem pval_list {f : Nat} {c : Bool} {t : Tk} {r : List Tk} (h : t.k = 10) : pVal (f + 1) c (t :: r) = (rev false (pVal f c) 10 11 f (t :: r)).bind fun x => .ok (nd 17 e0 e0 e0 0 x.1, x.2) := by
 rw [rev_false, must_yes h]
 show (if hk (t :: r) = 10 then _ else _) = _
 rw [if_pos (by exact h)]
 cases adv (t :: r) <;> rfl
theorem pval_obj {f : Nat} {c : Bool} {t : Tk} {r : List Tk} (h : t.k = 12) : pVal (f + 1) c (t :: r) = (rev false (pNV 19 (pVal f c)) 12 14 f (t :: r)).bind fun x => .ok (nd 18 e0 e0 e0 0 x.1, x.2) := by
 rw [rev_false, must_yes h]
 show (if hk (t :: r) = 10 then _ else if hk (t :: r) = 12 then _ else _) = _
 rw [if_neg (by show ¬ t.k = 10; omega), if_pos (by exact h)]
 cases adv (t :: r) <;> rfl
theorem bind_ne {α β : Type} {x : O α} {g : α → O β} (h : x.bind g ≠ .out) : x ≠ .out := fun e => h (by rw [e]; rfl)
theorem kb {t : Tk} {k : Int} (h : t.k = k) : (t.k == k) = true := beq_iff_eq.2 h
theorem kn {t : Tk} {k : Int} (h : t.k ≠ k) : (t.k == k) = false := beq_eq_false_iff_ne.2 h
theorem val_step {C : Cx} {f : Nat} {c : Bool} (hV : ValSpec C f c) (hf : f ≤ 1000000) : ValSpec C (f + 1) c := by
 intro w t r h hne
 by_cases k10 : t.k = 10
 ·rw [pval_list k10] at hne ⊢
  exact val_10 h (kb k10) hV hf (bind_ne hne)
 by_cases k12 : t.k = 12
 ·rw [pval_obj k12] at hne ⊢
  exact val_12 h (kn k10) (kb k12) hV hf (bind_ne hne)
 have e3 : pVal (f + 1) c (t :: r) = (if t.k = 16 then one (nd 12 e0 e0 t.v 0 []) (t :: r)
  else if t.k = 17 then one (nd 13 e0 e0 t.v 0 []) (t :: r)
  else if t.k = 18 ∨ t.k = 19 then one (nd 14 e0 e0 t.v 0 []) (t :: r)
  else if t.k = 15 then (if t.v = bTrue then one (nd 15 e0 e0 e0 1 []) (t :: r) else if t.v = bFalse then one (nd 15 e0 e0 e0 0 []) (t :: r) else if t.v = bNull then .bad else one (nd 16 t.v e0 e0 0 []) (t :: r))
  else if t.k = 3 ∧ c = false then (pVar (t :: r)).bind fun n => .ok (nd 11 n.1 e0 e0 0 [], n.2)
  else .bad) := by
  show (if hk (t :: r) = 10 then _ else if hk (t :: r) = 12 then _ else _) = _
  rw [if_neg (by exact k10), if_neg (by exact k12)]
  rfl
 rw [e3] at hne ⊢
 clear e3
 by_cases k16 : t.k = 16
 ·rw [if_pos k16]
  exact val_16 h (kn k10) (kn k12) (kb k16)
 by_cases k17 : t.k = 17
 ·rw [if_neg k16, if_pos k17]
  exact val_17 h (kn k10) (kn k12) (kn k16) (kb k17)
 by_cases k19 : t.k = 19
 ·rw [if_neg k16, if_neg k17, if_pos (.inr k19)]
  exact val_19 h (kn k10) (kn k12) (kn k16) (kn k17) (kb k19)
 by_cases k18 : t.k = 18
 ·rw [if_neg k16, if_neg k17, if_pos (.inl k18)]
  exact val_18 h (kn k10) (kn k12) (kn k16) (kn k17) (kn k19) (kb k18)
 rw [if_neg k16, if_neg k17, if_neg (by omega)]
 by_cases k15 : t.k = 15
 ·rw [if_pos k15]
  by_cases h1 : t.v = bTrue
  ·rw [if_pos h1]
   exact val_true h (kn k10) (kn k12) (kn k16) (kn k17) (kn k19) (kn k18) (kb k15) h1 (by rw [h1]; decide) (by rw [h1]; decide)
  by_cases h2 : t.v = bFalse
  ·rw [if_neg h1, if_pos h2]
   exact val_false h (kn k10) (kn k12) (kn k16) (kn k17) (kn k19) (kn k18) (kb k15) h1 h2 (by rw [h2]; decide)
  by_cases h3 : t.v = bNull
  ·rw [if_neg h1, if_neg h2, if_pos h3]
   exact val_null h (kn k10) (kn k12) (kn k16) (kn k17) (kn k19) (kn k18) (kb k15) h1 h2 h3
  ·rw [if_neg h1, if_neg h2, if_neg h3]
   exact val_enum h (kn k10) (kn k12) (kn k16) (kn k17) (kn k19) (kn k18) (kb k15) h1 h2 h3
 rw [if_neg k15]
 by_cases k3 : t.k = 3
 ·cases c with
  | false =>
    rw [if_pos ⟨k3, rfl⟩]
    exact val_var h (kn k10) (kn k12) (kn k16) (kn k17) (kn k19) (kn k18) (kn k15) (kb k3) rfl
  | true =>
    rw [if_neg (fun e => by cases e.2)]
    exact val_const h (kn k10) (kn k12) (kn k16) (kn k17) (kn k19) (kn k18) (kn k15) (kb k3) rfl
 ·rw [if_neg (fun e => k3 e.1)]
  exact val_none h (kn k10) (kn k12) (kn k16) (kn k17) (kn k19) (kn k18) (kn k15) (kn k3)
theorem val_spec {C : Cx} {c : Bool} : ∀ f, f ≤ 1000000 → ValSpec C f c := by
 intro f
 induction f with
 | zero => intro _ w t r h hne; exact absurd rfl hne
 | succ f ih => intro hf; exact val_step (ih (by omega)) (by omega)
end Go.Proofs.YthgcghpcikbnkaaGreatDoor.R
