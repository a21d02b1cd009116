/- FnReadNumber: the package's readNumber, walked: what it hands back is the reference's number, or an error. Condition: a source in the world. -/
import Derived.Test.YtmlochnckplalaaGreatDoorRdg
import Derived.Deep.CutRange
import Derived.Laws.BytesArg
namespace Go.Proofs.YtmlochnckplalaaGreatDoor.PFnReadNumber
open Go.RowKit Go.Proofs.YtmlochnckplalaaGreatDoorW.PrintWords Go.Proofs.YtmlochnckplalaaGreatDoorW.PrintLast Go.Proofs.YtmlochnckplalaaGreatDoorW.PrintMore
set_option linter.unusedVariables false
set_option linter.unusedSimpArgs false
theorem rn_eq (s : ByteArray) (i : Nat) (hi : i ≤ s.size) (c k : Int) (h : rn s i = (c, k)) (X : Int) (h1 : 1 ≤ X) (h2 : X ≤ 127) : (c = X ↔ nx s i = X) ∧ (c = X → k = 1 ∧ i < s.size) := by
  rcases rn_cases s i hi with ⟨a, b, d⟩ | ⟨c', k', a, b, d⟩ | ⟨a, b, d⟩
  · rw [d] at h; obtain ⟨rfl, rfl⟩ := Prod.mk.inj h; exact ⟨Iff.rfl, fun _ => ⟨rfl, b⟩⟩
  · rw [a] at h; obtain ⟨rfl, rfl⟩ := Prod.mk.inj h; exact ⟨by constructor <;> intro h <;> omega, fun _ => by omega⟩
  · rw [a] at h; obtain ⟨rfl, rfl⟩ := Prod.mk.inj h; exact ⟨by constructor <;> intro h <;> omega, fun _ => by omega⟩
theorem rn_isd (s : ByteArray) (i : Nat) (hi : i ≤ s.size) (c k : Int) (h : rn s i = (c, k)) : (isD (nx s i) = true ∧ 48 ≤ c ∧ c ≤ 57) ∨ (isD (nx s i) = false ∧ (c < 48 ∨ (48 ≤ c ∧ 57 < c))) := by
  cases hd : isD (nx s i) with
  | true =>
    obtain ⟨a, b, d⟩ := rn_dig s i hi hd
    rw [a] at h; obtain ⟨rfl, rfl⟩ := Prod.mk.inj h
    exact .inl ⟨rfl, d⟩
  | false =>
    obtain ⟨c', k', a, b⟩ := rn_nod s i hi hd
    rw [a] at h; obtain ⟨rfl, rfl⟩ := Prod.mk.inj h
    exact .inr ⟨rfl, by omega⟩
theorem NoNl.step {s : ByteArray} {i : Nat} (h : NoNl s i) (hi : i < s.size) (X : Int) (hx : nx s i = X) (h1 : X ≠ 10) (h2 : X ≠ 13) : NoNl s (i + 1) := by
  intro j hj
  by_cases e : j = i
  · subst e
    unfold nx at hx; rw [if_pos hi] at hx
    omega
  · exact h j (by omega)
theorem NoNl.dg {s : ByteArray} : ∀ (d i : Nat), s.size - i ≤ d → NoNl s i → NoNl s (dg s i) := by
  intro d
  induction d with
  | zero =>
    intro i hd h
    rw [dg_no s i (by rw [nx_end s i (by omega)]; rfl)]; exact h
  | succ d ih =>
    intro i hd h
    cases hx : isD (nx s i) with
    | false => rw [dg_no s i hx]; exact h
    | true =>
      have hi : i < s.size := nx_in s i (by intro e; rw [e] at hx; cases hx)
      have := (isD_iff _).1 hx
      rw [dg_yes s i hx]
      exact ih (i + 1) (by omega) (h.step hi _ rfl (by omega) (by omega))
theorem rd_yes {w : World} {g b cap : Nat} {s : ByteArray} (h : Src w g b cap s) (i : Nat) (hi : i ≤ s.size) (hn : NoNl s i) (c k : Int) (hr : rn s i = (c, k)) (hd : isD (nx s i) = true) :
    Calls Tryz.prog 20 #[.pointer (some ⟨g, 0, none⟩), .int .i64 i, .int .i32 c, .int .i64 k] w fun e w' => e = .returned (.tuple #[.int .i64 (dg s i : Nat), .nilIface]) ∧ Below w.heap.size w w' := by
  have h := readDigits_walk h i hi hn
  rw [hr] at h
  refine h.mono fun e w' ⟨h1, h2⟩ => ⟨?_, h2⟩
  rcases h1 with ⟨_, h⟩ | ⟨h, _⟩
  · exact h
  · rw [hd] at h; cases h
theorem rd_no {w : World} {g b cap : Nat} {s : ByteArray} (h : Src w g b cap s) (i : Nat) (hi : i ≤ s.size) (hn : NoNl s i) (c k : Int) (hr : rn s i = (c, k)) (hd : isD (nx s i) = false) :
    Calls Tryz.prog 20 #[.pointer (some ⟨g, 0, none⟩), .int .i64 i, .int .i32 c, .int .i64 k] w fun e w' => (∃ gq : Nat, e = .returned (.tuple #[.int .i64 i, .iface 57 (.pointer (some ⟨gq, 0, none⟩))])) ∧ Below w.heap.size w w' := by
  have h := readDigits_walk h i hi hn
  rw [hr] at h
  refine h.mono fun e w' ⟨h1, h2⟩ => ⟨?_, h2⟩
  rcases h1 with ⟨h, _⟩ | ⟨_, h⟩
  · rw [hd] at h; cases h
  · exact h
/-- What is at a place, in two numbers. -/
theorem rn_at {w : World} {g b cap : Nat} {s : ByteArray} (h : Src w g b cap s) (i : Nat) (hi : i ≤ s.size) : ∃ c k : Int, rn s i = (c, k) ∧ Calls Tryz.prog 15 #[.slice (some ⟨b, 0, none⟩) s.size cap, .int .i64 i] w fun e w' => e = .returned (.tuple #[.int .i32 c, .int .i64 k]) ∧ Below w.heap.size w w' := by
  have := runeAt_src h i hi
  cases hr : rn s i with
  | mk c k =>
    rw [hr] at this
    exact ⟨c, k, rfl, this⟩
theorem pl1 (p : Nat) (h : p ≤ 2005) : wrap64 ((p : Int) + 1) = ((p + 1 : Nat) : Int) := by rw [w64 (by omega) (by omega)]; omega
theorem rn_call {w : World} {g b cap : Nat} {s : ByteArray} (h : Src w g b cap s) (i : Nat) (hi : i ≤ s.size) (c k : Int) (hr : rn s i = (c, k)) (P : Int) (e : P = (i : Int)) : Calls Tryz.prog 15 #[.slice (some ⟨b, 0, none⟩) s.size cap, .int .i64 P] w fun e w' => e = .returned (.tuple #[.int .i32 c, .int .i64 k]) ∧ Below w.heap.size w w' := by
  have := runeAt_src h i hi
  rw [hr] at this
  subst e; exact this
theorem rd_yes' {w : World} {g b cap : Nat} {s : ByteArray} (h : Src w g b cap s) (i : Nat) (hi : i ≤ s.size) (hn : NoNl s i) (c k : Int) (hr : rn s i = (c, k)) (hd : isD (nx s i) = true) (P : Int) (e : P = (i : Int)) :
    Calls Tryz.prog 20 #[.pointer (some ⟨g, 0, none⟩), .int .i64 P, .int .i32 c, .int .i64 k] w fun e w' => e = .returned (.tuple #[.int .i64 (dg s i : Nat), .nilIface]) ∧ Below w.heap.size w w' := by
  subst e; exact rd_yes h i hi hn c k hr hd
theorem rd_no' {w : World} {g b cap : Nat} {s : ByteArray} (h : Src w g b cap s) (i : Nat) (hi : i ≤ s.size) (hn : NoNl s i) (c k : Int) (hr : rn s i = (c, k)) (hd : isD (nx s i) = false) (P : Int) (e : P = (i : Int)) :
    Calls Tryz.prog 20 #[.pointer (some ⟨g, 0, none⟩), .int .i64 P, .int .i32 c, .int .i64 k] w fun e w' => (∃ gq : Nat, e = .returned (.tuple #[.int .i64 i, .iface 57 (.pointer (some ⟨gq, 0, none⟩))])) ∧ Below w.heap.size w w' := by
  subst e; exact rd_no h i hi hn c k hr hd
theorem synErr' {w : World} {g b cap : Nat} {s : ByteArray} (h : Src w g b cap s) (i : Nat) (hi : i ≤ s.size) (hn : NoNl s i) (m : ByteArray) (P : Int) (e : P = (i : Int)) :
    Calls Tryz.prog 19 #[.pointer (some ⟨g, 0, none⟩), .int .i64 P, .string m] w fun e w' => (∃ gq : Nat, e = .returned (.pointer (some ⟨gq, 0, none⟩))) ∧ Below w.heap.size w w' := by
  subst e; exact synErr_walk h i hi hn m
theorem num1_zero (s : ByteArray) (a : Nat) (h : nx s a = 48) (h1 : isD (nx s (a + 1)) = false) : num1 s a = frac s (a + 1) := by
  have e : dg s a = a + 1 := by rw [dg_yes s a (by rw [h]; rfl), dg_no s (a + 1) h1]
  unfold num1; rw [e, if_neg (by omega)]
theorem num1_zerr (s : ByteArray) (a : Nat) (h : nx s a = 48) (h1 : isD (nx s (a + 1)) = true) : num1 s a = none := by
  have e : dg s a = dg s (a + 1) := dg_yes s a (by rw [h]; rfl)
  have := dg_gt s (a + 1) h1
  unfold num1; rw [if_pos (.inr ⟨h, by omega⟩)]
theorem num1_dig (s : ByteArray) (a : Nat) (h : nx s a ≠ 48) (h1 : isD (nx s a) = true) : num1 s a = frac s (dg s a) := by
  have := dg_gt s a h1
  unfold num1; rw [if_neg (by omega)]
theorem num1_no (s : ByteArray) (a : Nat) (h1 : isD (nx s a) = false) : num1 s a = none := by
  unfold num1; rw [if_pos (.inl (dg_no s a h1))]
theorem frac_no (s : ByteArray) (p : Nat) (h : nx s p ≠ 46) : frac s p = expo s 16 p := by unfold frac; rw [if_neg h]
theorem frac_err (s : ByteArray) (p : Nat) (h : nx s p = 46) (h1 : isD (nx s (p + 1)) = false) : frac s p = none := by unfold frac; rw [if_pos h, if_pos (dg_no s _ h1)]
theorem frac_dig (s : ByteArray) (p : Nat) (h : nx s p = 46) (h1 : isD (nx s (p + 1)) = true) : frac s p = expo s 17 (dg s (p + 1)) := by
  have := dg_gt s _ h1
  unfold frac; rw [if_pos h, if_neg (by omega)]
theorem expo_no (s : ByteArray) (K : Int) (p : Nat) (h : nx s p ≠ 101) (h' : nx s p ≠ 69) : expo s K p = some (K, p) := by unfold expo; rw [if_neg (by omega)]
theorem expo_sno (s : ByteArray) (K : Int) (p : Nat) (h : nx s p = 101 ∨ nx s p = 69) (h2 : nx s (p + 1) = 43 ∨ nx s (p + 1) = 45) (h1 : isD (nx s (p + 2)) = false) : expo s K p = none := by
  unfold expo; rw [if_pos h, if_pos h2, if_pos (dg_no s _ h1)]
theorem expo_syes (s : ByteArray) (K : Int) (p : Nat) (h : nx s p = 101 ∨ nx s p = 69) (h2 : nx s (p + 1) = 43 ∨ nx s (p + 1) = 45) (h1 : isD (nx s (p + 2)) = true) : expo s K p = some (17, dg s (p + 2)) := by
  have := dg_gt s _ h1
  unfold expo; rw [if_pos h, if_pos h2, if_neg (by omega)]
theorem expo_nno (s : ByteArray) (K : Int) (p : Nat) (h : nx s p = 101 ∨ nx s p = 69) (h2 : ¬ (nx s (p + 1) = 43 ∨ nx s (p + 1) = 45)) (h1 : isD (nx s (p + 1)) = false) : expo s K p = none := by
  unfold expo; rw [if_pos h, if_neg h2, if_pos (dg_no s _ h1)]
theorem expo_nyes (s : ByteArray) (K : Int) (p : Nat) (h : nx s p = 101 ∨ nx s p = 69) (h2 : ¬ (nx s (p + 1) = 43 ∨ nx s (p + 1) = 45)) (h1 : isD (nx s (p + 1)) = true) : expo s K p = some (17, dg s (p + 1)) := by
  have := dg_gt s _ h1
  unfold expo; rw [if_pos h, if_neg h2, if_neg (by omega)]
theorem strOf_take (s : ByteArray) (t : Nat) : strOfNums ((bytesOf s).take t) = s.extract 0 t := by
  apply ByteArray.ext
  apply Array.toList_inj.1
  rw [strOfNums_data, ByteArray.data_extract, Array.toList_extract, List.extract_eq_take_drop]
  simp only [bytesOf, List.drop_zero, Nat.sub_zero, ← List.map_take, List.map_map]
  refine (List.map_congr_left (g := id) fun b _ => ?_).trans (List.map_id _)
  simp
end Go.Proofs.YtmlochnckplalaaGreatDoor.PFnReadNumber
