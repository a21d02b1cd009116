/- FnCoerceFloat: the library's functions of floats, walked; and the law of a whole number's way to an int and back. No condition beyond a number of 64 bits. -/
import Derived.Test.YtbegljkhajagbaaGreatDoorVal
namespace Go.Proofs.YtbegljkhajagbaaGreatDoor.PFnCoerceFloat
open Go.RowKit Go.Proofs.YtbegljkhajagbaaGreatDoorW.PrintWords Go.Proofs.YtbegljkhajagbaaGreatDoorW.PrintLast Go.Proofs.YtbegljkhajagbaaGreatDoorW.PrintMore
set_option linter.unusedVariables false
set_option linter.unusedSimpArgs false
/-- The bits without the sign. -/
def absB (x : Nat) : Nat := (bits BinOp.andNot IntKind.u64 (x : Int) 9223372036854775808).toNat
/-- The number cut to a whole one. -/
def truncB (x : Nat) : Nat := FloatKind.f64.encode ((FloatKind.f64.decode x).integral .zero)
def eqF (x y : Nat) : Bool := FloatKind.f64.format.order x y == some Ordering.eq
theorem abs_walk (x : Nat) (w : World) : Calls Tryz.prog 16 #[.float .f64 x] w fun e w' => e = .returned (.float .f64 (absB x)) ∧ w' = w := by
  have h1 := fun (x : Nat) w => run_bits x w
  have h2 := fun (x : Int) w => run_frombits x w
  go_enter Tryz.func16, Tryz.ntmps16
  go_wp2
  go_ret
  exact ⟨rfl, rfl⟩
theorem sb_walk (x : Nat) (w : World) : Calls Tryz.prog 17 #[.float .f64 x] w fun e w' => (∃ b : Bool, e = .returned (.bool b)) ∧ w' = w := by
  have h1 := fun (x : Nat) w => run_bits x w
  have h2 := fun (x : Int) w => run_frombits x w
  go_enter Tryz.func17, Tryz.ntmps17
  go_wp2
  go_ret
  exact ⟨⟨_, rfl⟩, rfl⟩
theorem nan_walk (x : Nat) (w : World) : Calls Tryz.prog 18 #[.float .f64 x] w fun e w' => e = .returned (.bool (FloatKind.f64.format.order x x != some Ordering.eq)) ∧ w' = w := by
  go_enter Tryz.func18, Tryz.ntmps18
  go_wp2
  go_ret
  exact ⟨rfl, rfl⟩
theorem inf_walk (x : Nat) (w : World) : Calls Tryz.prog 19 #[.float .f64 x, .int .i64 0] w fun e w' => (∃ b : Bool, e = .returned (.bool b)) ∧ w' = w := by
  go_enter Tryz.func19, Tryz.ntmps19
  go_wp2_with (go_at_call 16; refine (abs_walk _ _).mono ?_; rintro e w' ⟨rfl, rfl⟩)
  go_ret
  exact ⟨⟨_, rfl⟩, rfl⟩
theorem tr_ext (x : Nat) (w : World) : ∃ (r : Nat) (w' : World), (callFunc 27 #[.float .f64 x]).run Tryz.prog w = .ok (.value (.float .f64 r)) w' ∧ Below w.heap.size w w' ∧ ((∀ s t, FloatKind.f64.decode x ≠ .nan s t) → r = truncB x) := by
  have key : ∃ (r : Nat) (w' : World), (Extern.MathFloor.toIntegral "math.archTrunc" .zero #[.float .f64 x]).run Tryz.prog w = .ok (.float .f64 r) w' ∧ Below w.heap.size w w' ∧ ((∀ s t, FloatKind.f64.decode x ≠ .nan s t) → r = truncB x) := by
    unfold truncB
    obtain ⟨f, hf⟩ : ∃ f : Bool → Nat → Sem Value, (∀ s t, ∃ (r : Nat) (w' : World), (f s t).run Tryz.prog w = .ok (.float .f64 r) w' ∧ Below w.heap.size w w') ∧ Extern.MathFloor.toIntegral "math.archTrunc" .zero #[.float .f64 x] = (match FloatKind.f64.decode x with | .nan s t => f s t | d => pure (.float .f64 (FloatKind.f64.encode (d.integral .zero)))) := by
      refine ⟨_, ?_, rfl⟩
      intro s t
      by_cases hq : FloatKind.f64.format.quiet t = t
      · exact ⟨x, w, by simp only [hq, if_true, Sem.run_pure], Below.refl _ _⟩
      · simp only [hq, if_false, Sem.run_bind, run_choose_drew]
        by_cases hf : Question.forced (.extern "math.Floor,Ceil,Trunc,RoundToEven.signallingNaN kept" 2) = true
        · exact ⟨_, w, by simp only [hf, if_true, Result.andThen, Sem.run_pure]; rfl, Below.refl _ _⟩
        · exact ⟨_, w.drew, by simp only [hf]; rfl, below_drew1 (Below.refl _ _)⟩
    rw [hf.2]
    cases hd : FloatKind.f64.decode x with
    | nan s t =>
      obtain ⟨r, w', h, hb⟩ := hf.1 s t
      exact ⟨r, w', h, hb, fun h => absurd rfl (h s t)⟩
    | number s m e => exact ⟨_, w, by simp only [Sem.run_pure], Below.refl _ _, fun _ => rfl⟩
    | infinity s => exact ⟨_, w, by simp only [Sem.run_pure], Below.refl _ _, fun _ => rfl⟩
  obtain ⟨r, w', h, hb, ht⟩ := key
  exact ⟨r, w', by rw [run_callFunc_extern (e := Extern.MathFloor.toIntegral "math.archTrunc" .zero) Tryz.func27 (by kernel_rfl) (by kernel_rfl) (by kernel_rfl) (by kernel_rfl), h]; rfl, hb, ht⟩
set_option maxRecDepth 100000 in
theorem trunc_walk (x : Nat) (w : World) : Calls Tryz.prog 15 #[.float .f64 x] w fun e w' => (∃ r : Nat, e = .returned (.float .f64 r) ∧ (eqF x r = true → r = truncB x)) ∧ Below w.heap.size w w' := by
  obtain ⟨r, w', h, hb, ht⟩ := tr_ext x w
  have HB := Aside0.mk hb
  have HT := Aside0.mk ht
  clear hb ht
  go_enter Tryz.func15, Tryz.ntmps15
  go_wp2
  go_ret
  refine ⟨⟨r, rfl, fun he => HT.out fun s t hn => ?_⟩, HB.out⟩
  have hn' : FloatKind.f64.format.read x = .nan s t := hn
  unfold eqF Ieee.Format.order at he
  rw [hn'] at he
  simp [Ieee.Datum.order] at he
theorem cmp_eq {a b : Int} (h : compare a b = .eq) : a = b := by
  have h : compareOfLessAndEq a b = .eq := h
  unfold compareOfLessAndEq at h
  split at h
  · cases h
  · split at h
    · assumption
    · cases h
theorem cmp_of_eq {a b : Int} (h : a = b) : compare a b = .eq := by
  show compareOfLessAndEq a b = .eq
  unfold compareOfLessAndEq
  rw [if_neg (by omega), if_pos h]
theorem cmp_lt {a b : Int} (h : compare a b = .lt) : a < b := by
  have h : compareOfLessAndEq a b = .lt := h
  unfold compareOfLessAndEq at h
  split at h
  · assumption
  · split at h <;> cases h
theorem absB_eq (x : Nat) : absB x = x % 9223372036854775808 := by
  have key : (bits BinOp.andNot IntKind.u64 (x : Int) 9223372036854775808) = ((x % 9223372036854775808 : Nat) : Int) := by
    unfold bits
    show IntKind.wrap .u64 (((BitVec.ofInt 64 (x : Int)) &&& ~~~ (BitVec.ofInt 64 9223372036854775808)).toNat : Int) = _
    have e1 : (BitVec.ofInt 64 (x : Int)) &&& ~~~ (BitVec.ofInt 64 9223372036854775808) = BitVec.ofNat 64 (x % 9223372036854775808) := by
      have hx : BitVec.ofInt 64 (x : Int) = BitVec.ofNat 64 x := by
        apply BitVec.eq_of_toNat_eq; simp
      rw [hx]
      apply BitVec.eq_of_getLsbD_eq
      intro i hi
      have hm : x % 9223372036854775808 = x % 2 ^ 63 := rfl
      rw [hm, BitVec.getLsbD_and, BitVec.getLsbD_not, BitVec.getLsbD_ofNat, BitVec.getLsbD_ofNat, Nat.testBit_mod_two_pow]
      have hc : ∀ i, i < 64 → (BitVec.ofInt 64 9223372036854775808).getLsbD i = decide (i = 63) := by decide
      rw [hc i hi]
      by_cases h63 : i = 63
      · subst h63; simp
      · have : i < 63 := by omega
        simp [h63, hi, this]
    rw [e1]
    have hlt : x % 9223372036854775808 < 9223372036854775808 := Nat.mod_lt _ (by omega)
    have e2 : (BitVec.ofNat 64 (x % 9223372036854775808)).toNat = x % 9223372036854775808 := by
      rw [BitVec.toNat_ofNat]; omega
    rw [e2]
    simp only [IntKind.wrap_u64]
    omega
  unfold absB
  rw [key]; exact Int.toNat_natCast _
theorem read_eq (x : Nat) : FloatKind.f64.format.read x = (if x % 9223372036854775808 < 4503599627370496 then .number (x / 9223372036854775808 % 2 == 1) (x % 9223372036854775808) (-1074) else if x % 9223372036854775808 < 9218868437227405312 then .number (x / 9223372036854775808 % 2 == 1) (4503599627370496 + x % 9223372036854775808 % 4503599627370496) (-1074 + (x % 9223372036854775808 / 4503599627370496 - 1 : Nat)) else if x % 9223372036854775808 = 9218868437227405312 then .infinity (x / 9223372036854775808 % 2 == 1) else .nan (x / 9223372036854775808 % 2 == 1) (x % 9223372036854775808 - 9218868437227405312)) := rfl
theorem read_small (x : Nat) (s : Bool) (m : Nat) (e : Int) (h : FloatKind.f64.format.read x = .number s m e) : m < 9007199254740992 ∧ FloatKind.f64.format.read (x % 9223372036854775808) = .number false m e := by
  rw [read_eq] at h
  have h2 := read_eq (x % 9223372036854775808)
  rw [Nat.mod_mod, show x % 9223372036854775808 / 9223372036854775808 = 0 from Nat.div_eq_of_lt (Nat.mod_lt _ (by omega))] at h2
  have hm := Nat.mod_lt (x % 9223372036854775808) (show 4503599627370496 > 0 by omega)
  split at h
  · rename_i c
    rw [if_pos c] at h2
    injection h with h3 h4 h5
    subst h4 h5
    exact ⟨by omega, h2⟩
  · rename_i c
    rw [if_neg c] at h2
    split at h
    · rename_i c2
      rw [if_pos c2] at h2
      injection h with h3 h4 h5
      subst h4 h5
      exact ⟨by omega, h2⟩
    · split at h <;> cases h
theorem read_not (x : Nat) (h : ∀ s m e, FloatKind.f64.format.read x ≠ .number s m e) : ∀ m e, FloatKind.f64.format.read (x % 9223372036854775808) ≠ .number false m e := by
  intro m e hr
  have h2 := read_eq (x % 9223372036854775808)
  rw [Nat.mod_mod, show x % 9223372036854775808 / 9223372036854775808 = 0 from Nat.div_eq_of_lt (Nat.mod_lt _ (by omega))] at h2
  rw [hr] at h2
  have h1 := read_eq x
  split at h1
  · exact h _ _ _ h1
  · rename_i c
    rw [if_neg c] at h2
    split at h1
    · exact h _ _ _ h1
    · rename_i c2
      rw [if_neg c2] at h2
      split at h2 <;> cases h2
theorem read_2p53 : FloatKind.f64.format.read 4845873199050653696 = .number false 4503599627370496 1 := by rw [read_eq]; decide
theorem read_zero (s : Bool) : FloatKind.f64.format.read (FloatKind.f64.encode (.number s 0 0)) = .number s 0 (-1074) := by cases s <;> rfl
theorem order_symm {x y : Nat} (h : eqF x y = true) : eqF y x = true := by
  unfold eqF Ieee.Format.order at *
  cases hx : FloatKind.f64.format.read x <;> cases hy : FloatKind.f64.format.read y <;> rw [hx, hy] at h <;> simp only [Ieee.Datum.order, beq_iff_eq, Option.some.injEq, reduceCtorEq, Bool.false_eq_true] at h ⊢
  · rename_i s m e t n f
    rw [Int.min_comm f e]
    exact cmp_of_eq (cmp_eq h).symm
  all_goals first
    | (split at h <;> cases h)
    | (rename_i s t; cases s <;> cases t <;> first | rfl | (simp at h; done) | cases h)
/-- A whole number below 2^53: cut and written again, it is the same number. -/
theorem way (x : Nat) (hT : eqF x (truncB x) = true) (hA : (FloatKind.f64.format.order (absB x) 4845873199050653696 == some Ordering.lt) = true) : ∃ n : Int, floatToIntVal .f64 x .i64 = some n ∧ eqF (floatOfInt .f64 n) x = true := by
  rw [absB_eq] at hA
  have hA' : FloatKind.f64.format.order (x % 9223372036854775808) 4845873199050653696 = some Ordering.lt := by simpa using hA
  unfold Ieee.Format.order at hA'
  rw [read_2p53] at hA'
  obtain ⟨s, m, e, hr⟩ : ∃ s m e, FloatKind.f64.format.read x = .number s m e := by
    apply Classical.byContradiction
    intro hn
    have h2 := read_not x (fun s m e h => hn ⟨s, m, e, h⟩)
    have h3 := read_eq (x % 9223372036854775808)
    rw [Nat.mod_mod, show x % 9223372036854775808 / 9223372036854775808 = 0 from Nat.div_eq_of_lt (Nat.mod_lt _ (by omega))] at h3
    split at h3
    · exact h2 _ _ h3
    · split at h3
      · exact h2 _ _ h3
      · split at h3 <;> (rw [h3] at hA'; simp [Ieee.Datum.order] at hA')
  obtain ⟨hm, hr2⟩ := read_small x s m e hr
  rw [hr2] at hA'
  have hlt : Ieee.signed false m (e - min e 1).toNat < Ieee.signed false 4503599627370496 (1 - min e 1).toNat := by
    apply cmp_lt
    exact Option.some.inj hA'
  simp only [Ieee.signed, Bool.false_eq_true, if_false] at hlt
  have hd : FloatKind.f64.decode x = .number s m e := hr
  -- the cut number
  obtain ⟨c, hc⟩ : ∃ c, Ieee.Toward.zero.cut s (m <<< e.toNat) (-e).toNat = c := ⟨_, rfl⟩
  have hcb : c < 9007199254740992 := by
    have hcut : c = (m <<< e.toNat) / (1 <<< min (-e).toNat ((m <<< e.toNat).log2 + 2)) := by rw [← hc]; rfl
    by_cases he : 0 < e
    · have e1 : min e 1 = 1 := by omega
      rw [e1] at hlt
      have e2 : (-e).toNat = 0 := by omega
      rw [e2] at hcut
      have e3 : min 0 ((m <<< e.toNat).log2 + 2) = 0 := by omega
      rw [e3] at hcut
      simp only [Nat.shiftLeft_eq, Nat.pow_zero, Nat.mul_one, Nat.div_one] at hcut hlt
      have e4 : e.toNat = (e - 1).toNat + 1 := by omega
      rw [e4, Nat.pow_succ] at hcut
      have e5 : ((1 : Int) - 1).toNat = 0 := rfl
      rw [e5] at hlt
      simp only [Nat.pow_zero, Nat.mul_one, Nat.one_mul] at hlt hcut
      have hl : m * 2 ^ (e - 1).toNat < 4503599627370496 := by omega
      rw [← Nat.mul_assoc] at hcut
      omega
    · have e1 : e.toNat = 0 := by omega
      rw [e1] at hcut
      have hdv : c ≤ m <<< 0 := by rw [hcut]; exact Nat.div_le_self _ _
      simp only [Nat.shiftLeft_zero] at hdv
      omega
  have hint : (FloatKind.f64.decode x).integral .zero = .number s c 0 := by rw [hd]; show Ieee.Datum.number s (Ieee.Toward.zero.cut s (m <<< e.toNat) (-e).toNat) 0 = _; rw [hc]
  have htr : truncB x = FloatKind.f64.encode (.number s c 0) := by unfold truncB; rw [hint]
  have hto : (FloatKind.f64.decode x).toInt .zero = some (Ieee.signed s c 0) := by unfold Ieee.Datum.toInt; rw [hint]
  refine ⟨Ieee.signed s c 0, ?_, ?_⟩
  · unfold floatToIntVal
    rw [hto]
    have hb : IntKind.min .i64 ≤ Ieee.signed s c 0 ∧ Ieee.signed s c 0 ≤ IntKind.max .i64 := by
      have e1 : IntKind.min .i64 = -9223372036854775808 := rfl
      have e2 : IntKind.max .i64 = 9223372036854775807 := rfl
      rw [e1, e2]
      unfold Ieee.signed
      simp only [Nat.shiftLeft_zero]
      split <;> omega
    simp only [hb.1, hb.2, and_self, if_true]
  · by_cases hz : c = 0
    · subst hz
      have e0 : floatOfInt .f64 (Ieee.signed s 0 0) = FloatKind.f64.encode (.number false 0 0) := by cases s <;> rfl
      rw [e0]
      rw [htr] at hT
      have hT' := hT
      unfold eqF Ieee.Format.order at hT' ⊢
      rw [hr, read_zero] at hT'
      rw [read_zero, hr]
      simp only [Ieee.Datum.order, beq_iff_eq, Option.some.injEq] at hT' ⊢
      have h1 := cmp_eq hT'
      refine cmp_of_eq ?_
      rw [Int.min_comm, h1]
      simp [Ieee.signed]
    · have e0 : floatOfInt .f64 (Ieee.signed s c 0) = FloatKind.f64.encode (.number s c 0) := by
        have h1 : (decide (Ieee.signed s c 0 < 0)) = s := by
          unfold Ieee.signed
          simp only [Nat.shiftLeft_zero]
          cases s
          · simp
          · simp; omega
        have h2 : (Ieee.signed s c 0).natAbs = c := by
          unfold Ieee.signed
          simp only [Nat.shiftLeft_zero]
          cases s <;> simp
        show FloatKind.f64.encode (.number (decide (Ieee.signed s c 0 < 0)) (Ieee.signed s c 0).natAbs 0) = _
        rw [h1, h2]
      rw [e0, ← htr]
      exact order_symm hT
end Go.Proofs.YtbegljkhajagbaaGreatDoor.PFnCoerceFloat
