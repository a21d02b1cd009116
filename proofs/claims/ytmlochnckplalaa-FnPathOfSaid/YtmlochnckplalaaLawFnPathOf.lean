/- FnPathOf: for every list of parts that comes in, in whatever memory, the law returns true and every argument reads as before. No condition beyond the row's own. -/
import Derived.Test.YtmlochnckplalaaRows
import Derived.Test.YtmlochnckplalaaPureFnPathOf
import Derived.WalkKit
import Derived.ProofKit
import Derived.OpenShut
import Derived.ShutString
import Derived.ChangeOld
import Derived.Below
import Derived.Deep.Slices
namespace Go.Proofs.Ytmlochnckplalaa.fnPathOf
open Go.ChangeShapes Go.WideShapes Go.ChangeAt Go.RowKit Go.Deep
open Go.ChangeMaps (open_string shut_string)
open Go.Proofs.YtmlochnckplalaaW.PrintWords
set_option linter.unusedVariables false
theorem own : ownKnob Try.prog.godebug = none := by kernel_rfl
theorem laidOut : laidOutB Try.prog = true := by kernel_rfl
theorem cells28 : Try.prog.cellsOf 28 = 2 := by kernel_rfl
theorem cells9 : Try.prog.cellsOf 9 = 1 := by kernel_rfl
theorem cells3 : Try.prog.cellsOf 3 = 1 := by kernel_rfl

/-- What one element reads as: a string and a number. -/
theorem open_part {H : Type} {enc : TypeId × Value → H} {w : World} {base : Nat} {spare : Nat → Bool} {held : Bool} {fuel : Nat} {cs : List Value} {x : DataW H × List MemPlace}
    (h : DataW.trod enc Try.prog w base spare held fuel 28 cs = some x) : ∃ p : PFnPathOf.S28, cs = [.string p.f0, .int .i64 p.f1] ∧ (Lit.int .i64 p.f1).wf = true := by
  obtain ⟨y0, y1, n, _, hl, h0, h1⟩ := trod_struct2 Try.underlying28 h
  rw [cells28] at hl
  obtain ⟨c0, c1, rfl⟩ : ∃ a b, cs = [a, b] := by
    match cs, hl with
    | [a, b], _ => exact ⟨a, b, rfl⟩
  simp only [cells9, cells3, List.drop_zero, List.take_succ_cons, List.take_zero, List.drop_succ_cons] at h0 h1
  obtain ⟨s, e0, _, _⟩ := DataW.trod_string Try.underlying9 h0
  obtain ⟨i, e1, _, wf⟩ := DataW.trod_int Try.underlying3 h1
  simp at e0 e1
  subst e0
  subst e1
  exact ⟨⟨s, i⟩, rfl, wf⟩

/-- A slice of parts that came in reads as a list. -/
theorem open_parts {H : Type} {enc : TypeId × Value → H} {w : World} {base : Nat} {spare : Nat → Bool} {held : Bool} {fuel : Nat} {a : Option Addr} {len cap : Nat} {x : DataW H × List MemPlace}
    (h : DataW.trod enc Try.prog w base spare held fuel 25 [.slice a len cap] = some x) : ∃ l : List PFnPathOf.S28, l.length = len ∧ len ≤ cap ∧ Kd.C PFnPathOf.k28 w a l.length l ∧ ∀ p ∈ l, (Lit.int .i64 p.f1).wf = true := by
  rcases open_slice Try.underlying25 h with ⟨e, _⟩ | ⟨ad, len', cap', m, n, D, Pl, e, _, hl, hm, hmm, _, hx⟩
  · simp at e
    obtain ⟨rfl, rfl, rfl⟩ := e
    exact ⟨[], rfl, Nat.le_refl _, ⟨rfl, by simp, fun h => by simp at h⟩, by simp⟩
  · simp at e
    obtain ⟨rfl, rfl, rfl⟩ := e
    have hlm : len ≤ m := by rw [hmm]; split <;> omega
    have hx' : ∀ i, i < len → ∃ p : PFnPathOf.S28, w.cells? base (ad.add (i * 2)) 2 = some [.string p.f0, .int .i64 p.f1] ∧ (Lit.int .i64 p.f1).wf = true := by
      intro i hi
      obtain ⟨cs, h1, h2⟩ := hx i (by omega)
      rw [cells28] at h1
      obtain ⟨p, rfl, wf⟩ := open_part h2
      exact ⟨p, h1, wf⟩
    have : Inhabited PFnPathOf.S28 := ⟨PFnPathOf.z28⟩
    obtain ⟨f, hf⟩ := choose_lt hx'
    refine ⟨(List.range len).map f, by simp, hl, ⟨by simp, by unfold maxLen at hm; simp; omega, fun _ => ⟨ad, rfl, fun j p hp => ?_⟩⟩, ?_⟩
    · obtain ⟨hj, e⟩ := List.getElem?_eq_some_iff.1 hp
      simp at hj e
      subst e
      obtain ⟨h1, _⟩ := hf j hj
      refine ⟨[.string (f j).f0, .int .i64 (f j).f1], rfl, PFnPathOf.k28_mk _ _, fun i u hu => ?_⟩
      obtain ⟨_, _, hc⟩ := World.cells?_some h1
      have hi2 : i < 2 := by have := (List.getElem?_eq_some_iff.1 hu).1; simpa using this
      have := hc i hi2
      rw [Deep.add_add, hu] at this
      exact this
    · intro p hp
      simp at hp
      obtain ⟨i, hi, rfl⟩ := hp
      exact (hf i hi).2

set_option maxRecDepth 100000 in
theorem lifted (os : Os) (started : os.Started) (H : Type) (enc : TypeId × Value → H) :
    ReturnsInHanded {} Try.checked os 4 .any (Rows.fnPathOfSpec.pre6 enc Try.prog Try.f4 Rows.fnPathOfRow.domain false) (Rows.fnPathOfSpec.post enc Try.prog Try.f4 false true false false) := by
  refine returnsInHanded_of_change (C := Try.checked) own started (by kernel_rfl) Try.func4
    (ChangeSpec.witness6 (enc := enc) (C := Try.checked) false ⟨#[], #[.slice none 0 0], []⟩ 8 (by kernel_rfl) (by kernel_rfl) (by kernel_rfl) (by kernel_rfl)) ?_
  intro W base args ds gs before hval0 hW hcnd _
  have hval : ∀ (j : Nat) t v, Try.f4.params[j]? = some t → args[j]? = some v → Value.okWide Try.prog W .any base t v := hval0
  have hW' := hW
  obtain ⟨p, q, hA0, hV, rfl, hfz, hnd⟩ := hW
  have hA : DataW.TrodAll enc Try.prog W 0 (fun _ => true) true Try.f4.params.toList args.toList ds p := hA0
  rw [Try.params4] at hA hval
  obtain ⟨v0, vs0, d0, ds0, p0, q0, hargs, rfl, rfl, h0, r0⟩ := trodAll_cons hA
  obtain ⟨rfl, rfl, rfl⟩ := trodAll_nil r0
  obtain rfl : args = #[v0] := by cases args; simp_all
  obtain ⟨rfl, rfl⟩ := trodVars_none hV
  obtain ⟨a0, len0, cap0, rfl⟩ := okWide_slice Try.underlying25 (hval 0 25 v0 rfl rfl)
  have k0 := h0
  have lt0 : ∀ x ∈ p0, x.block < W.heap.size := by obtain ⟨m, hm⟩ := k0; exact DataW.trod_lt m _ _ _ hm
  obtain ⟨l, rfl, hc, hC, hwf⟩ : ∃ l : List PFnPathOf.S28, l.length = len0 ∧ len0 ≤ cap0 ∧ Kd.C PFnPathOf.k28 W a0 l.length l ∧ ∀ p ∈ l, (Lit.int .i64 p.f1).wf = true := by
    obtain ⟨fuel, hf⟩ := h0
    exact open_parts hf
  clear hA0 hval0
  obtain ⟨k, hk⟩ := Pure.FnPathOf l
  refine (PFnPathOf.laws_FnPathOf.calls k a0 cap0 l true W hC hc hk).mono fun e W' ⟨he, bel⟩ => ?_
  subst he
  exact ⟨_, rfl, _, _, _, [], _, [], hW', trodAll_mk1 (shut_bool Try.underlying4 _), (trodAll_cons_mk (Below.trod laidOut (by kernel_rfl) (of_decide_eq_true (by kernel_rfl)) k0 bel lt0) trodAll_mk0), rfl, bel.frame _, fun h => by cases h⟩
theorem over : Rows.fnPathOfRow.holds Try.pinned (OpenSpec.ofChange Rows.fnPathOfSpec) :=
  OpenClaim.holds_of_wide 4 Try.f4 rfl rfl rfl rfl rfl rfl rfl ⟨rfl, rfl, rfl, rfl, rfl⟩ rfl rfl rfl rfl rfl (by kernel_rfl) Try.func4 (by kernel_rfl)
    (of_decide_eq_true (by kernel_rfl)) (by unfold Func.isWrapper; first | (rw [if_pos (by decide +kernel)]; kernel_rfl) | (rw [if_neg (by decide +kernel)]; exact ⟨rfl, rfl⟩))
    (fun os started H enc _ => lifted os started H enc)
theorem proved : Rows.FnPathOfSaid := over
#print axioms proved
end Go.Proofs.Ytmlochnckplalaa.fnPathOf
namespace Go.Proofs.Ytmlochnckplalaa
/-- The row, under a short name, for the claim. -/
theorem fnPathOf_holds : Rows.FnPathOfSaid := fnPathOf.proved
end Go.Proofs.Ytmlochnckplalaa
