/- FnCoerceFloat: the row, for every input, in every world in which Go's listed variables read as the row lists them; and the card, by the given tie. No other condition. -/
import Derived.Test.YtbegljkhajagbaaGreatDoorRows
import Derived.Test.YtbegljkhajagbaaGreatDoorCards
import Derived.Test.YtbegljkhajagbaaGreatDoorTie
import Derived.Test.YtbegljkhajagbaaGreatDoorLwn
import Derived.WalkKit
import Derived.ProofKit
import Derived.OpenShut
import Derived.ShutString
import Derived.ChangeOld
import Derived.Below
import Derived.SizedLaws
import Derived.Handed
import Derived.LaidLaws
import Derived.MakeChecks
import Derived.Lay
import Derived.Deep.Slices
import Derived.SevenTiedAt
namespace Go.Proofs.YtbegljkhajagbaaGreatDoor.fnCoerceFloat
open Go.ChangeShapes Go.WideShapes Go.ChangeAt Go.RowKit Go.Deep
open Go.ChangeMaps (open_string shut_string)
open Go.Proofs.YtbegljkhajagbaaGreatDoorW.PrintWords
open Go.Proofs.YtbegljkhajagbaaGreatDoor.PFnCoerceFloat (V zV kV kV_mk)
set_option linter.unusedVariables false
theorem own : ownKnob Tryz.prog.godebug = none := by kernel_rfl
theorem laidOut : laidOutB Tryz.prog = true := by kernel_rfl
theorem cells33 : Tryz.prog.cellsOf 33 = 4 := by kernel_rfl
theorem cells9 : Tryz.prog.cellsOf 9 = 1 := by kernel_rfl
theorem cells3 : Tryz.prog.cellsOf 3 = 1 := by kernel_rfl
theorem cells25 : Tryz.prog.cellsOf 25 = 1 := by kernel_rfl
section
variable {H : Type} {enc : TypeId × Value → H} {P : Program} {w : World} {base : Nat} {spare : Nat → Bool} {held : Bool} {fuel : Nat} {cs : List Value} {x : DataW H × List MemPlace} {t : TypeId}
theorem trod4 {f0 f1 f2 f3 : Field} (ht : P.underlying t = some (.struct #[f0, f1, f2, f3])) (h : DataW.trod enc P w base spare held fuel t cs = some x) :
    ∃ y0 y1 y2 y3 n, cs.length = P.cellsOf t ∧ DataW.trod enc P w base spare held n f0.type ((cs.drop f0.offset).take (P.cellsOf f0.type)) = some y0 ∧
      DataW.trod enc P w base spare held n f1.type ((cs.drop f1.offset).take (P.cellsOf f1.type)) = some y1 ∧ DataW.trod enc P w base spare held n f2.type ((cs.drop f2.offset).take (P.cellsOf f2.type)) = some y2 ∧
      DataW.trod enc P w base spare held n f3.type ((cs.drop f3.offset).take (P.cellsOf f3.type)) = some y3 := by
  obtain ⟨xs, n, _, rfl, hl, hlen, hf⟩ := DataW.trod_struct ht h
  match xs, hlen with
  | [y0, y1, y2, y3], _ => exact ⟨y0, y1, y2, y3, n, hl, by simpa using hf 0 f0 rfl, by simpa using hf 1 f1 rfl, by simpa using hf 2 f2 rfl, by simpa using hf 3 f3 rfl⟩
theorem trod_flt {k : FloatKind} (ht : P.underlying t = some (.float k)) (h : DataW.trod enc P w base spare held fuel t cs = some x) : ∃ n, cs = [.float k n] := by
  cases fuel with
  | zero => simp [DataW.trod] at h
  | succ n =>
    unfold DataW.trod at h
    rw [ht] at h
    split at h <;> simp_all
end
set_option maxRecDepth 100000 in
/-- What one node reads as. -/
theorem open_node {H : Type} {enc : TypeId × Value → H} {w : World} {base : Nat} {spare : Nat → Bool} {held : Bool} {fuel : Nat} {cs : List Value} {x : DataW H × List MemPlace}
    (h : DataW.trod enc Tryz.prog w base spare held fuel 33 cs = some x) : ∃ p : V, cs = [.int .i64 p.f0, .float .f64 p.f1, .string p.f2, .int .i64 p.f3] := by
  obtain ⟨y0, y1, y2, y3, n, hl, h0, h1, h2, h3⟩ := trod4 Tryz.underlying33 h
  rw [cells33] at hl
  obtain ⟨c0, c1, c2, c3, rfl⟩ : ∃ a b c d, cs = [a, b, c, d] := by
    match cs, hl with
    | [a, b, c, d], _ => exact ⟨a, b, c, d, rfl⟩
  simp only [cells9, cells3, cells25, List.drop_zero, List.take_succ_cons, List.take_zero, List.drop_succ_cons] at h0 h1 h2 h3
  obtain ⟨i, e0, _, _⟩ := DataW.trod_int Tryz.underlying3 h0
  obtain ⟨f, e1⟩ := trod_flt Tryz.underlying25 h1
  obtain ⟨s, e2, _, _⟩ := DataW.trod_string Tryz.underlying9 h2
  obtain ⟨j, e3, _, _⟩ := DataW.trod_int Tryz.underlying3 h3
  simp at e0 e1 e2 e3
  subst e0 e1 e2 e3
  exact ⟨⟨i, f, s, j⟩, rfl⟩
/-- A value that came in reads as a list of nodes. -/
theorem open_nodes {H : Type} {enc : TypeId × Value → H} {w : World} {base : Nat} {spare : Nat → Bool} {held : Bool} {fuel : Nat} {a : Option Addr} {len cap : Nat} {x : DataW H × List MemPlace}
    (h : DataW.trod enc Tryz.prog w base spare held fuel 22 [.slice a len cap] = some x) : ∃ l : List V, l.length = len ∧ len ≤ cap ∧ Kd.C kV w a l.length l := by
  rcases open_slice Tryz.underlying22 h with ⟨e, _⟩ | ⟨ad, len', cap', m, n, D, Pl, e, _, hl, hm, hmm, _, hx⟩
  · simp at e
    obtain ⟨rfl, rfl, rfl⟩ := e
    exact ⟨[], rfl, Nat.le_refl _, ⟨rfl, by simp, fun h => by simp at h⟩⟩
  · simp at e
    obtain ⟨rfl, rfl, rfl⟩ := e
    have hlm : len ≤ m := by rw [hmm]; split <;> omega
    have hx' : ∀ i, i < len → ∃ p : V, w.cells? base (ad.add (i * 4)) 4 = some [.int .i64 p.f0, .float .f64 p.f1, .string p.f2, .int .i64 p.f3] := by
      intro i hi
      obtain ⟨cs, h1, h2⟩ := hx i (by omega)
      rw [cells33] at h1
      obtain ⟨p, rfl⟩ := open_node h2
      exact ⟨p, h1⟩
    have : Inhabited V := ⟨zV⟩
    obtain ⟨f, hf⟩ := choose_lt hx'
    refine ⟨(List.range len).map f, by simp, hl, ⟨by simp, by unfold maxLen at hm; simp; omega, fun _ => ⟨ad, rfl, fun j p hp => ?_⟩⟩⟩
    obtain ⟨hj, e⟩ := List.getElem?_eq_some_iff.1 hp
    simp at hj e
    subst e
    have h1 := hf j hj
    refine ⟨[.int .i64 (f j).f0, .float .f64 (f j).f1, .string (f j).f2, .int .i64 (f j).f3], rfl, kV_mk _ _, fun i u hu => ?_⟩
    obtain ⟨_, _, hc⟩ := World.cells?_some h1
    have hi2 : i < 4 := by have := (List.getElem?_eq_some_iff.1 hu).1; simpa using this
    have := hc i hi2
    rw [Deep.add_add, hu] at this
    exact this
/-- The witness: the listed variables lie as their data. -/
noncomputable def laidWorld (os : Os) : World := World.laidAll Tryz.prog os Rows.fnCoerceFloatRow.laid
theorem laidWorld_met (os : Os) (args : Array Value) : laidMetH Tryz.prog Rows.fnCoerceFloatRow.laid ((laidWorld os).forCall (fun _ _ => 0) ⟨#[], args, []⟩).memory := by
  rw [Go.MakeChecks.laidMetH_plain _ _ _ (by kernel_rfl)]
  exact laidMet_laidAll args (by kernel_rfl) (by kernel_rfl)
theorem laidWorld_shaped (os : Os) (args : Array Value) : ((laidWorld os).forCall (fun _ _ => 0) ⟨#[], #[.slice none 0 0], []⟩).Shaped Tryz.prog := World.shaped_of_ZipB (by kernel_rfl) (by kernel_rfl)
set_option maxRecDepth 100000 in
theorem lifted (os : Os) (started : os.Started) (H : Type) (enc : TypeId × Value → H) :
    ReturnsInHanded {} Tryz.checked os 3 .any (fun w args => (Rows.fnCoerceFloatSpec.pre enc Tryz.prog Tryz.f3 Rows.fnCoerceFloatRow.domain false w args ∧ laidMetH Tryz.prog Rows.fnCoerceFloatRow.laid w) ∧ sizedMet enc Tryz.prog Tryz.f3 (OpenSpec.ofChange Rows.fnCoerceFloatSpec) false w args)
      (Rows.fnCoerceFloatSpec.post enc Tryz.prog Tryz.f3 false true false false) := by
  refine returnsInHanded_of_change_and (C := Tryz.checked) (X := fun w _ => laidMetH Tryz.prog Rows.fnCoerceFloatRow.laid w) (fun _ _ _ hh h => h.of_heap hh) own started (by kernel_rfl) Tryz.func3
    (ChangeSpec.witness_shaped (enc := enc) (C := Tryz.checked) (os := os) (X := fun w _ => laidMetH Tryz.prog Rows.fnCoerceFloatRow.laid w) false (laidWorld os) #[.slice none 0 0] 8 (World.laidAll_os _ _ _) (laidWorld_shaped os #[]) (by kernel_rfl) (by kernel_rfl) (by kernel_rfl) (laidWorld_met os _)) ?_
  intro W base args ds gs before hval0 hW hcnd hsz0 hL _
  have hval : ∀ (j : Nat) t v, Tryz.f3.params[j]? = some t → args[j]? = some v → Value.okWide Tryz.prog W .any base t v := hval0
  have hW' := hW
  obtain ⟨p, q, hA0, hV, rfl, hfz, hnd⟩ := hW
  have hA : DataW.TrodAll enc Tryz.prog W 0 (fun _ => true) true Tryz.f3.params.toList args.toList ds p := hA0
  rw [Tryz.params3] at hA hval
  obtain ⟨v0, vs0, d0, ds0, p0, q0, hargs, rfl, rfl, h0, r0⟩ := trodAll_cons hA
  obtain ⟨rfl, rfl, rfl⟩ := trodAll_nil r0
  obtain rfl : args = #[v0] := by cases args; simp_all
  obtain ⟨rfl, rfl⟩ := trodVars_none hV
  obtain ⟨a0, len0, cap0, rfl⟩ := okWide_slice Tryz.underlying22 (hval 0 22 v0 rfl rfl)
  have k0 := h0
  have lt0 : ∀ x ∈ p0, x.block < W.heap.size := by obtain ⟨m, hm⟩ := k0; exact DataW.trod_lt m _ _ _ hm
  obtain ⟨l, rfl, hc, hC⟩ : ∃ l : List V, l.length = len0 ∧ len0 ≤ cap0 ∧ Kd.C kV W a0 l.length l := by
    obtain ⟨fuel, hf⟩ := h0
    exact open_nodes hf
  clear hA0 hval0 hsz0
  refine (PFnCoerceFloat.law_walk hC hc).mono fun e W' ⟨he, bel⟩ => ?_
  subst he
  exact ⟨_, rfl, _, _, _, [], _, [], hW', trodAll_mk1 (shut_bool Tryz.underlying4 _), (trodAll_cons_mk (Below.trod laidOut (by kernel_rfl) (of_decide_eq_true (by kernel_rfl)) k0 bel lt0) trodAll_mk0), rfl, bel.frame _, fun h => by cases h⟩
theorem over : Rows.fnCoerceFloatRow.holds Tryz.pinned (OpenSpec.ofChange Rows.fnCoerceFloatSpec) :=
  OpenClaim.holds_of_wide 3 Tryz.f3 rfl rfl rfl rfl rfl rfl rfl ⟨rfl, rfl, rfl, rfl, rfl⟩ rfl rfl rfl rfl rfl (by kernel_rfl) Tryz.func3 (by kernel_rfl)
    (of_decide_eq_true (by kernel_rfl)) (by unfold Func.isWrapper; first | (rw [if_pos (by decide +kernel)]; kernel_rfl) | (rw [if_neg (by decide +kernel)]; exact ⟨rfl, rfl⟩))
    (fun os started H enc _ => lifted os started H enc)
theorem proved : Rows.FnCoerceFloatSaid := over
theorem card : Rows.FnCoerceFloatCardSaid :=
  Claim7.holds_tied_plain_at .later [] [.data, .data, .widerDeep, .widerDeep, .data, .data, .data, .data, .data, .sentinel, .sentinel, .pinned, .pinned] true (true, "e3e170ff318bc6926e467b11c58739c9f39410752866924acbe3d98c5e10d61a") true
    proved (fun _ h => by cases h) (by kernel_rfl) (fun _ h => by cases h) fnCoerceFloat_row_tie rfl ⟨rfl, rfl⟩ (by kernel_rfl) rfl
    (fun f fn hf hfn => by
      obtain rfl : f = 3 := Option.some.inj ((show Tryz.prog.funcNamed "given.example/pub-versicle/laws.FnCoerceFloat" = some 3 by kernel_rfl).symm.trans hf) |>.symm
      obtain rfl : fn = Tryz.f3 := (Option.some.inj (Tryz.func3.symm.trans hfn)).symm
      exact ⟨by kernel_rfl, fun j t ht => by
        rw [Tryz.params3] at ht
        have h3 : t = 22 := by
          rcases j with _ | j
          · simpa using ht.symm
          · simp at ht
        subst h3
        exact (show Tryz.prog.wantsStandIn 22 = false by kernel_rfl)⟩)
    (by kernel_rfl)
end Go.Proofs.YtbegljkhajagbaaGreatDoor.fnCoerceFloat
namespace Go.Proofs.YtbegljkhajagbaaGreatDoor
/-- The card, under a short name, for the claim. -/
theorem fnCoerceFloat_holds : Rows.FnCoerceFloatCardSaid := fnCoerceFloat.card
end Go.Proofs.YtbegljkhajagbaaGreatDoor
