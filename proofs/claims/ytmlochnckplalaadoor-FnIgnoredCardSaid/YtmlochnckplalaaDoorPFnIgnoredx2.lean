/- FnIgnored: the Go functions that the law reaches as Lean functions, and that the Go code answers what these answer, for every input and in every world that the statements name. Written by this session's program extprint.py over hand-written contracts of some functions. -/
import Derived.Test.YtmlochnckplalaaDoorPFnIgnoredx0
import Derived.Test.YtmlochnckplalaaDoorPFnIgnoredx1
namespace Go.Proofs.YtmlochnckplalaaDoor.PFnIgnored
open Go.RowKit Go.Proofs.YtmlochnckplalaaDoorW.PrintWords Go.Proofs.YtmlochnckplalaaDoorW.PrintLast Go.Proofs.YtmlochnckplalaaDoorW.PrintMore
attribute [local go_sem] max2_int min2_int max_two min_two max_three min_three max_four min_four   -- for this text's walks alone
set_option linter.unusedVariables false
set_option linter.unusedSimpArgs false

/-- A state of type 29 at block g of W; what its slices lead to came in by w0. -/
def IsS29 (w0 W : World) (g : Nat) (f0 : ByteArray) (f1 : Int) (f2 : List (S43)) (f3 : Bool) (f4 : Bool) : Prop := ∃ A2 c2, W.heap[g]? = some (.cells #[.string f0, .int .i64 f1, .slice A2 f2.length c2, .bool f3, .bool f4] 29 (0, 0)) ∧ w0.heap.size ≤ g ∧ Kd.C k43 w0 A2 f2.length f2
theorem IsS29.grown {w0 W : World} {g : Nat} {f0 : ByteArray} {f1 : Int} {f2 : List (S43)} {f3 : Bool} {f4 : Bool} {W1 : World} {row : Option Nat} (h : IsS29 w0 W g f0 f1 f2 f3 f4) (hw : W.grownBy W1 row) (hne : some g ≠ row) : IsS29 w0 W1 g f0 f1 f2 f3 f4 := by
  obtain ⟨A2, c2, hb, hg, hr2⟩ := h
  exact ⟨A2, c2, blk_grown hb hw hne, hg, hr2⟩
theorem IsS29.own_neN {w0 W : World} {g : Nat} {f0 : ByteArray} {f1 : Int} {f2 : List (S43)} {f3 : Bool} {f4 : Bool} {α : Type} {d : Kd α} {e : Nat} {base : Nat} {ok : Nat → Prop} {v : Value} {xs : List α} (h : IsS29 w0 W g f0 f1 f2 f3 f4) (ho : Kd.N d e W base ok v xs) (ht : e ≠ 29) : some g ≠ v.ownBlock := by
  obtain ⟨A2, c2, hb, hg, hr2⟩ := h
  exact Kd.N_ne ho hb ht
theorem IsS29.fresh {w0 W : World} {g : Nat} {f0 : ByteArray} {f1 : Int} {f2 : List (S43)} {f3 : Bool} {f4 : Bool} (h : IsS29 w0 W g f0 f1 f2 f3 f4) : ∀ k, W.heap.size ≤ k → k ≠ g := by
  obtain ⟨A2, c2, hb, hg, hr2⟩ := h
  exact Kd.freshB hb
theorem IsS29.kept {w0 W : World} {g : Nat} {f0 : ByteArray} {f1 : Int} {f2 : List (S43)} {f3 : Bool} {f4 : Bool} {W1 : World} {S : Nat → Prop} (h : IsS29 w0 W g f0 f1 f2 f3 f4) (hk : Kept W W1 S) (hne : ¬ S g) : IsS29 w0 W1 g f0 f1 f2 f3 f4 := by
  obtain ⟨A2, c2, hb, hg, hr2⟩ := h
  exact ⟨A2, c2, blk_kept hb hk hne, hg, hr2⟩
theorem IsS29.below {w0 W : World} {g : Nat} {f0 : ByteArray} {f1 : Int} {f2 : List (S43)} {f3 : Bool} {f4 : Bool} {W1 : World} (h : IsS29 w0 W g f0 f1 f2 f3 f4) (hw : Below W.heap.size W W1) : IsS29 w0 W1 g f0 f1 f2 f3 f4 := h.grown (grown_of_below hw none) (by simp)
theorem IsS29.alloc {w0 W : World} {g : Nat} {f0 : ByteArray} {f1 : Int} {f2 : List (S43)} {f3 : Bool} {f4 : Bool} (h : IsS29 w0 W g f0 f1 f2 f3 f4) (o : Obj) : IsS29 w0 (W.alloc o) g f0 f1 f2 f3 f4 := h.below (below_alloc (Below.refl _ _) o)
theorem IsS29.drewN {w0 W : World} {g : Nat} {f0 : ByteArray} {f1 : Int} {f2 : List (S43)} {f3 : Bool} {f4 : Bool} (h : IsS29 w0 W g f0 f1 f2 f3 f4) (m : Nat) : IsS29 w0 (W.drewN m) g f0 f1 f2 f3 f4 := h
theorem IsS29.drew {w0 W : World} {g : Nat} {f0 : ByteArray} {f1 : Int} {f2 : List (S43)} {f3 : Bool} {f4 : Bool} (h : IsS29 w0 W g f0 f1 f2 f3 f4) : IsS29 w0 W.drew g f0 f1 f2 f3 f4 := h
theorem IsS29.at_ {w0 W : World} {g : Nat} {f0 : ByteArray} {f1 : Int} {f2 : List (S43)} {f3 : Bool} {f4 : Bool} {w' : World} {m : Nat} (hq : W.drewN m = w') (h : IsS29 w0 W g f0 f1 f2 f3 f4) : IsS29 w0 w' g f0 f1 f2 f3 f4 := by subst hq; exact IsS29.drewN h m
theorem IsS29.apart {w0 W : World} {g : Nat} {f0 : ByteArray} {f1 : Int} {f2 : List (S43)} {f3 : Bool} {f4 : Bool} {α : Type} {d : Kd α} {e : Nat} {base : Nat} {ok : Nat → Prop} {v : Value} {xs : List α} (h : IsS29 w0 W g f0 f1 f2 f3 f4) (ho : d.R e W base ok v xs) (ht : ∀ q, q ∈ e :: d.E → q ≠ 29) : d.R e W base (fun k => ok k ∧ k ≠ g) v xs := by
  obtain ⟨A2, c2, hb, hg, hr2⟩ := h
  exact Kd.R_types ho hb ht
theorem IsS29.own_ne {w0 W : World} {g : Nat} {f0 : ByteArray} {f1 : Int} {f2 : List (S43)} {f3 : Bool} {f4 : Bool} {α : Type} {d : Kd α} {e : Nat} {base : Nat} {ok : Nat → Prop} {v : Value} {xs : List α} (h : IsS29 w0 W g f0 f1 f2 f3 f4) (ho : d.R e W base ok v xs) (ht : e ≠ 29) : some g ≠ v.ownBlock := by
  obtain ⟨A2, c2, hb, hg, hr2⟩ := h
  exact Kd.R_ne ho hb ht
theorem IsS29.apartQ {w0 W : World} {g : Nat} {f0 : ByteArray} {f1 : Int} {f2 : List (S43)} {f3 : Bool} {f4 : Bool} {α : Type} {d : Kd α} {e : Nat} {base : Nat} {ok : Nat → Prop} {v : Value} {xs : List α} (h : IsS29 w0 W g f0 f1 f2 f3 f4) (ho : d.Q e W base ok v xs) (ht : ∀ q, q ∈ e :: d.E → q ≠ 29) : d.Q e W base (fun k => ok k ∧ k ≠ g) v xs := by
  obtain ⟨A2, c2, hb, hg, hr2⟩ := h
  exact Kd.Q_types ho hb ht
theorem IsS29.own_neQ {w0 W : World} {g : Nat} {f0 : ByteArray} {f1 : Int} {f2 : List (S43)} {f3 : Bool} {f4 : Bool} {α : Type} {d : Kd α} {e : Nat} {base : Nat} {ok : Nat → Prop} {v : Value} {xs : List α} (h : IsS29 w0 W g f0 f1 f2 f3 f4) (ho : d.Q e W base ok v xs) (ht : e ≠ 29) : some g ≠ v.ownBlock := by
  obtain ⟨A2, c2, hb, hg, hr2⟩ := h
  exact Kd.Q_ne ho hb ht
theorem IsS29.apartS {w0 W : World} {g : Nat} {f0 : ByteArray} {f1 : Int} {f2 : List (S43)} {f3 : Bool} {f4 : Bool} {α : Type} {d : Kd α} {e : Nat} {base : Nat} {ok : Nat → Prop} {v : Value} {xs : List α} (h : IsS29 w0 W g f0 f1 f2 f3 f4) (ho : d.S e W base ok v xs) (ht : ∀ q, q ∈ e :: d.E → q ≠ 29) : d.S e W base (fun k => ok k ∧ k ≠ g) v xs := by
  obtain ⟨A2, c2, hb, hg, hr2⟩ := h
  exact Kd.S_types ho hb ht
theorem IsS29.own_neS {w0 W : World} {g : Nat} {f0 : ByteArray} {f1 : Int} {f2 : List (S43)} {f3 : Bool} {f4 : Bool} {α : Type} {d : Kd α} {e : Nat} {base : Nat} {ok : Nat → Prop} {v : Value} {xs : List α} (h : IsS29 w0 W g f0 f1 f2 f3 f4) (ho : d.S e W base ok v xs) (ht : e ≠ 29) : some g ≠ v.ownBlock := by
  obtain ⟨A2, c2, hb, hg, hr2⟩ := h
  exact Kd.S_ne ho hb ht
theorem IsS29.lt {w0 W : World} {g : Nat} {f0 : ByteArray} {f1 : Int} {f2 : List (S43)} {f3 : Bool} {f4 : Bool} (h : IsS29 w0 W g f0 f1 f2 f3 f4) : g < W.heap.size := by
  obtain ⟨A2, c2, hb, hg, hr2⟩ := h
  exact blk_lt hb
theorem IsS29.ge {w0 W : World} {g : Nat} {f0 : ByteArray} {f1 : Int} {f2 : List (S43)} {f3 : Bool} {f4 : Bool} (h : IsS29 w0 W g f0 f1 f2 f3 f4) : w0.heap.size ≤ g := by
  obtain ⟨A2, c2, hb, hg, hr2⟩ := h
  exact hg
theorem IsS29.ne_blk {w0 W : World} {g : Nat} {f0 : ByteArray} {f1 : Int} {f2 : List (S43)} {f3 : Bool} {f4 : Bool} {a : Nat} {cs : Array Value} {t : TypeId} {fr : Nat × Nat} (h : IsS29 w0 W g f0 f1 f2 f3 f4) (hb2 : W.heap[a]? = some (.cells cs t fr)) (ht : t ≠ 29) : g ≠ a := by
  obtain ⟨A2, c2, hb, hg, hr2⟩ := h
  rintro rfl
  rw [hb] at hb2
  injection hb2 with hb2
  injection hb2 with _ ht2
  exact ht ht2.symm
theorem IsS29.far {w0 W : World} {g : Nat} {f0 : ByteArray} {f1 : Int} {f2 : List (S43)} {f3 : Bool} {f4 : Bool} {p : Addr} (h : IsS29 w0 W g f0 f1 f2 f3 f4) (hne : g ≠ p.block) (u : Value) : IsS29 w0 (W.setCell p u) g f0 f1 f2 f3 f4 := by
  obtain ⟨A2, c2, hb, hg, hr2⟩ := h
  exact ⟨A2, c2, blk_far hb hne u, hg, hr2⟩
theorem cellS29_0 {W : World} {g : Nat} {A2 : Option Addr} {c2 : Nat} {f0 : ByteArray} {f1 : Int} {f2 : List (S43)} {f3 : Bool} {f4 : Bool} (h : W.heap[g]? = some (.cells #[.string f0, .int .i64 f1, .slice A2 f2.length c2, .bool f3, .bool f4] 29 (0, 0))) : W.cell? ⟨g, 0, none⟩ = some (.string f0) := (blk_cell h 0).trans rfl
theorem IsS29.set_0 {w0 W : World} {g : Nat} {f0 : ByteArray} {f1 : Int} {f2 : List (S43)} {f3 : Bool} {f4 : Bool} (h : IsS29 w0 W g f0 f1 f2 f3 f4) (x : ByteArray) : IsS29 w0 (W.setCell ⟨g, 0, none⟩ (.string x)) g x f1 f2 f3 f4 := by
  obtain ⟨A2, c2, hb, hg, hr2⟩ := h
  exact ⟨A2, c2, by simpa using blk_set hb 0 (.string x), hg, hr2⟩
theorem cellS29_1 {W : World} {g : Nat} {A2 : Option Addr} {c2 : Nat} {f0 : ByteArray} {f1 : Int} {f2 : List (S43)} {f3 : Bool} {f4 : Bool} (h : W.heap[g]? = some (.cells #[.string f0, .int .i64 f1, .slice A2 f2.length c2, .bool f3, .bool f4] 29 (0, 0))) : W.cell? ⟨g, 1, none⟩ = some (.int .i64 f1) := (blk_cell h 1).trans rfl
theorem IsS29.set_1 {w0 W : World} {g : Nat} {f0 : ByteArray} {f1 : Int} {f2 : List (S43)} {f3 : Bool} {f4 : Bool} (h : IsS29 w0 W g f0 f1 f2 f3 f4) (x : Int) : IsS29 w0 (W.setCell ⟨g, 1, none⟩ (.int .i64 x)) g f0 x f2 f3 f4 := by
  obtain ⟨A2, c2, hb, hg, hr2⟩ := h
  exact ⟨A2, c2, by simpa using blk_set hb 1 (.int .i64 x), hg, hr2⟩
theorem cellS29_2 {W : World} {g : Nat} {A2 : Option Addr} {c2 : Nat} {f0 : ByteArray} {f1 : Int} {f2 : List (S43)} {f3 : Bool} {f4 : Bool} (h : W.heap[g]? = some (.cells #[.string f0, .int .i64 f1, .slice A2 f2.length c2, .bool f3, .bool f4] 29 (0, 0))) : W.cell? ⟨g, 2, none⟩ = some (.slice A2 f2.length c2) := (blk_cell h 2).trans rfl
theorem cellS29_3 {W : World} {g : Nat} {A2 : Option Addr} {c2 : Nat} {f0 : ByteArray} {f1 : Int} {f2 : List (S43)} {f3 : Bool} {f4 : Bool} (h : W.heap[g]? = some (.cells #[.string f0, .int .i64 f1, .slice A2 f2.length c2, .bool f3, .bool f4] 29 (0, 0))) : W.cell? ⟨g, 3, none⟩ = some (.bool f3) := (blk_cell h 3).trans rfl
theorem IsS29.set_3 {w0 W : World} {g : Nat} {f0 : ByteArray} {f1 : Int} {f2 : List (S43)} {f3 : Bool} {f4 : Bool} (h : IsS29 w0 W g f0 f1 f2 f3 f4) (x : Bool) : IsS29 w0 (W.setCell ⟨g, 3, none⟩ (.bool x)) g f0 f1 f2 x f4 := by
  obtain ⟨A2, c2, hb, hg, hr2⟩ := h
  exact ⟨A2, c2, by simpa using blk_set hb 3 (.bool x), hg, hr2⟩
theorem cellS29_4 {W : World} {g : Nat} {A2 : Option Addr} {c2 : Nat} {f0 : ByteArray} {f1 : Int} {f2 : List (S43)} {f3 : Bool} {f4 : Bool} (h : W.heap[g]? = some (.cells #[.string f0, .int .i64 f1, .slice A2 f2.length c2, .bool f3, .bool f4] 29 (0, 0))) : W.cell? ⟨g, 4, none⟩ = some (.bool f4) := (blk_cell h 4).trans rfl
theorem IsS29.set_4 {w0 W : World} {g : Nat} {f0 : ByteArray} {f1 : Int} {f2 : List (S43)} {f3 : Bool} {f4 : Bool} (h : IsS29 w0 W g f0 f1 f2 f3 f4) (x : Bool) : IsS29 w0 (W.setCell ⟨g, 4, none⟩ (.bool x)) g f0 f1 f2 f3 x := by
  obtain ⟨A2, c2, hb, hg, hr2⟩ := h
  exact ⟨A2, c2, by simpa using blk_set hb 4 (.bool x), hg, hr2⟩
theorem IsS29.new (w0 W : World) (A2 : Option Addr) (c2 : Nat) (f0 : ByteArray) (f1 : Int) (f2 : List (S43)) (f3 : Bool) (f4 : Bool) (hB : Below w0.heap.size w0 W) (hr2 : Kd.C k43 w0 A2 f2.length f2) : IsS29 w0 (W.alloc (.cells #[.string f0, .int .i64 f1, .slice A2 f2.length c2, .bool f3, .bool f4] 29)) W.heap.size f0 f1 f2 f3 f4 := ⟨A2, c2, by simpa using heap_alloc_new W _, hB.size, hr2⟩

/-! ### spec_lexer_comment: function 12 -/
mutual
def spec_lexer_comment.l0 : Nat → ByteArray → Int → List (S43) → Bool → Bool → Option (ByteArray × Int × Bool × Bool)
  | 0, _, _, _, _, _ => none
  | k + 1, x1000, x1001, x1002, x1003, x1004 => if x1001 < (x1000.size : Int) then (if 0 ≤ x1001 then (if (bt x1000 x1001) = 10 then (spec_lexer_comment.j1 k false x1000 x1001 x1002 x1003 x1004) else (spec_lexer_comment.j1 k ((bt x1000 x1001) != 13) x1000 x1001 x1002 x1003 x1004)) else (none)) else (spec_lexer_comment.j1 k false x1000 x1001 x1002 x1003 x1004)
def spec_lexer_comment.j1 : Nat → Bool → ByteArray → Int → List (S43) → Bool → Bool → Option (ByteArray × Int × Bool × Bool)
  | 0, _, _, _, _, _, _ => none
  | k + 1, x39, x1000, x1001, x1002, x1003, x1004 => if x39 = true then ((spec_Point.f k x1000 x1001).bind fun bt104 => (if bt104.2 = 0 then (some (x1000, x1001, true, true)) else ((spec_source.f bt104.1).bind fun bt106 => (if x1004 = true then (spec_lexer_comment.l0 k x1000 (wrap64 (x1001 + bt104.2)) x1002 x1003 true) else (if bt106.2 = true then (if bt106.1 = true then (spec_lexer_comment.l0 k x1000 (wrap64 (x1001 + bt104.2)) x1002 x1003 (decide (bt104.1 ≥ 128))) else (spec_lexer_comment.l0 k x1000 (wrap64 (x1001 + bt104.2)) x1002 x1003 true)) else (spec_lexer_comment.l0 k x1000 (wrap64 (x1001 + bt104.2)) x1002 x1003 true)))))) else (some (x1000, x1001, x1003, x1004))
end
def spec_lexer_comment.f (k : Nat) (s0_0 : ByteArray) (s0_1 : Int) (s0_2 : List (S43)) (s0_3 : Bool) (s0_4 : Bool) : Option (ByteArray × Int × Bool × Bool) := spec_lexer_comment.l0 k s0_0 s0_1 s0_2 s0_3 s0_4
theorem spec_lexer_comment.mono_l : ∀ k, (∀ y0 y1 y2 y3 y4, LeO (spec_lexer_comment.l0 k y0 y1 y2 y3 y4) (spec_lexer_comment.l0 (k + 1) y0 y1 y2 y3 y4)) ∧ (∀ y0 y1 y2 y3 y4 y5, LeO (spec_lexer_comment.j1 k y0 y1 y2 y3 y4 y5) (spec_lexer_comment.j1 (k + 1) y0 y1 y2 y3 y4 y5))
  | 0 => ⟨fun _ _ _ _ _ r h => by simp [spec_lexer_comment.l0] at h, fun _ _ _ _ _ _ r h => by simp [spec_lexer_comment.j1] at h⟩
  | k + 1 => by
    obtain ⟨ih0, ih1⟩ := spec_lexer_comment.mono_l k
    refine ⟨?_, ?_⟩
    · intro y0 y1 y2 y3 y4
      unfold spec_lexer_comment.l0
      repeat' first
      | (with_reducible exact ih0 _ _ _ _ _)
      | (with_reducible exact ih1 _ _ _ _ _ _)
      | (with_reducible exact spec_Point.mono _ _ _)
      | (with_reducible exact LeO.refl _)
      | (with_reducible exact LeO.none _)
      | (with_reducible refine LeO.ite ?_ ?_)
      | (with_reducible refine LeO.bind ?_ (fun _ => ?_))
      | exact ih0 _ _ _ _ _
      | exact ih1 _ _ _ _ _ _
      | exact spec_Point.mono _ _ _
      | exact LeO.none _
      | refine LeO.ite ?_ ?_
      | refine LeO.bind ?_ (fun _ => ?_)
    · intro y0 y1 y2 y3 y4 y5
      unfold spec_lexer_comment.j1
      repeat' first
      | (with_reducible exact ih0 _ _ _ _ _)
      | (with_reducible exact ih1 _ _ _ _ _ _)
      | (with_reducible exact spec_Point.mono _ _ _)
      | (with_reducible exact LeO.refl _)
      | (with_reducible exact LeO.none _)
      | (with_reducible refine LeO.ite ?_ ?_)
      | (with_reducible refine LeO.bind ?_ (fun _ => ?_))
      | exact ih0 _ _ _ _ _
      | exact ih1 _ _ _ _ _ _
      | exact spec_Point.mono _ _ _
      | exact LeO.none _
      | refine LeO.ite ?_ ?_
      | refine LeO.bind ?_ (fun _ => ?_)
theorem spec_lexer_comment.mono : ∀ a0 a1 a2 a3 a4 k, LeO (spec_lexer_comment.f k a0 a1 a2 a3 a4) (spec_lexer_comment.f (k + 1) a0 a1 a2 a3 a4) := by
  intro a0 a1 a2 a3 a4 k
  obtain ⟨ih0, ih1⟩ := spec_lexer_comment.mono_l k
  unfold spec_lexer_comment.f
  repeat' first
      | (with_reducible exact ih0 _ _ _ _ _)
      | (with_reducible exact ih1 _ _ _ _ _ _)
      | (with_reducible exact spec_Point.mono _ _ _)
      | (with_reducible exact LeO.refl _)
      | (with_reducible exact LeO.none _)
      | (with_reducible refine LeO.ite ?_ ?_)
      | (with_reducible refine LeO.bind ?_ (fun _ => ?_))
      | exact ih0 _ _ _ _ _
      | exact ih1 _ _ _ _ _ _
      | exact spec_Point.mono _ _ _
      | exact LeO.none _
      | refine LeO.ite ?_ ?_
      | refine LeO.bind ?_ (fun _ => ?_)
set_option maxHeartbeats 8000000 in
set_option maxRecDepth 100000 in
theorem spec_lexer_comment.calls (k : Nat) (g : Nat) (s0_0 : ByteArray) (s0_1 : Int) (s0_2 : List (S43)) (s0_3 : Bool) (s0_4 : Bool) (r1 : ByteArray) (r2 : Int) (r3 : Bool) (r4 : Bool) (w0 w : World) (hI : IsS29 w0 w g s0_0 s0_1 s0_2 s0_3 s0_4) (hB : Below w0.heap.size w0 w) (h : spec_lexer_comment.f k s0_0 s0_1 s0_2 s0_3 s0_4 = some (r1, r2, r3, r4)) :
    Calls Tryd.prog 12 #[.pointer (some ⟨g, 0, none⟩)] w fun e w' => e = .returned (.tuple #[]) ∧ IsS29 w0 w' g r1 r2 s0_2 r3 r4 ∧ Below w0.heap.size w0 w' ∧ KeepBut w w' g none := by
  have HI0 := Aside0.mk hI
  have HK := Aside0.mk (KeepBut.refl w g none)
  have HL := Aside0.mk hB.size
  clear hI
  have HW0 := Aside0.mk hB.size
  have HB := Aside0.mk hB
  clear hB
  have H : (spec_lexer_comment.l0 k s0_0 s0_1 s0_2 s0_3 s0_4) = some (r1, r2, r3, r4) := h
  clear h
  have H' := Aside0.mk H
  clear H
  go_enter Tryd.func12, Tryd.ntmps12
  go_wp2
  repeat (go_quiet (fail); try go_wp2)
  go_loopg [] k (fun kq w' => ∃ (x1001_1 : Int) (x1003_1 : Bool) (x1004_1 : Bool), Aside0 (spec_lexer_comment.l0 kq s0_0 x1001_1 s0_2 x1003_1 x1004_1 = some (r1, r2, r3, r4)) ∧ Aside0 (kq ≤ k) ∧ Aside0 (IsS29 w0 w' g s0_0 x1001_1 s0_2 x1003_1 x1004_1) ∧ Aside0 (KeepBut w w' g none) ∧ Aside0 (Below w0.heap.size w0 w'))
  case atStart => exact ⟨(s0_1), (s0_3), (s0_4), H', ⟨Nat.le_refl _⟩, ⟨by repeat (first | (with_reducible first | exact HI0.out | apply IsS29.alloc | apply IsS29.drewN | apply IsS29.drew | apply IsS29.set_0 | apply IsS29.set_1 | apply IsS29.set_3 | apply IsS29.set_4) | exact HI0.out)⟩, ⟨by repeat (first | (with_reducible first | exact HK.out | apply KeepBut.set_ | apply keep_drewN | apply keep_drew | apply keep_alloc) | exact HK.out)⟩, ⟨by repeat (first | (with_reducible first | exact HB.out | apply below_alloc | apply pw_below_drewN | apply below_drew1 | refine below_set ?_ (IsS29.ge HI0.out)) | exact HB.out)⟩⟩
  case round =>
    clear H'
    try clear c1
    obtain ⟨x1001_1, x1003_1, x1004_1, HA, HK1, HI0, HK, HB⟩ := hrel
    cases gk with
    | zero => exact absurd HA.out (by simp [spec_lexer_comment.l0])
    | succ k1 =>
      have H := HA.out
      clear HA
      simp only [spec_lexer_comment.l0] at H
      have HC2 := Aside0.mk H
      clear H
      go_upto_region 0 with (fail)
      repeat (go_quiet (fail); go_upto_region 0 with (fail))
      go_cut [39] (fun v39 wc => ∃ (kq : Nat) (x39_1 : Bool), v39 = .bool x39_1 ∧ Aside0 (spec_lexer_comment.j1 kq x39_1 s0_0 x1001_1 s0_2 x1003_1 x1004_1 = some (r1, r2, r3, r4)) ∧ Aside0 (kq ≤ k1) ∧ Aside0 (IsS29 w0 wc g s0_0 x1001_1 s0_2 x1003_1 x1004_1) ∧ Aside0 (KeepBut w wc g none) ∧ Aside0 (Below w0.heap.size w0 wc))
      case first =>
        have H := HC2.out
        clear HC2
        by_cases c3 : x1001_1 < (s0_0.size : Int)
        · rw [if_pos c3] at H
          have c3b0 : decide (x1001_1 < (s0_0.size : Int)) = true := decide_eq_true c3
          clear c3
          (first | rw [c3b0] | (simp only [i64_w, i32_w]; rw [c3b0]) | skip)
          by_cases c4 : 0 ≤ x1001_1
          · rw [if_pos c4] at H
            have c4b0 : decide (0 ≤ x1001_1) = true := decide_eq_true c4
            clear c4
            by_cases c6 : (bt s0_0 x1001_1) = 10
            · rw [if_pos c6] at H
              have c6b0 : ((bt s0_0 x1001_1) == 10) = true := beq_iff_eq.mpr c6
              have c6b1 : ((bt s0_0 x1001_1) != 10) = false := bne_eq_false_iff_eq.mpr c6
              clear c6
              have H' := Aside0.mk H
              clear H
              obtain ⟨ASz7_2, cSz7_2, HGz7, hgz7, HSz7_2⟩ := HI0.out
              have hcz7_0 := cellS29_0 HGz7
              have hcz7_1 := cellS29_1 HGz7
              have hcz7_2 := cellS29_2 HGz7
              have hcz7_3 := cellS29_3 HGz7
              have hcz7_4 := cellS29_4 HGz7
              have hfz7_0 := blk_frozen HGz7 0
              have hfz7_1 := blk_frozen HGz7 1
              have hfz7_3 := blk_frozen HGz7 3
              have hfz7_4 := blk_frozen HGz7 4
              clear HGz7 hgz7
              have p5 : 0 ≤ (x1001_1 : Int) := of_decide_eq_true (by first | (with_reducible assumption) | assumption)
              have q5 : x1001_1 < (s0_0.size : Int) := of_decide_eq_true (by first | (with_reducible assumption) | assumption)
              have hx5 := bt_at s0_0 x1001_1
              replace p5 := eq_true p5
              replace q5 := eq_true q5
              go_wp2
              repeat (go_quiet (fail); try go_wp2)
              go_meet
              case rel => exact ⟨_, (false), (by first | rfl | (simp; done) | (simp [*]; done)), H', ⟨by have := HK1.out; first | omega | exact Nat.le_refl _⟩, ⟨by repeat (first | (with_reducible first | exact HI0.out | apply IsS29.alloc | apply IsS29.drewN | apply IsS29.drew | apply IsS29.set_0 | apply IsS29.set_1 | apply IsS29.set_3 | apply IsS29.set_4) | exact HI0.out)⟩, ⟨by repeat (first | (with_reducible first | exact HK.out | apply KeepBut.set_ | apply keep_drewN | apply keep_drew | apply keep_alloc) | exact HK.out)⟩, ⟨by repeat (first | (with_reducible first | exact HB.out | apply below_alloc | apply pw_below_drewN | apply below_drew1 | refine below_set ?_ (IsS29.ge HI0.out)) | exact HB.out)⟩⟩
            · rw [if_neg c6] at H
              have c6b0 : ((bt s0_0 x1001_1) == 10) = false := beq_eq_false_iff_ne.mpr c6
              have c6b1 : ((bt s0_0 x1001_1) != 10) = true := bne_iff_ne.mpr c6
              have H' := Aside0.mk H
              clear H
              obtain ⟨ASz9_2, cSz9_2, HGz9, hgz9, HSz9_2⟩ := HI0.out
              have hcz9_0 := cellS29_0 HGz9
              have hcz9_1 := cellS29_1 HGz9
              have hcz9_2 := cellS29_2 HGz9
              have hcz9_3 := cellS29_3 HGz9
              have hcz9_4 := cellS29_4 HGz9
              have hfz9_0 := blk_frozen HGz9 0
              have hfz9_1 := blk_frozen HGz9 1
              have hfz9_3 := blk_frozen HGz9 3
              have hfz9_4 := blk_frozen HGz9 4
              clear HGz9 hgz9
              have p5 : 0 ≤ (x1001_1 : Int) := of_decide_eq_true (by first | (with_reducible assumption) | assumption)
              have q5 : x1001_1 < (s0_0.size : Int) := of_decide_eq_true (by first | (with_reducible assumption) | assumption)
              have hx5 := bt_at s0_0 x1001_1
              replace p5 := eq_true p5
              replace q5 := eq_true q5
              have p8 : 0 ≤ (x1001_1 : Int) := of_decide_eq_true (by first | (with_reducible assumption) | assumption)
              have q8 : x1001_1 < (s0_0.size : Int) := of_decide_eq_true (by first | (with_reducible assumption) | assumption)
              have hx8 := bt_at s0_0 x1001_1
              replace p8 := eq_true p8
              replace q8 := eq_true q8
              go_wp2
              repeat (go_quiet (fail); try go_wp2)
              go_meet
              case rel => exact ⟨_, (((bt s0_0 x1001_1) != 13)), (by first | rfl | (simp; done) | (simp [*]; done)), H', ⟨by have := HK1.out; first | omega | exact Nat.le_refl _⟩, ⟨by repeat (first | (with_reducible first | exact HI0.out | apply IsS29.alloc | apply IsS29.drewN | apply IsS29.drew | apply IsS29.set_0 | apply IsS29.set_1 | apply IsS29.set_3 | apply IsS29.set_4) | exact HI0.out)⟩, ⟨by repeat (first | (with_reducible first | exact HK.out | apply KeepBut.set_ | apply keep_drewN | apply keep_drew | apply keep_alloc) | exact HK.out)⟩, ⟨by repeat (first | (with_reducible first | exact HB.out | apply below_alloc | apply pw_below_drewN | apply below_drew1 | refine below_set ?_ (IsS29.ge HI0.out)) | exact HB.out)⟩⟩
          · rw [if_neg c4] at H
            exact absurd H (by simp)
        · rw [if_neg c3] at H
          have c3b0 : decide (x1001_1 < (s0_0.size : Int)) = false := decide_eq_false c3
          clear c3
          (first | rw [c3b0] | (simp only [i64_w, i32_w]; rw [c3b0]) | skip)
          have H' := Aside0.mk H
          clear H
          obtain ⟨ASz10_2, cSz10_2, HGz10, hgz10, HSz10_2⟩ := HI0.out
          have hcz10_0 := cellS29_0 HGz10
          have hcz10_1 := cellS29_1 HGz10
          have hcz10_2 := cellS29_2 HGz10
          have hcz10_3 := cellS29_3 HGz10
          have hcz10_4 := cellS29_4 HGz10
          have hfz10_0 := blk_frozen HGz10 0
          have hfz10_1 := blk_frozen HGz10 1
          have hfz10_3 := blk_frozen HGz10 3
          have hfz10_4 := blk_frozen HGz10 4
          clear HGz10 hgz10
          go_wp2
          repeat (go_quiet (fail); try go_wp2)
          go_meet
          case rel => exact ⟨_, (false), (by first | rfl | (simp; done) | (simp [*]; done)), H', ⟨by have := HK1.out; first | omega | exact Nat.le_refl _⟩, ⟨by repeat (first | (with_reducible first | exact HI0.out | apply IsS29.alloc | apply IsS29.drewN | apply IsS29.drew | apply IsS29.set_0 | apply IsS29.set_1 | apply IsS29.set_3 | apply IsS29.set_4) | exact HI0.out)⟩, ⟨by repeat (first | (with_reducible first | exact HK.out | apply KeepBut.set_ | apply keep_drewN | apply keep_drew | apply keep_alloc) | exact HK.out)⟩, ⟨by repeat (first | (with_reducible first | exact HB.out | apply below_alloc | apply pw_below_drewN | apply below_drew1 | refine below_set ?_ (IsS29.ge HI0.out)) | exact HB.out)⟩⟩
      case rest =>
        clear HC2
        try clear c1
        try clear p2
        try clear c3
        try clear c3b0
        try clear c4
        try clear c4b0
        try clear p5
        try clear q5
        try clear hx5
        try clear c6
        try clear c6b0
        try clear c6b1
        try clear p8
        try clear q8
        try clear hx8
        try clear hcz10_0
        try clear hcz10_1
        try clear hcz10_2
        try clear hcz10_3
        try clear hcz10_4
        try clear hcz7_0
        try clear hcz7_1
        try clear hcz7_2
        try clear hcz7_3
        try clear hcz7_4
        try clear hcz9_0
        try clear hcz9_1
        try clear hcz9_2
        try clear hcz9_3
        try clear hcz9_4
        try clear hfz10_0
        try clear hfz10_1
        try clear hfz10_3
        try clear hfz10_4
        try clear hfz7_0
        try clear hfz7_1
        try clear hfz7_3
        try clear hfz7_4
        try clear hfz9_0
        try clear hfz9_1
        try clear hfz9_3
        try clear hfz9_4
        try clear p5
        try clear p8
        try clear q5
        try clear q8
        obtain ⟨kq, x39_1, rfl, HA, HJ1, HI0, HK, HB⟩ := hcut
        cases kq with
        | zero => exact absurd HA.out (by simp [spec_lexer_comment.j1])
        | succ kj1 =>
          have H := HA.out
          clear HA
          simp only [spec_lexer_comment.j1] at H
          by_cases c11 : x39_1 = true
          · subst c11
            have H1 : ((spec_Point.f kj1 s0_0 x1001_1).bind fun bt104 => (if bt104.2 = 0 then (some (s0_0, x1001_1, true, true)) else ((spec_source.f bt104.1).bind fun bt106 => (if x1004_1 = true then (spec_lexer_comment.l0 kj1 s0_0 (wrap64 (x1001_1 + bt104.2)) s0_2 x1003_1 true) else (if bt106.2 = true then (if bt106.1 = true then (spec_lexer_comment.l0 kj1 s0_0 (wrap64 (x1001_1 + bt104.2)) s0_2 x1003_1 (decide (bt104.1 ≥ 128))) else (spec_lexer_comment.l0 kj1 s0_0 (wrap64 (x1001_1 + bt104.2)) s0_2 x1003_1 true)) else (spec_lexer_comment.l0 kj1 s0_0 (wrap64 (x1001_1 + bt104.2)) s0_2 x1003_1 true)))))) = some (r1, r2, r3, r4) := by rw [if_pos rfl] at H; exact H
            clear H
            have H := H1
            clear H1
            replace H := Option.bind_eq_some_iff.mp H
            obtain ⟨⟨t104, t105⟩, A120, H⟩ := H
            replace H : (if t105 = 0 then (some (s0_0, x1001_1, true, true)) else ((spec_source.f t104).bind fun bt106 => (if x1004_1 = true then (spec_lexer_comment.l0 kj1 s0_0 (wrap64 (x1001_1 + t105)) s0_2 x1003_1 true) else (if bt106.2 = true then (if bt106.1 = true then (spec_lexer_comment.l0 kj1 s0_0 (wrap64 (x1001_1 + t105)) s0_2 x1003_1 (decide (t104 ≥ 128))) else (spec_lexer_comment.l0 kj1 s0_0 (wrap64 (x1001_1 + t105)) s0_2 x1003_1 true)) else (spec_lexer_comment.l0 kj1 s0_0 (wrap64 (x1001_1 + t105)) s0_2 x1003_1 true))))) = some (r1, r2, r3, r4) := H
            have A12 := Aside0.mk A120
            clear A120
            by_cases c13 : t105 = 0
            · rw [if_pos c13] at H
              have c13b0 : (t105 == 0) = true := beq_iff_eq.mpr c13
              have c13b1 : (t105 != 0) = false := bne_eq_false_iff_eq.mpr c13
              clear c13
              simp only [Option.some.injEq, Prod.mk.injEq] at H
              obtain ⟨rfl, rfl, rfl, rfl⟩ := H
              obtain ⟨ASz14_2, cSz14_2, HGz14, hgz14, HSz14_2⟩ := HI0.out
              have hcz14_0 := cellS29_0 HGz14
              have hcz14_1 := cellS29_1 HGz14
              have hcz14_2 := cellS29_2 HGz14
              have hcz14_3 := cellS29_3 HGz14
              have hcz14_4 := cellS29_4 HGz14
              have hfz14_0 := blk_frozen HGz14 0
              have hfz14_1 := blk_frozen HGz14 1
              have hfz14_3 := blk_frozen HGz14 3
              have hfz14_4 := blk_frozen HGz14 4
              clear HGz14 hgz14
              go_wp2_with (first | (go_at_call 11; (with_reducible refine (spec_Point.calls kj1 s0_0 x1001_1 t104 t105 _ A12.out).mono ?_); rintro e w' ⟨rfl, ⟨nd, rfl⟩⟩; (try first | exact ⟨rfl, _, World.drewN_drewN _ _ _⟩ | exact ⟨rfl, _, Eq.trans (World.drewN_drewN _ _ _) (congrArg (World.drewN _) (Nat.add_assoc _ _ _))⟩)))
              repeat (go_quiet (first | (go_at_call 11; (with_reducible refine (spec_Point.calls kj1 s0_0 x1001_1 t104 t105 _ A12.out).mono ?_); rintro e w' ⟨rfl, ⟨nd, rfl⟩⟩; (try first | exact ⟨rfl, _, World.drewN_drewN _ _ _⟩ | exact ⟨rfl, _, Eq.trans (World.drewN_drewN _ _ _) (congrArg (World.drewN _) (Nat.add_assoc _ _ _))⟩))); try go_wp2_with (first | (go_at_call 11; (with_reducible refine (spec_Point.calls kj1 s0_0 x1001_1 t104 t105 _ A12.out).mono ?_); rintro e w' ⟨rfl, ⟨nd, rfl⟩⟩; (try first | exact ⟨rfl, _, World.drewN_drewN _ _ _⟩ | exact ⟨rfl, _, Eq.trans (World.drewN_drewN _ _ _) (congrArg (World.drewN _) (Nat.add_assoc _ _ _))⟩))))
              first | go_end0 | ((try simp only [Exit.inBlock, Exit.then]); refine bodyPost_ret (results_none rfl _ _ _) rfl ?_)
              exact ⟨by first | rfl | (simp [errW_none, errW_some] <;> rfl) | (simp [*, errW_none, errW_some] <;> rfl), by repeat (first | (with_reducible first | exact HI0.out | apply IsS29.alloc | apply IsS29.drewN | apply IsS29.drew | apply IsS29.set_0 | apply IsS29.set_1 | apply IsS29.set_3 | apply IsS29.set_4) | exact HI0.out), by repeat (first | (with_reducible first | exact HB.out | apply below_alloc | apply pw_below_drewN | apply below_drew1 | refine below_set ?_ (IsS29.ge HI0.out)) | exact HB.out), by repeat (first | (with_reducible first | exact HK.out | apply KeepBut.set_ | apply keep_drewN | apply keep_drew | apply keep_alloc) | exact HK.out)⟩
            · rw [if_neg c13] at H
              have c13b0 : (t105 == 0) = false := beq_eq_false_iff_ne.mpr c13
              have c13b1 : (t105 != 0) = true := bne_iff_ne.mpr c13
              replace H := Option.bind_eq_some_iff.mp H
              obtain ⟨⟨t106, t107⟩, A150, H⟩ := H
              replace H : (if x1004_1 = true then (spec_lexer_comment.l0 kj1 s0_0 (wrap64 (x1001_1 + t105)) s0_2 x1003_1 true) else (if t107 = true then (if t106 = true then (spec_lexer_comment.l0 kj1 s0_0 (wrap64 (x1001_1 + t105)) s0_2 x1003_1 (decide (t104 ≥ 128))) else (spec_lexer_comment.l0 kj1 s0_0 (wrap64 (x1001_1 + t105)) s0_2 x1003_1 true)) else (spec_lexer_comment.l0 kj1 s0_0 (wrap64 (x1001_1 + t105)) s0_2 x1003_1 true))) = some (r1, r2, r3, r4) := H
              have A15 := Aside0.mk A150
              clear A150
              by_cases c16 : x1004_1 = true
              · subst c16
                have H1 : (spec_lexer_comment.l0 kj1 s0_0 (wrap64 (x1001_1 + t105)) s0_2 x1003_1 true) = some (r1, r2, r3, r4) := by rw [if_pos rfl] at H; exact H
                clear H
                have H := H1
                clear H1
                have H' := Aside0.mk H
                clear H
                obtain ⟨ASz17_2, cSz17_2, HGz17, hgz17, HSz17_2⟩ := HI0.out
                have hcz17_0 := cellS29_0 HGz17
                have hcz17_1 := cellS29_1 HGz17
                have hcz17_2 := cellS29_2 HGz17
                have hcz17_3 := cellS29_3 HGz17
                have hcz17_4 := cellS29_4 HGz17
                have hfz17_0 := blk_frozen HGz17 0
                have hfz17_1 := blk_frozen HGz17 1
                have hfz17_3 := blk_frozen HGz17 3
                have hfz17_4 := blk_frozen HGz17 4
                clear HGz17 hgz17
                go_wp2_with (first | (go_at_call 11; (with_reducible refine (spec_Point.calls kj1 s0_0 x1001_1 t104 t105 _ A12.out).mono ?_); rintro e w' ⟨rfl, ⟨nd, rfl⟩⟩; (try first | exact ⟨rfl, _, World.drewN_drewN _ _ _⟩ | exact ⟨rfl, _, Eq.trans (World.drewN_drewN _ _ _) (congrArg (World.drewN _) (Nat.add_assoc _ _ _))⟩)) | (go_at_call 23; (with_reducible refine (spec_source.calls t104 t106 t107 _ A15.out).mono ?_); rintro e w' ⟨rfl, ⟨nd, rfl⟩⟩; (try first | exact ⟨rfl, _, World.drewN_drewN _ _ _⟩ | exact ⟨rfl, _, Eq.trans (World.drewN_drewN _ _ _) (congrArg (World.drewN _) (Nat.add_assoc _ _ _))⟩)))
                repeat (go_quiet (first | (go_at_call 11; (with_reducible refine (spec_Point.calls kj1 s0_0 x1001_1 t104 t105 _ A12.out).mono ?_); rintro e w' ⟨rfl, ⟨nd, rfl⟩⟩; (try first | exact ⟨rfl, _, World.drewN_drewN _ _ _⟩ | exact ⟨rfl, _, Eq.trans (World.drewN_drewN _ _ _) (congrArg (World.drewN _) (Nat.add_assoc _ _ _))⟩)) | (go_at_call 23; (with_reducible refine (spec_source.calls t104 t106 t107 _ A15.out).mono ?_); rintro e w' ⟨rfl, ⟨nd, rfl⟩⟩; (try first | exact ⟨rfl, _, World.drewN_drewN _ _ _⟩ | exact ⟨rfl, _, Eq.trans (World.drewN_drewN _ _ _) (congrArg (World.drewN _) (Nat.add_assoc _ _ _))⟩))); try go_wp2_with (first | (go_at_call 11; (with_reducible refine (spec_Point.calls kj1 s0_0 x1001_1 t104 t105 _ A12.out).mono ?_); rintro e w' ⟨rfl, ⟨nd, rfl⟩⟩; (try first | exact ⟨rfl, _, World.drewN_drewN _ _ _⟩ | exact ⟨rfl, _, Eq.trans (World.drewN_drewN _ _ _) (congrArg (World.drewN _) (Nat.add_assoc _ _ _))⟩)) | (go_at_call 23; (with_reducible refine (spec_source.calls t104 t106 t107 _ A15.out).mono ?_); rintro e w' ⟨rfl, ⟨nd, rfl⟩⟩; (try first | exact ⟨rfl, _, World.drewN_drewN _ _ _⟩ | exact ⟨rfl, _, Eq.trans (World.drewN_drewN _ _ _) (congrArg (World.drewN _) (Nat.add_assoc _ _ _))⟩))))
                go_roundg kj1
                case measure => have := HK1.out; have := HJ1.out; omega
                case rel => exact ⟨(wrap64 (x1001_1 + t105)), (x1003_1), (true), H', ⟨by have := HK1.out; have := HJ1.out; omega⟩, ⟨by repeat (first | (with_reducible first | exact HI0.out | apply IsS29.alloc | apply IsS29.drewN | apply IsS29.drew | apply IsS29.set_0 | apply IsS29.set_1 | apply IsS29.set_3 | apply IsS29.set_4) | exact HI0.out)⟩, ⟨by repeat (first | (with_reducible first | exact HK.out | apply KeepBut.set_ | apply keep_drewN | apply keep_drew | apply keep_alloc) | exact HK.out)⟩, ⟨by repeat (first | (with_reducible first | exact HB.out | apply below_alloc | apply pw_below_drewN | apply below_drew1 | refine below_set ?_ (IsS29.ge HI0.out)) | exact HB.out)⟩⟩
              · replace c16 := Bool.eq_false_iff.mpr c16
                subst c16
                have H1 : (if t107 = true then (if t106 = true then (spec_lexer_comment.l0 kj1 s0_0 (wrap64 (x1001_1 + t105)) s0_2 x1003_1 (decide (t104 ≥ 128))) else (spec_lexer_comment.l0 kj1 s0_0 (wrap64 (x1001_1 + t105)) s0_2 x1003_1 true)) else (spec_lexer_comment.l0 kj1 s0_0 (wrap64 (x1001_1 + t105)) s0_2 x1003_1 true)) = some (r1, r2, r3, r4) := by rw [if_neg (show ¬ (false = true) by decide)] at H; exact H
                clear H
                have H := H1
                clear H1
                by_cases c18 : t107 = true
                · subst c18
                  have H1 : (if t106 = true then (spec_lexer_comment.l0 kj1 s0_0 (wrap64 (x1001_1 + t105)) s0_2 x1003_1 (decide (t104 ≥ 128))) else (spec_lexer_comment.l0 kj1 s0_0 (wrap64 (x1001_1 + t105)) s0_2 x1003_1 true)) = some (r1, r2, r3, r4) := by rw [if_pos rfl] at H; exact H
                  clear H
                  have H := H1
                  clear H1
                  by_cases c19 : t106 = true
                  · subst c19
                    have H1 : (spec_lexer_comment.l0 kj1 s0_0 (wrap64 (x1001_1 + t105)) s0_2 x1003_1 (decide (t104 ≥ 128))) = some (r1, r2, r3, r4) := by rw [if_pos rfl] at H; exact H
                    clear H
                    have H := H1
                    clear H1
                    have H' := Aside0.mk H
                    clear H
                    obtain ⟨ASz20_2, cSz20_2, HGz20, hgz20, HSz20_2⟩ := HI0.out
                    have hcz20_0 := cellS29_0 HGz20
                    have hcz20_1 := cellS29_1 HGz20
                    have hcz20_2 := cellS29_2 HGz20
                    have hcz20_3 := cellS29_3 HGz20
                    have hcz20_4 := cellS29_4 HGz20
                    have hfz20_0 := blk_frozen HGz20 0
                    have hfz20_1 := blk_frozen HGz20 1
                    have hfz20_3 := blk_frozen HGz20 3
                    have hfz20_4 := blk_frozen HGz20 4
                    clear HGz20 hgz20
                    go_wp2_with (first | (go_at_call 11; (with_reducible refine (spec_Point.calls kj1 s0_0 x1001_1 t104 t105 _ A12.out).mono ?_); rintro e w' ⟨rfl, ⟨nd, rfl⟩⟩; (try first | exact ⟨rfl, _, World.drewN_drewN _ _ _⟩ | exact ⟨rfl, _, Eq.trans (World.drewN_drewN _ _ _) (congrArg (World.drewN _) (Nat.add_assoc _ _ _))⟩)) | (go_at_call 23; (with_reducible refine (spec_source.calls t104 true true _ A15.out).mono ?_); rintro e w' ⟨rfl, ⟨nd, rfl⟩⟩; (try first | exact ⟨rfl, _, World.drewN_drewN _ _ _⟩ | exact ⟨rfl, _, Eq.trans (World.drewN_drewN _ _ _) (congrArg (World.drewN _) (Nat.add_assoc _ _ _))⟩)))
                    repeat (go_quiet (first | (go_at_call 11; (with_reducible refine (spec_Point.calls kj1 s0_0 x1001_1 t104 t105 _ A12.out).mono ?_); rintro e w' ⟨rfl, ⟨nd, rfl⟩⟩; (try first | exact ⟨rfl, _, World.drewN_drewN _ _ _⟩ | exact ⟨rfl, _, Eq.trans (World.drewN_drewN _ _ _) (congrArg (World.drewN _) (Nat.add_assoc _ _ _))⟩)) | (go_at_call 23; (with_reducible refine (spec_source.calls t104 true true _ A15.out).mono ?_); rintro e w' ⟨rfl, ⟨nd, rfl⟩⟩; (try first | exact ⟨rfl, _, World.drewN_drewN _ _ _⟩ | exact ⟨rfl, _, Eq.trans (World.drewN_drewN _ _ _) (congrArg (World.drewN _) (Nat.add_assoc _ _ _))⟩))); try go_wp2_with (first | (go_at_call 11; (with_reducible refine (spec_Point.calls kj1 s0_0 x1001_1 t104 t105 _ A12.out).mono ?_); rintro e w' ⟨rfl, ⟨nd, rfl⟩⟩; (try first | exact ⟨rfl, _, World.drewN_drewN _ _ _⟩ | exact ⟨rfl, _, Eq.trans (World.drewN_drewN _ _ _) (congrArg (World.drewN _) (Nat.add_assoc _ _ _))⟩)) | (go_at_call 23; (with_reducible refine (spec_source.calls t104 true true _ A15.out).mono ?_); rintro e w' ⟨rfl, ⟨nd, rfl⟩⟩; (try first | exact ⟨rfl, _, World.drewN_drewN _ _ _⟩ | exact ⟨rfl, _, Eq.trans (World.drewN_drewN _ _ _) (congrArg (World.drewN _) (Nat.add_assoc _ _ _))⟩))))
                    go_roundg kj1
                    case measure => have := HK1.out; have := HJ1.out; omega
                    case rel => exact ⟨(wrap64 (x1001_1 + t105)), (x1003_1), (decide (t104 ≥ 128)), H', ⟨by have := HK1.out; have := HJ1.out; omega⟩, ⟨by repeat (first | (with_reducible first | exact HI0.out | apply IsS29.alloc | apply IsS29.drewN | apply IsS29.drew | apply IsS29.set_0 | apply IsS29.set_1 | apply IsS29.set_3 | apply IsS29.set_4) | exact HI0.out)⟩, ⟨by repeat (first | (with_reducible first | exact HK.out | apply KeepBut.set_ | apply keep_drewN | apply keep_drew | apply keep_alloc) | exact HK.out)⟩, ⟨by repeat (first | (with_reducible first | exact HB.out | apply below_alloc | apply pw_below_drewN | apply below_drew1 | refine below_set ?_ (IsS29.ge HI0.out)) | exact HB.out)⟩⟩
                  · replace c19 := Bool.eq_false_iff.mpr c19
                    subst c19
                    have H1 : (spec_lexer_comment.l0 kj1 s0_0 (wrap64 (x1001_1 + t105)) s0_2 x1003_1 true) = some (r1, r2, r3, r4) := by rw [if_neg (show ¬ (false = true) by decide)] at H; exact H
                    clear H
                    have H := H1
                    clear H1
                    have H' := Aside0.mk H
                    clear H
                    obtain ⟨ASz21_2, cSz21_2, HGz21, hgz21, HSz21_2⟩ := HI0.out
                    have hcz21_0 := cellS29_0 HGz21
                    have hcz21_1 := cellS29_1 HGz21
                    have hcz21_2 := cellS29_2 HGz21
                    have hcz21_3 := cellS29_3 HGz21
                    have hcz21_4 := cellS29_4 HGz21
                    have hfz21_0 := blk_frozen HGz21 0
                    have hfz21_1 := blk_frozen HGz21 1
                    have hfz21_3 := blk_frozen HGz21 3
                    have hfz21_4 := blk_frozen HGz21 4
                    clear HGz21 hgz21
                    go_wp2_with (first | (go_at_call 11; (with_reducible refine (spec_Point.calls kj1 s0_0 x1001_1 t104 t105 _ A12.out).mono ?_); rintro e w' ⟨rfl, ⟨nd, rfl⟩⟩; (try first | exact ⟨rfl, _, World.drewN_drewN _ _ _⟩ | exact ⟨rfl, _, Eq.trans (World.drewN_drewN _ _ _) (congrArg (World.drewN _) (Nat.add_assoc _ _ _))⟩)) | (go_at_call 23; (with_reducible refine (spec_source.calls t104 false true _ A15.out).mono ?_); rintro e w' ⟨rfl, ⟨nd, rfl⟩⟩; (try first | exact ⟨rfl, _, World.drewN_drewN _ _ _⟩ | exact ⟨rfl, _, Eq.trans (World.drewN_drewN _ _ _) (congrArg (World.drewN _) (Nat.add_assoc _ _ _))⟩)))
                    repeat (go_quiet (first | (go_at_call 11; (with_reducible refine (spec_Point.calls kj1 s0_0 x1001_1 t104 t105 _ A12.out).mono ?_); rintro e w' ⟨rfl, ⟨nd, rfl⟩⟩; (try first | exact ⟨rfl, _, World.drewN_drewN _ _ _⟩ | exact ⟨rfl, _, Eq.trans (World.drewN_drewN _ _ _) (congrArg (World.drewN _) (Nat.add_assoc _ _ _))⟩)) | (go_at_call 23; (with_reducible refine (spec_source.calls t104 false true _ A15.out).mono ?_); rintro e w' ⟨rfl, ⟨nd, rfl⟩⟩; (try first | exact ⟨rfl, _, World.drewN_drewN _ _ _⟩ | exact ⟨rfl, _, Eq.trans (World.drewN_drewN _ _ _) (congrArg (World.drewN _) (Nat.add_assoc _ _ _))⟩))); try go_wp2_with (first | (go_at_call 11; (with_reducible refine (spec_Point.calls kj1 s0_0 x1001_1 t104 t105 _ A12.out).mono ?_); rintro e w' ⟨rfl, ⟨nd, rfl⟩⟩; (try first | exact ⟨rfl, _, World.drewN_drewN _ _ _⟩ | exact ⟨rfl, _, Eq.trans (World.drewN_drewN _ _ _) (congrArg (World.drewN _) (Nat.add_assoc _ _ _))⟩)) | (go_at_call 23; (with_reducible refine (spec_source.calls t104 false true _ A15.out).mono ?_); rintro e w' ⟨rfl, ⟨nd, rfl⟩⟩; (try first | exact ⟨rfl, _, World.drewN_drewN _ _ _⟩ | exact ⟨rfl, _, Eq.trans (World.drewN_drewN _ _ _) (congrArg (World.drewN _) (Nat.add_assoc _ _ _))⟩))))
                    go_roundg kj1
                    case measure => have := HK1.out; have := HJ1.out; omega
                    case rel => exact ⟨(wrap64 (x1001_1 + t105)), (x1003_1), (true), H', ⟨by have := HK1.out; have := HJ1.out; omega⟩, ⟨by repeat (first | (with_reducible first | exact HI0.out | apply IsS29.alloc | apply IsS29.drewN | apply IsS29.drew | apply IsS29.set_0 | apply IsS29.set_1 | apply IsS29.set_3 | apply IsS29.set_4) | exact HI0.out)⟩, ⟨by repeat (first | (with_reducible first | exact HK.out | apply KeepBut.set_ | apply keep_drewN | apply keep_drew | apply keep_alloc) | exact HK.out)⟩, ⟨by repeat (first | (with_reducible first | exact HB.out | apply below_alloc | apply pw_below_drewN | apply below_drew1 | refine below_set ?_ (IsS29.ge HI0.out)) | exact HB.out)⟩⟩
                · replace c18 := Bool.eq_false_iff.mpr c18
                  subst c18
                  have H1 : (spec_lexer_comment.l0 kj1 s0_0 (wrap64 (x1001_1 + t105)) s0_2 x1003_1 true) = some (r1, r2, r3, r4) := by rw [if_neg (show ¬ (false = true) by decide)] at H; exact H
                  clear H
                  have H := H1
                  clear H1
                  have H' := Aside0.mk H
                  clear H
                  obtain ⟨ASz22_2, cSz22_2, HGz22, hgz22, HSz22_2⟩ := HI0.out
                  have hcz22_0 := cellS29_0 HGz22
                  have hcz22_1 := cellS29_1 HGz22
                  have hcz22_2 := cellS29_2 HGz22
                  have hcz22_3 := cellS29_3 HGz22
                  have hcz22_4 := cellS29_4 HGz22
                  have hfz22_0 := blk_frozen HGz22 0
                  have hfz22_1 := blk_frozen HGz22 1
                  have hfz22_3 := blk_frozen HGz22 3
                  have hfz22_4 := blk_frozen HGz22 4
                  clear HGz22 hgz22
                  go_wp2_with (first | (go_at_call 11; (with_reducible refine (spec_Point.calls kj1 s0_0 x1001_1 t104 t105 _ A12.out).mono ?_); rintro e w' ⟨rfl, ⟨nd, rfl⟩⟩; (try first | exact ⟨rfl, _, World.drewN_drewN _ _ _⟩ | exact ⟨rfl, _, Eq.trans (World.drewN_drewN _ _ _) (congrArg (World.drewN _) (Nat.add_assoc _ _ _))⟩)) | (go_at_call 23; (with_reducible refine (spec_source.calls t104 t106 false _ A15.out).mono ?_); rintro e w' ⟨rfl, ⟨nd, rfl⟩⟩; (try first | exact ⟨rfl, _, World.drewN_drewN _ _ _⟩ | exact ⟨rfl, _, Eq.trans (World.drewN_drewN _ _ _) (congrArg (World.drewN _) (Nat.add_assoc _ _ _))⟩)))
                  repeat (go_quiet (first | (go_at_call 11; (with_reducible refine (spec_Point.calls kj1 s0_0 x1001_1 t104 t105 _ A12.out).mono ?_); rintro e w' ⟨rfl, ⟨nd, rfl⟩⟩; (try first | exact ⟨rfl, _, World.drewN_drewN _ _ _⟩ | exact ⟨rfl, _, Eq.trans (World.drewN_drewN _ _ _) (congrArg (World.drewN _) (Nat.add_assoc _ _ _))⟩)) | (go_at_call 23; (with_reducible refine (spec_source.calls t104 t106 false _ A15.out).mono ?_); rintro e w' ⟨rfl, ⟨nd, rfl⟩⟩; (try first | exact ⟨rfl, _, World.drewN_drewN _ _ _⟩ | exact ⟨rfl, _, Eq.trans (World.drewN_drewN _ _ _) (congrArg (World.drewN _) (Nat.add_assoc _ _ _))⟩))); try go_wp2_with (first | (go_at_call 11; (with_reducible refine (spec_Point.calls kj1 s0_0 x1001_1 t104 t105 _ A12.out).mono ?_); rintro e w' ⟨rfl, ⟨nd, rfl⟩⟩; (try first | exact ⟨rfl, _, World.drewN_drewN _ _ _⟩ | exact ⟨rfl, _, Eq.trans (World.drewN_drewN _ _ _) (congrArg (World.drewN _) (Nat.add_assoc _ _ _))⟩)) | (go_at_call 23; (with_reducible refine (spec_source.calls t104 t106 false _ A15.out).mono ?_); rintro e w' ⟨rfl, ⟨nd, rfl⟩⟩; (try first | exact ⟨rfl, _, World.drewN_drewN _ _ _⟩ | exact ⟨rfl, _, Eq.trans (World.drewN_drewN _ _ _) (congrArg (World.drewN _) (Nat.add_assoc _ _ _))⟩))))
                  go_roundg kj1
                  case measure => have := HK1.out; have := HJ1.out; omega
                  case rel => exact ⟨(wrap64 (x1001_1 + t105)), (x1003_1), (true), H', ⟨by have := HK1.out; have := HJ1.out; omega⟩, ⟨by repeat (first | (with_reducible first | exact HI0.out | apply IsS29.alloc | apply IsS29.drewN | apply IsS29.drew | apply IsS29.set_0 | apply IsS29.set_1 | apply IsS29.set_3 | apply IsS29.set_4) | exact HI0.out)⟩, ⟨by repeat (first | (with_reducible first | exact HK.out | apply KeepBut.set_ | apply keep_drewN | apply keep_drew | apply keep_alloc) | exact HK.out)⟩, ⟨by repeat (first | (with_reducible first | exact HB.out | apply below_alloc | apply pw_below_drewN | apply below_drew1 | refine below_set ?_ (IsS29.ge HI0.out)) | exact HB.out)⟩⟩
          · replace c11 := Bool.eq_false_iff.mpr c11
            subst c11
            have H1 : (some (s0_0, x1001_1, x1003_1, x1004_1)) = some (r1, r2, r3, r4) := by rw [if_neg (show ¬ (false = true) by decide)] at H; exact H
            clear H
            have H := H1
            clear H1
            simp only [Option.some.injEq, Prod.mk.injEq] at H
            obtain ⟨rfl, rfl, rfl, rfl⟩ := H
            go_wp2
            repeat (go_quiet (fail); try go_wp2)
            first | go_end0 | ((try simp only [Exit.inBlock, Exit.then]); refine bodyPost_ret (results_none rfl _ _ _) rfl ?_)
            exact ⟨by first | rfl | (simp [errW_none, errW_some] <;> rfl) | (simp [*, errW_none, errW_some] <;> rfl), by repeat (first | (with_reducible first | exact HI0.out | apply IsS29.alloc | apply IsS29.drewN | apply IsS29.drew | apply IsS29.set_0 | apply IsS29.set_1 | apply IsS29.set_3 | apply IsS29.set_4) | exact HI0.out), by repeat (first | (with_reducible first | exact HB.out | apply below_alloc | apply pw_below_drewN | apply below_drew1 | refine below_set ?_ (IsS29.ge HI0.out)) | exact HB.out), by repeat (first | (with_reducible first | exact HK.out | apply KeepBut.set_ | apply keep_drewN | apply keep_drew | apply keep_alloc) | exact HK.out)⟩

-- NOT PRINTED: function 13 (spec_lexer_add)

/-! ### spec_sign: function 14 -/
def spec_sign.f (a0 : Int) : Option (Int) := if a0 = 33 then (some 2) else (if a0 = 36 then (some 3) else (if a0 = 40 then (some 4) else (if a0 = 41 then (some 5) else (if a0 = 58 then (some 7) else (if a0 = 61 then (some 8) else (if a0 = 64 then (some 9) else (if a0 = 91 then (some 10) else (if a0 = 93 then (some 11) else (if a0 = 123 then (some 12) else (if a0 = 124 then (some 13) else (if a0 = 125 then (some 14) else (if a0 = 38 then (some 20) else (some 0)))))))))))))
set_option maxHeartbeats 8000000 in
set_option maxRecDepth 100000 in
theorem spec_sign.calls (a0 : Int) (r : Int) (w : World) (h : spec_sign.f a0 = some r) :
    Calls Tryd.prog 14 #[.int .u8 a0] w fun e w' => e = .returned (.int .i64 r) ∧ Drawn0 w w' := by
  have H : (if a0 = 33 then (some 2) else (if a0 = 36 then (some 3) else (if a0 = 40 then (some 4) else (if a0 = 41 then (some 5) else (if a0 = 58 then (some 7) else (if a0 = 61 then (some 8) else (if a0 = 64 then (some 9) else (if a0 = 91 then (some 10) else (if a0 = 93 then (some 11) else (if a0 = 123 then (some 12) else (if a0 = 124 then (some 13) else (if a0 = 125 then (some 14) else (if a0 = 38 then (some 20) else (some 0)))))))))))))) = some r := h
  clear h
  by_cases c2 : a0 = 33
  · rw [if_pos c2] at H
    have c2b0 : (a0 == 33) = true := beq_iff_eq.mpr c2
    have c2b1 : (a0 != 33) = false := bne_eq_false_iff_eq.mpr c2
    clear c2
    obtain rfl := Option.some.inj H
    go_enter Tryd.func14, Tryd.ntmps14
    go_wp2
    go_ret
    exact ⟨by first | rfl | (simp; done) | (simp [*]; done), by repeat (first | exact Drawn0.refl _ | apply Drawn0.step)⟩
  · rw [if_neg c2] at H
    have c2b0 : (a0 == 33) = false := beq_eq_false_iff_ne.mpr c2
    have c2b1 : (a0 != 33) = true := bne_iff_ne.mpr c2
    by_cases c3 : a0 = 36
    · rw [if_pos c3] at H
      have c3b0 : (a0 == 36) = true := beq_iff_eq.mpr c3
      have c3b1 : (a0 != 36) = false := bne_eq_false_iff_eq.mpr c3
      clear c3
      obtain rfl := Option.some.inj H
      go_enter Tryd.func14, Tryd.ntmps14
      go_wp2
      go_ret
      exact ⟨by first | rfl | (simp; done) | (simp [*]; done), by repeat (first | exact Drawn0.refl _ | apply Drawn0.step)⟩
    · rw [if_neg c3] at H
      have c3b0 : (a0 == 36) = false := beq_eq_false_iff_ne.mpr c3
      have c3b1 : (a0 != 36) = true := bne_iff_ne.mpr c3
      by_cases c4 : a0 = 40
      · rw [if_pos c4] at H
        have c4b0 : (a0 == 40) = true := beq_iff_eq.mpr c4
        have c4b1 : (a0 != 40) = false := bne_eq_false_iff_eq.mpr c4
        clear c4
        obtain rfl := Option.some.inj H
        go_enter Tryd.func14, Tryd.ntmps14
        go_wp2
        go_ret
        exact ⟨by first | rfl | (simp; done) | (simp [*]; done), by repeat (first | exact Drawn0.refl _ | apply Drawn0.step)⟩
      · rw [if_neg c4] at H
        have c4b0 : (a0 == 40) = false := beq_eq_false_iff_ne.mpr c4
        have c4b1 : (a0 != 40) = true := bne_iff_ne.mpr c4
        by_cases c5 : a0 = 41
        · rw [if_pos c5] at H
          have c5b0 : (a0 == 41) = true := beq_iff_eq.mpr c5
          have c5b1 : (a0 != 41) = false := bne_eq_false_iff_eq.mpr c5
          clear c5
          obtain rfl := Option.some.inj H
          go_enter Tryd.func14, Tryd.ntmps14
          go_wp2
          go_ret
          exact ⟨by first | rfl | (simp; done) | (simp [*]; done), by repeat (first | exact Drawn0.refl _ | apply Drawn0.step)⟩
        · rw [if_neg c5] at H
          have c5b0 : (a0 == 41) = false := beq_eq_false_iff_ne.mpr c5
          have c5b1 : (a0 != 41) = true := bne_iff_ne.mpr c5
          by_cases c6 : a0 = 58
          · rw [if_pos c6] at H
            have c6b0 : (a0 == 58) = true := beq_iff_eq.mpr c6
            have c6b1 : (a0 != 58) = false := bne_eq_false_iff_eq.mpr c6
            clear c6
            obtain rfl := Option.some.inj H
            go_enter Tryd.func14, Tryd.ntmps14
            go_wp2
            go_ret
            exact ⟨by first | rfl | (simp; done) | (simp [*]; done), by repeat (first | exact Drawn0.refl _ | apply Drawn0.step)⟩
          · rw [if_neg c6] at H
            have c6b0 : (a0 == 58) = false := beq_eq_false_iff_ne.mpr c6
            have c6b1 : (a0 != 58) = true := bne_iff_ne.mpr c6
            by_cases c7 : a0 = 61
            · rw [if_pos c7] at H
              have c7b0 : (a0 == 61) = true := beq_iff_eq.mpr c7
              have c7b1 : (a0 != 61) = false := bne_eq_false_iff_eq.mpr c7
              clear c7
              obtain rfl := Option.some.inj H
              go_enter Tryd.func14, Tryd.ntmps14
              go_wp2
              go_ret
              exact ⟨by first | rfl | (simp; done) | (simp [*]; done), by repeat (first | exact Drawn0.refl _ | apply Drawn0.step)⟩
            · rw [if_neg c7] at H
              have c7b0 : (a0 == 61) = false := beq_eq_false_iff_ne.mpr c7
              have c7b1 : (a0 != 61) = true := bne_iff_ne.mpr c7
              by_cases c8 : a0 = 64
              · rw [if_pos c8] at H
                have c8b0 : (a0 == 64) = true := beq_iff_eq.mpr c8
                have c8b1 : (a0 != 64) = false := bne_eq_false_iff_eq.mpr c8
                clear c8
                obtain rfl := Option.some.inj H
                go_enter Tryd.func14, Tryd.ntmps14
                go_wp2
                go_ret
                exact ⟨by first | rfl | (simp; done) | (simp [*]; done), by repeat (first | exact Drawn0.refl _ | apply Drawn0.step)⟩
              · rw [if_neg c8] at H
                have c8b0 : (a0 == 64) = false := beq_eq_false_iff_ne.mpr c8
                have c8b1 : (a0 != 64) = true := bne_iff_ne.mpr c8
                by_cases c9 : a0 = 91
                · rw [if_pos c9] at H
                  have c9b0 : (a0 == 91) = true := beq_iff_eq.mpr c9
                  have c9b1 : (a0 != 91) = false := bne_eq_false_iff_eq.mpr c9
                  clear c9
                  obtain rfl := Option.some.inj H
                  go_enter Tryd.func14, Tryd.ntmps14
                  go_wp2
                  go_ret
                  exact ⟨by first | rfl | (simp; done) | (simp [*]; done), by repeat (first | exact Drawn0.refl _ | apply Drawn0.step)⟩
                · rw [if_neg c9] at H
                  have c9b0 : (a0 == 91) = false := beq_eq_false_iff_ne.mpr c9
                  have c9b1 : (a0 != 91) = true := bne_iff_ne.mpr c9
                  by_cases c10 : a0 = 93
                  · rw [if_pos c10] at H
                    have c10b0 : (a0 == 93) = true := beq_iff_eq.mpr c10
                    have c10b1 : (a0 != 93) = false := bne_eq_false_iff_eq.mpr c10
                    clear c10
                    obtain rfl := Option.some.inj H
                    go_enter Tryd.func14, Tryd.ntmps14
                    go_wp2
                    go_ret
                    exact ⟨by first | rfl | (simp; done) | (simp [*]; done), by repeat (first | exact Drawn0.refl _ | apply Drawn0.step)⟩
                  · rw [if_neg c10] at H
                    have c10b0 : (a0 == 93) = false := beq_eq_false_iff_ne.mpr c10
                    have c10b1 : (a0 != 93) = true := bne_iff_ne.mpr c10
                    by_cases c11 : a0 = 123
                    · rw [if_pos c11] at H
                      have c11b0 : (a0 == 123) = true := beq_iff_eq.mpr c11
                      have c11b1 : (a0 != 123) = false := bne_eq_false_iff_eq.mpr c11
                      clear c11
                      obtain rfl := Option.some.inj H
                      go_enter Tryd.func14, Tryd.ntmps14
                      go_wp2
                      go_ret
                      exact ⟨by first | rfl | (simp; done) | (simp [*]; done), by repeat (first | exact Drawn0.refl _ | apply Drawn0.step)⟩
                    · rw [if_neg c11] at H
                      have c11b0 : (a0 == 123) = false := beq_eq_false_iff_ne.mpr c11
                      have c11b1 : (a0 != 123) = true := bne_iff_ne.mpr c11
                      by_cases c12 : a0 = 124
                      · rw [if_pos c12] at H
                        have c12b0 : (a0 == 124) = true := beq_iff_eq.mpr c12
                        have c12b1 : (a0 != 124) = false := bne_eq_false_iff_eq.mpr c12
                        clear c12
                        obtain rfl := Option.some.inj H
                        go_enter Tryd.func14, Tryd.ntmps14
                        go_wp2
                        go_ret
                        exact ⟨by first | rfl | (simp; done) | (simp [*]; done), by repeat (first | exact Drawn0.refl _ | apply Drawn0.step)⟩
                      · rw [if_neg c12] at H
                        have c12b0 : (a0 == 124) = false := beq_eq_false_iff_ne.mpr c12
                        have c12b1 : (a0 != 124) = true := bne_iff_ne.mpr c12
                        by_cases c13 : a0 = 125
                        · rw [if_pos c13] at H
                          have c13b0 : (a0 == 125) = true := beq_iff_eq.mpr c13
                          have c13b1 : (a0 != 125) = false := bne_eq_false_iff_eq.mpr c13
                          clear c13
                          obtain rfl := Option.some.inj H
                          go_enter Tryd.func14, Tryd.ntmps14
                          go_wp2
                          go_ret
                          exact ⟨by first | rfl | (simp; done) | (simp [*]; done), by repeat (first | exact Drawn0.refl _ | apply Drawn0.step)⟩
                        · rw [if_neg c13] at H
                          have c13b0 : (a0 == 125) = false := beq_eq_false_iff_ne.mpr c13
                          have c13b1 : (a0 != 125) = true := bne_iff_ne.mpr c13
                          by_cases c14 : a0 = 38
                          · rw [if_pos c14] at H
                            have c14b0 : (a0 == 38) = true := beq_iff_eq.mpr c14
                            have c14b1 : (a0 != 38) = false := bne_eq_false_iff_eq.mpr c14
                            clear c14
                            obtain rfl := Option.some.inj H
                            go_enter Tryd.func14, Tryd.ntmps14
                            go_wp2
                            go_ret
                            exact ⟨by first | rfl | (simp; done) | (simp [*]; done), by repeat (first | exact Drawn0.refl _ | apply Drawn0.step)⟩
                          · rw [if_neg c14] at H
                            have c14b0 : (a0 == 38) = false := beq_eq_false_iff_ne.mpr c14
                            have c14b1 : (a0 != 38) = true := bne_iff_ne.mpr c14
                            obtain rfl := Option.some.inj H
                            go_enter Tryd.func14, Tryd.ntmps14
                            go_wp2
                            go_ret
                            exact ⟨by first | rfl | (simp; done) | (simp [*]; done), by repeat (first | exact Drawn0.refl _ | apply Drawn0.step)⟩

/-! ### spec_isBegin: function 15 -/
def spec_isBegin.f (a0 : Int) : Option (Bool) := if a0 ≥ 97 then (if a0 ≤ 122 then (some true) else (if a0 ≥ 65 then (if a0 ≤ 90 then (some true) else (some (a0 == 95))) else (some (a0 == 95)))) else (if a0 ≥ 65 then (if a0 ≤ 90 then (some true) else (some (a0 == 95))) else (some (a0 == 95)))
set_option maxHeartbeats 8000000 in
set_option maxRecDepth 100000 in
theorem spec_isBegin.calls (a0 : Int) (r : Bool) (w : World) (h : spec_isBegin.f a0 = some r) :
    Calls Tryd.prog 15 #[.int .u8 a0] w fun e w' => e = .returned (.bool r) ∧ Drawn0 w w' := by
  have H : (if a0 ≥ 97 then (if a0 ≤ 122 then (some true) else (if a0 ≥ 65 then (if a0 ≤ 90 then (some true) else (some (a0 == 95))) else (some (a0 == 95)))) else (if a0 ≥ 65 then (if a0 ≤ 90 then (some true) else (some (a0 == 95))) else (some (a0 == 95)))) = some r := h
  clear h
  by_cases c2 : a0 ≥ 97
  · rw [if_pos c2] at H
    have c2b0 : decide (97 ≤ a0) = true := decide_eq_true c2
    clear c2
    by_cases c3 : a0 ≤ 122
    · rw [if_pos c3] at H
      have c3b0 : decide (a0 ≤ 122) = true := decide_eq_true c3
      clear c3
      obtain rfl := Option.some.inj H
      go_enter Tryd.func15, Tryd.ntmps15
      go_wp2
      go_ret
      exact ⟨by first | rfl | (simp; done) | (simp [*]; done), by repeat (first | exact Drawn0.refl _ | apply Drawn0.step)⟩
    · rw [if_neg c3] at H
      have c3b0 : decide (a0 ≤ 122) = false := decide_eq_false c3
      clear c3
      by_cases c4 : a0 ≥ 65
      · rw [if_pos c4] at H
        have c4b0 : decide (65 ≤ a0) = true := decide_eq_true c4
        clear c4
        by_cases c5 : a0 ≤ 90
        · rw [if_pos c5] at H
          have c5b0 : decide (a0 ≤ 90) = true := decide_eq_true c5
          clear c5
          obtain rfl := Option.some.inj H
          go_enter Tryd.func15, Tryd.ntmps15
          go_wp2
          go_ret
          exact ⟨by first | rfl | (simp; done) | (simp [*]; done), by repeat (first | exact Drawn0.refl _ | apply Drawn0.step)⟩
        · rw [if_neg c5] at H
          have c5b0 : decide (a0 ≤ 90) = false := decide_eq_false c5
          clear c5
          obtain rfl := Option.some.inj H
          go_enter Tryd.func15, Tryd.ntmps15
          go_wp2
          go_ret
          exact ⟨by first | rfl | (simp; done) | (simp [*]; done), by repeat (first | exact Drawn0.refl _ | apply Drawn0.step)⟩
      · rw [if_neg c4] at H
        have c4b0 : decide (65 ≤ a0) = false := decide_eq_false c4
        clear c4
        obtain rfl := Option.some.inj H
        go_enter Tryd.func15, Tryd.ntmps15
        go_wp2
        go_ret
        exact ⟨by first | rfl | (simp; done) | (simp [*]; done), by repeat (first | exact Drawn0.refl _ | apply Drawn0.step)⟩
  · rw [if_neg c2] at H
    have c2b0 : decide (97 ≤ a0) = false := decide_eq_false c2
    clear c2
    by_cases c6 : a0 ≥ 65
    · rw [if_pos c6] at H
      have c6b0 : decide (65 ≤ a0) = true := decide_eq_true c6
      clear c6
      by_cases c7 : a0 ≤ 90
      · rw [if_pos c7] at H
        have c7b0 : decide (a0 ≤ 90) = true := decide_eq_true c7
        clear c7
        obtain rfl := Option.some.inj H
        go_enter Tryd.func15, Tryd.ntmps15
        go_wp2
        go_ret
        exact ⟨by first | rfl | (simp; done) | (simp [*]; done), by repeat (first | exact Drawn0.refl _ | apply Drawn0.step)⟩
      · rw [if_neg c7] at H
        have c7b0 : decide (a0 ≤ 90) = false := decide_eq_false c7
        clear c7
        obtain rfl := Option.some.inj H
        go_enter Tryd.func15, Tryd.ntmps15
        go_wp2
        go_ret
        exact ⟨by first | rfl | (simp; done) | (simp [*]; done), by repeat (first | exact Drawn0.refl _ | apply Drawn0.step)⟩
    · rw [if_neg c6] at H
      have c6b0 : decide (65 ≤ a0) = false := decide_eq_false c6
      clear c6
      obtain rfl := Option.some.inj H
      go_enter Tryd.func15, Tryd.ntmps15
      go_wp2
      go_ret
      exact ⟨by first | rfl | (simp; done) | (simp [*]; done), by repeat (first | exact Drawn0.refl _ | apply Drawn0.step)⟩

/-! ### spec_lexer_next: function 16 -/
def spec_lexer_next.f (s0_0 : ByteArray) (s0_1 : Int) (s0_2 : List (S43)) (s0_3 : Bool) (s0_4 : Bool) (a1 : Int) : Option (Int × ByteArray × Int × Bool × Bool) := if a1 ≥ (s0_0.size : Int) then (some (0, s0_0, s0_1, s0_3, s0_4)) else (if 0 ≤ a1 then (if a1 < (s0_0.size : Int) then (some (bt s0_0 a1, s0_0, s0_1, s0_3, s0_4)) else (none)) else (none))
set_option maxHeartbeats 8000000 in
set_option maxRecDepth 100000 in
theorem spec_lexer_next.calls (g : Nat) (s0_0 : ByteArray) (s0_1 : Int) (s0_2 : List (S43)) (s0_3 : Bool) (s0_4 : Bool) (a1 : Int) (r1 : Int) (r2 : ByteArray) (r3 : Int) (r4 : Bool) (r5 : Bool) (w0 w : World) (hI : IsS29 w0 w g s0_0 s0_1 s0_2 s0_3 s0_4) (hB : Below w0.heap.size w0 w) (h : spec_lexer_next.f s0_0 s0_1 s0_2 s0_3 s0_4 a1 = some (r1, r2, r3, r4, r5)) :
    Calls Tryd.prog 16 #[.pointer (some ⟨g, 0, none⟩), .int .i64 a1] w fun e w' => e = .returned (.int .u8 r1) ∧ IsS29 w0 w' g r2 r3 s0_2 r4 r5 ∧ Below w0.heap.size w0 w' ∧ KeepBut w w' g none := by
  have HI0 := Aside0.mk hI
  have HK := Aside0.mk (KeepBut.refl w g none)
  have HL := Aside0.mk hB.size
  clear hI
  have HW0 := Aside0.mk hB.size
  have HB := Aside0.mk hB
  clear hB
  have H : (if a1 ≥ (s0_0.size : Int) then (some (0, s0_0, s0_1, s0_3, s0_4)) else (if 0 ≤ a1 then (if a1 < (s0_0.size : Int) then (some (bt s0_0 a1, s0_0, s0_1, s0_3, s0_4)) else (none)) else (none))) = some (r1, r2, r3, r4, r5) := h
  clear h
  by_cases c3 : a1 ≥ (s0_0.size : Int)
  · rw [if_pos c3] at H
    have c3b0 : decide ((s0_0.size : Int) ≤ a1) = true := decide_eq_true c3
    clear c3
    simp only [Option.some.injEq, Prod.mk.injEq] at H
    obtain ⟨rfl, rfl, rfl, rfl, rfl⟩ := H
    obtain ⟨ASz4_2, cSz4_2, HGz4, hgz4, HSz4_2⟩ := HI0.out
    have hcz4_0 := cellS29_0 HGz4
    have hcz4_1 := cellS29_1 HGz4
    have hcz4_2 := cellS29_2 HGz4
    have hcz4_3 := cellS29_3 HGz4
    have hcz4_4 := cellS29_4 HGz4
    have hfz4_0 := blk_frozen HGz4 0
    have hfz4_1 := blk_frozen HGz4 1
    have hfz4_3 := blk_frozen HGz4 3
    have hfz4_4 := blk_frozen HGz4 4
    clear HGz4 hgz4
    go_enter Tryd.func16, Tryd.ntmps16
    go_wp2
    go_ret
    exact ⟨by first | rfl | (simp [errW_none, errW_some] <;> rfl) | (simp [*, errW_none, errW_some] <;> rfl), by repeat (first | (with_reducible first | exact HI0.out | apply IsS29.alloc | apply IsS29.drewN | apply IsS29.drew | apply IsS29.set_0 | apply IsS29.set_1 | apply IsS29.set_3 | apply IsS29.set_4) | exact HI0.out), by repeat (first | (with_reducible first | exact HB.out | apply below_alloc | apply pw_below_drewN | apply below_drew1 | refine below_set ?_ (IsS29.ge HI0.out)) | exact HB.out), by repeat (first | (with_reducible first | exact HK.out | apply KeepBut.set_ | apply keep_drewN | apply keep_drew | apply keep_alloc) | exact HK.out)⟩
  · rw [if_neg c3] at H
    have c3b0 : decide ((s0_0.size : Int) ≤ a1) = false := decide_eq_false c3
    clear c3
    by_cases c5 : 0 ≤ a1
    · rw [if_pos c5] at H
      have c5b0 : decide (0 ≤ a1) = true := decide_eq_true c5
      clear c5
      by_cases c6 : a1 < (s0_0.size : Int)
      · rw [if_pos c6] at H
        have c6b0 : decide (a1 < (s0_0.size : Int)) = true := decide_eq_true c6
        clear c6
        simp only [Option.some.injEq, Prod.mk.injEq] at H
        obtain ⟨rfl, rfl, rfl, rfl, rfl⟩ := H
        obtain ⟨ASz8_2, cSz8_2, HGz8, hgz8, HSz8_2⟩ := HI0.out
        have hcz8_0 := cellS29_0 HGz8
        have hcz8_1 := cellS29_1 HGz8
        have hcz8_2 := cellS29_2 HGz8
        have hcz8_3 := cellS29_3 HGz8
        have hcz8_4 := cellS29_4 HGz8
        have hfz8_0 := blk_frozen HGz8 0
        have hfz8_1 := blk_frozen HGz8 1
        have hfz8_3 := blk_frozen HGz8 3
        have hfz8_4 := blk_frozen HGz8 4
        clear HGz8 hgz8
        have p7 : 0 ≤ (a1 : Int) := of_decide_eq_true (by first | (with_reducible assumption) | assumption)
        have q7 : a1 < (s0_0.size : Int) := of_decide_eq_true (by first | (with_reducible assumption) | assumption)
        have hx7 := bt_at s0_0 a1
        replace p7 := eq_true p7
        replace q7 := eq_true q7
        go_enter Tryd.func16, Tryd.ntmps16
        go_wp2
        go_ret
        exact ⟨by first | rfl | (simp [errW_none, errW_some] <;> rfl) | (simp [*, errW_none, errW_some] <;> rfl), by repeat (first | (with_reducible first | exact HI0.out | apply IsS29.alloc | apply IsS29.drewN | apply IsS29.drew | apply IsS29.set_0 | apply IsS29.set_1 | apply IsS29.set_3 | apply IsS29.set_4) | exact HI0.out), by repeat (first | (with_reducible first | exact HB.out | apply below_alloc | apply pw_below_drewN | apply below_drew1 | refine below_set ?_ (IsS29.ge HI0.out)) | exact HB.out), by repeat (first | (with_reducible first | exact HK.out | apply KeepBut.set_ | apply keep_drewN | apply keep_drew | apply keep_alloc) | exact HK.out)⟩
      · rw [if_neg c6] at H
        exact absurd H (by simp)
    · rw [if_neg c5] at H
      exact absurd H (by simp)

/-! ### spec_isDigit: function 17 -/
def spec_isDigit.f (a0 : Int) : Option (Bool) := if a0 ≥ 48 then (some (decide (a0 ≤ 57))) else (some false)
set_option maxHeartbeats 8000000 in
set_option maxRecDepth 100000 in
theorem spec_isDigit.calls (a0 : Int) (r : Bool) (w : World) (h : spec_isDigit.f a0 = some r) :
    Calls Tryd.prog 17 #[.int .u8 a0] w fun e w' => e = .returned (.bool r) ∧ Drawn0 w w' := by
  have H : (if a0 ≥ 48 then (some (decide (a0 ≤ 57))) else (some false)) = some r := h
  clear h
  by_cases c2 : a0 ≥ 48
  · rw [if_pos c2] at H
    have c2b0 : decide (48 ≤ a0) = true := decide_eq_true c2
    clear c2
    obtain rfl := Option.some.inj H
    go_enter Tryd.func17, Tryd.ntmps17
    go_wp2
    go_ret
    exact ⟨by first | rfl | (simp; done) | (simp [*]; done), by repeat (first | exact Drawn0.refl _ | apply Drawn0.step)⟩
  · rw [if_neg c2] at H
    have c2b0 : decide (48 ≤ a0) = false := decide_eq_false c2
    clear c2
    obtain rfl := Option.some.inj H
    go_enter Tryd.func17, Tryd.ntmps17
    go_wp2
    go_ret
    exact ⟨by first | rfl | (simp; done) | (simp [*]; done), by repeat (first | exact Drawn0.refl _ | apply Drawn0.step)⟩

/-! ### spec_lexer_fail: function 21 -/
def spec_lexer_fail.f (s0_0 : ByteArray) (s0_1 : Int) (s0_2 : List (S43)) (s0_3 : Bool) (s0_4 : Bool) : Option (ByteArray × Int × Bool × Bool) := some (s0_0, s0_1, true, s0_4)
set_option maxHeartbeats 8000000 in
set_option maxRecDepth 100000 in
theorem spec_lexer_fail.calls (g : Nat) (s0_0 : ByteArray) (s0_1 : Int) (s0_2 : List (S43)) (s0_3 : Bool) (s0_4 : Bool) (r1 : ByteArray) (r2 : Int) (r3 : Bool) (r4 : Bool) (w0 w : World) (hI : IsS29 w0 w g s0_0 s0_1 s0_2 s0_3 s0_4) (hB : Below w0.heap.size w0 w) (h : spec_lexer_fail.f s0_0 s0_1 s0_2 s0_3 s0_4 = some (r1, r2, r3, r4)) :
    Calls Tryd.prog 21 #[.pointer (some ⟨g, 0, none⟩)] w fun e w' => e = .returned (.tuple #[]) ∧ IsS29 w0 w' g r1 r2 s0_2 r3 r4 ∧ Below w0.heap.size w0 w' ∧ KeepBut w w' g none := by
  have HI0 := Aside0.mk hI
  have HK := Aside0.mk (KeepBut.refl w g none)
  have HL := Aside0.mk hB.size
  clear hI
  have HW0 := Aside0.mk hB.size
  have HB := Aside0.mk hB
  clear hB
  have H : (some (s0_0, s0_1, true, s0_4)) = some (r1, r2, r3, r4) := h
  clear h
  simp only [Option.some.injEq, Prod.mk.injEq] at H
  obtain ⟨rfl, rfl, rfl, rfl⟩ := H
  obtain ⟨ASz2_2, cSz2_2, HGz2, hgz2, HSz2_2⟩ := HI0.out
  have hcz2_0 := cellS29_0 HGz2
  have hcz2_1 := cellS29_1 HGz2
  have hcz2_2 := cellS29_2 HGz2
  have hcz2_3 := cellS29_3 HGz2
  have hcz2_4 := cellS29_4 HGz2
  have hfz2_0 := blk_frozen HGz2 0
  have hfz2_1 := blk_frozen HGz2 1
  have hfz2_3 := blk_frozen HGz2 3
  have hfz2_4 := blk_frozen HGz2 4
  clear HGz2 hgz2
  go_enter Tryd.func21, Tryd.ntmps21
  go_wp2
  first | go_end0 | ((try simp only [Exit.inBlock, Exit.then]); refine bodyPost_ret (results_none rfl _ _ _) rfl ?_)
  exact ⟨by first | rfl | (simp [errW_none, errW_some] <;> rfl) | (simp [*, errW_none, errW_some] <;> rfl), by repeat (first | (with_reducible first | exact HI0.out | apply IsS29.alloc | apply IsS29.drewN | apply IsS29.drew | apply IsS29.set_0 | apply IsS29.set_1 | apply IsS29.set_3 | apply IsS29.set_4) | exact HI0.out), by repeat (first | (with_reducible first | exact HB.out | apply below_alloc | apply pw_below_drewN | apply below_drew1 | refine below_set ?_ (IsS29.ge HI0.out)) | exact HB.out), by repeat (first | (with_reducible first | exact HK.out | apply KeepBut.set_ | apply keep_drewN | apply keep_drew | apply keep_alloc) | exact HK.out)⟩

end Go.Proofs.YtmlochnckplalaaDoor.PFnIgnored
