/- FnReadNumber: the Go functions that the law reaches as Lean functions, and that the Go code answers what these answer, for every input and in every world that the statements name. Written by this session's program extprint.py over hand-written contracts of some functions. -/
import Derived.Test.YtmlochnckplalaaGreatDoorPFnReadNumberx0
namespace Go.Proofs.YtmlochnckplalaaGreatDoor.PFnReadNumber
open Go.RowKit Go.Proofs.YtmlochnckplalaaGreatDoorW.PrintWords Go.Proofs.YtmlochnckplalaaGreatDoorW.PrintLast Go.Proofs.YtmlochnckplalaaGreatDoorW.PrintMore
attribute [local go_sem] max2_int min2_int max_two min_two max_three min_three max_four min_four   -- for this text's walks alone
set_option linter.unusedVariables false
set_option linter.unusedSimpArgs false

/-- A state of type 33 at block g of W; what its slices lead to came in by w0. -/
def IsS33 (w0 W : World) (g : Nat) (f0 : ByteArray) (f1 : Int) (f2 : List (S24)) (f3 : Bool) (f4 : Bool) : Prop := ∃ A2 c2, W.heap[g]? = some (.cells #[.string f0, .int .i64 f1, .slice A2 f2.length c2, .bool f3, .bool f4] 33 (0, 0)) ∧ w0.heap.size ≤ g ∧ Kd.C k24 w0 A2 f2.length f2
theorem IsS33.grown {w0 W : World} {g : Nat} {f0 : ByteArray} {f1 : Int} {f2 : List (S24)} {f3 : Bool} {f4 : Bool} {W1 : World} {row : Option Nat} (h : IsS33 w0 W g f0 f1 f2 f3 f4) (hw : W.grownBy W1 row) (hne : some g ≠ row) : IsS33 w0 W1 g f0 f1 f2 f3 f4 := by
  obtain ⟨A2, c2, hb, hg, hr2⟩ := h
  exact ⟨A2, c2, blk_grown hb hw hne, hg, hr2⟩
theorem IsS33.own_neN {w0 W : World} {g : Nat} {f0 : ByteArray} {f1 : Int} {f2 : List (S24)} {f3 : Bool} {f4 : Bool} {α : Type} {d : Kd α} {e : Nat} {base : Nat} {ok : Nat → Prop} {v : Value} {xs : List α} (h : IsS33 w0 W g f0 f1 f2 f3 f4) (ho : Kd.N d e W base ok v xs) (ht : e ≠ 33) : some g ≠ v.ownBlock := by
  obtain ⟨A2, c2, hb, hg, hr2⟩ := h
  exact Kd.N_ne ho hb ht
theorem IsS33.fresh {w0 W : World} {g : Nat} {f0 : ByteArray} {f1 : Int} {f2 : List (S24)} {f3 : Bool} {f4 : Bool} (h : IsS33 w0 W g f0 f1 f2 f3 f4) : ∀ k, W.heap.size ≤ k → k ≠ g := by
  obtain ⟨A2, c2, hb, hg, hr2⟩ := h
  exact Kd.freshB hb
theorem IsS33.kept {w0 W : World} {g : Nat} {f0 : ByteArray} {f1 : Int} {f2 : List (S24)} {f3 : Bool} {f4 : Bool} {W1 : World} {S : Nat → Prop} (h : IsS33 w0 W g f0 f1 f2 f3 f4) (hk : Kept W W1 S) (hne : ¬ S g) : IsS33 w0 W1 g f0 f1 f2 f3 f4 := by
  obtain ⟨A2, c2, hb, hg, hr2⟩ := h
  exact ⟨A2, c2, blk_kept hb hk hne, hg, hr2⟩
theorem IsS33.below {w0 W : World} {g : Nat} {f0 : ByteArray} {f1 : Int} {f2 : List (S24)} {f3 : Bool} {f4 : Bool} {W1 : World} (h : IsS33 w0 W g f0 f1 f2 f3 f4) (hw : Below W.heap.size W W1) : IsS33 w0 W1 g f0 f1 f2 f3 f4 := h.grown (grown_of_below hw none) (by simp)
theorem IsS33.alloc {w0 W : World} {g : Nat} {f0 : ByteArray} {f1 : Int} {f2 : List (S24)} {f3 : Bool} {f4 : Bool} (h : IsS33 w0 W g f0 f1 f2 f3 f4) (o : Obj) : IsS33 w0 (W.alloc o) g f0 f1 f2 f3 f4 := h.below (below_alloc (Below.refl _ _) o)
theorem IsS33.drewN {w0 W : World} {g : Nat} {f0 : ByteArray} {f1 : Int} {f2 : List (S24)} {f3 : Bool} {f4 : Bool} (h : IsS33 w0 W g f0 f1 f2 f3 f4) (m : Nat) : IsS33 w0 (W.drewN m) g f0 f1 f2 f3 f4 := h
theorem IsS33.drew {w0 W : World} {g : Nat} {f0 : ByteArray} {f1 : Int} {f2 : List (S24)} {f3 : Bool} {f4 : Bool} (h : IsS33 w0 W g f0 f1 f2 f3 f4) : IsS33 w0 W.drew g f0 f1 f2 f3 f4 := h
theorem IsS33.at_ {w0 W : World} {g : Nat} {f0 : ByteArray} {f1 : Int} {f2 : List (S24)} {f3 : Bool} {f4 : Bool} {w' : World} {m : Nat} (hq : W.drewN m = w') (h : IsS33 w0 W g f0 f1 f2 f3 f4) : IsS33 w0 w' g f0 f1 f2 f3 f4 := by subst hq; exact IsS33.drewN h m
theorem IsS33.apart {w0 W : World} {g : Nat} {f0 : ByteArray} {f1 : Int} {f2 : List (S24)} {f3 : Bool} {f4 : Bool} {α : Type} {d : Kd α} {e : Nat} {base : Nat} {ok : Nat → Prop} {v : Value} {xs : List α} (h : IsS33 w0 W g f0 f1 f2 f3 f4) (ho : d.R e W base ok v xs) (ht : ∀ q, q ∈ e :: d.E → q ≠ 33) : d.R e W base (fun k => ok k ∧ k ≠ g) v xs := by
  obtain ⟨A2, c2, hb, hg, hr2⟩ := h
  exact Kd.R_types ho hb ht
theorem IsS33.own_ne {w0 W : World} {g : Nat} {f0 : ByteArray} {f1 : Int} {f2 : List (S24)} {f3 : Bool} {f4 : Bool} {α : Type} {d : Kd α} {e : Nat} {base : Nat} {ok : Nat → Prop} {v : Value} {xs : List α} (h : IsS33 w0 W g f0 f1 f2 f3 f4) (ho : d.R e W base ok v xs) (ht : e ≠ 33) : some g ≠ v.ownBlock := by
  obtain ⟨A2, c2, hb, hg, hr2⟩ := h
  exact Kd.R_ne ho hb ht
theorem IsS33.apartQ {w0 W : World} {g : Nat} {f0 : ByteArray} {f1 : Int} {f2 : List (S24)} {f3 : Bool} {f4 : Bool} {α : Type} {d : Kd α} {e : Nat} {base : Nat} {ok : Nat → Prop} {v : Value} {xs : List α} (h : IsS33 w0 W g f0 f1 f2 f3 f4) (ho : d.Q e W base ok v xs) (ht : ∀ q, q ∈ e :: d.E → q ≠ 33) : d.Q e W base (fun k => ok k ∧ k ≠ g) v xs := by
  obtain ⟨A2, c2, hb, hg, hr2⟩ := h
  exact Kd.Q_types ho hb ht
theorem IsS33.own_neQ {w0 W : World} {g : Nat} {f0 : ByteArray} {f1 : Int} {f2 : List (S24)} {f3 : Bool} {f4 : Bool} {α : Type} {d : Kd α} {e : Nat} {base : Nat} {ok : Nat → Prop} {v : Value} {xs : List α} (h : IsS33 w0 W g f0 f1 f2 f3 f4) (ho : d.Q e W base ok v xs) (ht : e ≠ 33) : some g ≠ v.ownBlock := by
  obtain ⟨A2, c2, hb, hg, hr2⟩ := h
  exact Kd.Q_ne ho hb ht
theorem IsS33.apartS {w0 W : World} {g : Nat} {f0 : ByteArray} {f1 : Int} {f2 : List (S24)} {f3 : Bool} {f4 : Bool} {α : Type} {d : Kd α} {e : Nat} {base : Nat} {ok : Nat → Prop} {v : Value} {xs : List α} (h : IsS33 w0 W g f0 f1 f2 f3 f4) (ho : d.S e W base ok v xs) (ht : ∀ q, q ∈ e :: d.E → q ≠ 33) : d.S e W base (fun k => ok k ∧ k ≠ g) v xs := by
  obtain ⟨A2, c2, hb, hg, hr2⟩ := h
  exact Kd.S_types ho hb ht
theorem IsS33.own_neS {w0 W : World} {g : Nat} {f0 : ByteArray} {f1 : Int} {f2 : List (S24)} {f3 : Bool} {f4 : Bool} {α : Type} {d : Kd α} {e : Nat} {base : Nat} {ok : Nat → Prop} {v : Value} {xs : List α} (h : IsS33 w0 W g f0 f1 f2 f3 f4) (ho : d.S e W base ok v xs) (ht : e ≠ 33) : some g ≠ v.ownBlock := by
  obtain ⟨A2, c2, hb, hg, hr2⟩ := h
  exact Kd.S_ne ho hb ht
theorem IsS33.lt {w0 W : World} {g : Nat} {f0 : ByteArray} {f1 : Int} {f2 : List (S24)} {f3 : Bool} {f4 : Bool} (h : IsS33 w0 W g f0 f1 f2 f3 f4) : g < W.heap.size := by
  obtain ⟨A2, c2, hb, hg, hr2⟩ := h
  exact blk_lt hb
theorem IsS33.ge {w0 W : World} {g : Nat} {f0 : ByteArray} {f1 : Int} {f2 : List (S24)} {f3 : Bool} {f4 : Bool} (h : IsS33 w0 W g f0 f1 f2 f3 f4) : w0.heap.size ≤ g := by
  obtain ⟨A2, c2, hb, hg, hr2⟩ := h
  exact hg
theorem IsS33.ne_blk {w0 W : World} {g : Nat} {f0 : ByteArray} {f1 : Int} {f2 : List (S24)} {f3 : Bool} {f4 : Bool} {a : Nat} {cs : Array Value} {t : TypeId} {fr : Nat × Nat} (h : IsS33 w0 W g f0 f1 f2 f3 f4) (hb2 : W.heap[a]? = some (.cells cs t fr)) (ht : t ≠ 33) : g ≠ a := by
  obtain ⟨A2, c2, hb, hg, hr2⟩ := h
  rintro rfl
  rw [hb] at hb2
  injection hb2 with hb2
  injection hb2 with _ ht2
  exact ht ht2.symm
theorem IsS33.far {w0 W : World} {g : Nat} {f0 : ByteArray} {f1 : Int} {f2 : List (S24)} {f3 : Bool} {f4 : Bool} {p : Addr} (h : IsS33 w0 W g f0 f1 f2 f3 f4) (hne : g ≠ p.block) (u : Value) : IsS33 w0 (W.setCell p u) g f0 f1 f2 f3 f4 := by
  obtain ⟨A2, c2, hb, hg, hr2⟩ := h
  exact ⟨A2, c2, blk_far hb hne u, hg, hr2⟩
theorem cellS33_0 {W : World} {g : Nat} {A2 : Option Addr} {c2 : Nat} {f0 : ByteArray} {f1 : Int} {f2 : List (S24)} {f3 : Bool} {f4 : Bool} (h : W.heap[g]? = some (.cells #[.string f0, .int .i64 f1, .slice A2 f2.length c2, .bool f3, .bool f4] 33 (0, 0))) : W.cell? ⟨g, 0, none⟩ = some (.string f0) := (blk_cell h 0).trans rfl
theorem IsS33.set_0 {w0 W : World} {g : Nat} {f0 : ByteArray} {f1 : Int} {f2 : List (S24)} {f3 : Bool} {f4 : Bool} (h : IsS33 w0 W g f0 f1 f2 f3 f4) (x : ByteArray) : IsS33 w0 (W.setCell ⟨g, 0, none⟩ (.string x)) g x f1 f2 f3 f4 := by
  obtain ⟨A2, c2, hb, hg, hr2⟩ := h
  exact ⟨A2, c2, by simpa using blk_set hb 0 (.string x), hg, hr2⟩
theorem cellS33_1 {W : World} {g : Nat} {A2 : Option Addr} {c2 : Nat} {f0 : ByteArray} {f1 : Int} {f2 : List (S24)} {f3 : Bool} {f4 : Bool} (h : W.heap[g]? = some (.cells #[.string f0, .int .i64 f1, .slice A2 f2.length c2, .bool f3, .bool f4] 33 (0, 0))) : W.cell? ⟨g, 1, none⟩ = some (.int .i64 f1) := (blk_cell h 1).trans rfl
theorem IsS33.set_1 {w0 W : World} {g : Nat} {f0 : ByteArray} {f1 : Int} {f2 : List (S24)} {f3 : Bool} {f4 : Bool} (h : IsS33 w0 W g f0 f1 f2 f3 f4) (x : Int) : IsS33 w0 (W.setCell ⟨g, 1, none⟩ (.int .i64 x)) g f0 x f2 f3 f4 := by
  obtain ⟨A2, c2, hb, hg, hr2⟩ := h
  exact ⟨A2, c2, by simpa using blk_set hb 1 (.int .i64 x), hg, hr2⟩
theorem cellS33_2 {W : World} {g : Nat} {A2 : Option Addr} {c2 : Nat} {f0 : ByteArray} {f1 : Int} {f2 : List (S24)} {f3 : Bool} {f4 : Bool} (h : W.heap[g]? = some (.cells #[.string f0, .int .i64 f1, .slice A2 f2.length c2, .bool f3, .bool f4] 33 (0, 0))) : W.cell? ⟨g, 2, none⟩ = some (.slice A2 f2.length c2) := (blk_cell h 2).trans rfl
theorem cellS33_3 {W : World} {g : Nat} {A2 : Option Addr} {c2 : Nat} {f0 : ByteArray} {f1 : Int} {f2 : List (S24)} {f3 : Bool} {f4 : Bool} (h : W.heap[g]? = some (.cells #[.string f0, .int .i64 f1, .slice A2 f2.length c2, .bool f3, .bool f4] 33 (0, 0))) : W.cell? ⟨g, 3, none⟩ = some (.bool f3) := (blk_cell h 3).trans rfl
theorem IsS33.set_3 {w0 W : World} {g : Nat} {f0 : ByteArray} {f1 : Int} {f2 : List (S24)} {f3 : Bool} {f4 : Bool} (h : IsS33 w0 W g f0 f1 f2 f3 f4) (x : Bool) : IsS33 w0 (W.setCell ⟨g, 3, none⟩ (.bool x)) g f0 f1 f2 x f4 := by
  obtain ⟨A2, c2, hb, hg, hr2⟩ := h
  exact ⟨A2, c2, by simpa using blk_set hb 3 (.bool x), hg, hr2⟩
theorem cellS33_4 {W : World} {g : Nat} {A2 : Option Addr} {c2 : Nat} {f0 : ByteArray} {f1 : Int} {f2 : List (S24)} {f3 : Bool} {f4 : Bool} (h : W.heap[g]? = some (.cells #[.string f0, .int .i64 f1, .slice A2 f2.length c2, .bool f3, .bool f4] 33 (0, 0))) : W.cell? ⟨g, 4, none⟩ = some (.bool f4) := (blk_cell h 4).trans rfl
theorem IsS33.set_4 {w0 W : World} {g : Nat} {f0 : ByteArray} {f1 : Int} {f2 : List (S24)} {f3 : Bool} {f4 : Bool} (h : IsS33 w0 W g f0 f1 f2 f3 f4) (x : Bool) : IsS33 w0 (W.setCell ⟨g, 4, none⟩ (.bool x)) g f0 f1 f2 f3 x := by
  obtain ⟨A2, c2, hb, hg, hr2⟩ := h
  exact ⟨A2, c2, by simpa using blk_set hb 4 (.bool x), hg, hr2⟩
theorem IsS33.new (w0 W : World) (A2 : Option Addr) (c2 : Nat) (f0 : ByteArray) (f1 : Int) (f2 : List (S24)) (f3 : Bool) (f4 : Bool) (hB : Below w0.heap.size w0 W) (hr2 : Kd.C k24 w0 A2 f2.length f2) : IsS33 w0 (W.alloc (.cells #[.string f0, .int .i64 f1, .slice A2 f2.length c2, .bool f3, .bool f4] 33)) W.heap.size f0 f1 f2 f3 f4 := ⟨A2, c2, by simpa using heap_alloc_new W _, hB.size, hr2⟩

/-! ### spec_lexer_next: function 13 -/
def spec_lexer_next.f (s0_0 : ByteArray) (s0_1 : Int) (s0_2 : List (S24)) (s0_3 : Bool) (s0_4 : Bool) (a1 : Int) : Option (Int × ByteArray × Int × Bool × Bool) := if a1 ≥ (s0_0.size : Int) then (some (0, s0_0, s0_1, s0_3, s0_4)) else (if 0 ≤ a1 then (if a1 < (s0_0.size : Int) then (some (bt s0_0 a1, s0_0, s0_1, s0_3, s0_4)) else (none)) else (none))
set_option maxHeartbeats 8000000 in
set_option maxRecDepth 100000 in
theorem spec_lexer_next.calls (g : Nat) (s0_0 : ByteArray) (s0_1 : Int) (s0_2 : List (S24)) (s0_3 : Bool) (s0_4 : Bool) (a1 : Int) (r1 : Int) (r2 : ByteArray) (r3 : Int) (r4 : Bool) (r5 : Bool) (w0 w : World) (hI : IsS33 w0 w g s0_0 s0_1 s0_2 s0_3 s0_4) (hB : Below w0.heap.size w0 w) (h : spec_lexer_next.f s0_0 s0_1 s0_2 s0_3 s0_4 a1 = some (r1, r2, r3, r4, r5)) :
    Calls Tryz.prog 13 #[.pointer (some ⟨g, 0, none⟩), .int .i64 a1] w fun e w' => e = .returned (.int .u8 r1) ∧ IsS33 w0 w' g r2 r3 s0_2 r4 r5 ∧ Below w0.heap.size w0 w' ∧ KeepBut w w' g none := by
  have HI0 := Aside0.mk hI
  have HK := Aside0.mk (KeepBut.refl w g none)
  have HL := Aside0.mk hB.size
  clear hI
  have HW0 := Aside0.mk hB.size
  have HB := Aside0.mk hB
  clear hB
  have H : (if a1 ≥ (s0_0.size : Int) then (some (0, s0_0, s0_1, s0_3, s0_4)) else (if 0 ≤ a1 then (if a1 < (s0_0.size : Int) then (some (bt s0_0 a1, s0_0, s0_1, s0_3, s0_4)) else (none)) else (none))) = some (r1, r2, r3, r4, r5) := h
  clear h
  by_cases c3 : a1 ≥ (s0_0.size : Int)
  · rw [if_pos c3] at H
    have c3b0 : decide ((s0_0.size : Int) ≤ a1) = true := decide_eq_true c3
    clear c3
    simp only [Option.some.injEq, Prod.mk.injEq] at H
    obtain ⟨rfl, rfl, rfl, rfl, rfl⟩ := H
    obtain ⟨ASz4_2, cSz4_2, HGz4, hgz4, HSz4_2⟩ := HI0.out
    have hcz4_0 := cellS33_0 HGz4
    have hcz4_1 := cellS33_1 HGz4
    have hcz4_2 := cellS33_2 HGz4
    have hcz4_3 := cellS33_3 HGz4
    have hcz4_4 := cellS33_4 HGz4
    have hfz4_0 := blk_frozen HGz4 0
    have hfz4_1 := blk_frozen HGz4 1
    have hfz4_3 := blk_frozen HGz4 3
    have hfz4_4 := blk_frozen HGz4 4
    clear HGz4 hgz4
    go_enter Tryz.func13, Tryz.ntmps13
    go_wp2
    go_ret
    exact ⟨by first | rfl | (simp [errW_none, errW_some] <;> rfl) | (simp [*, errW_none, errW_some] <;> rfl), by repeat (first | (with_reducible first | exact HI0.out | apply IsS33.alloc | apply IsS33.drewN | apply IsS33.drew | apply IsS33.set_0 | apply IsS33.set_1 | apply IsS33.set_3 | apply IsS33.set_4) | exact HI0.out), by repeat (first | (with_reducible first | exact HB.out | apply below_alloc | apply pw_below_drewN | apply below_drew1 | refine below_set ?_ (IsS33.ge HI0.out)) | exact HB.out), by repeat (first | (with_reducible first | exact HK.out | apply KeepBut.set_ | apply keep_drewN | apply keep_drew | apply keep_alloc) | exact HK.out)⟩
  · rw [if_neg c3] at H
    have c3b0 : decide ((s0_0.size : Int) ≤ a1) = false := decide_eq_false c3
    clear c3
    by_cases c5 : 0 ≤ a1
    · rw [if_pos c5] at H
      have c5b0 : decide (0 ≤ a1) = true := decide_eq_true c5
      clear c5
      by_cases c6 : a1 < (s0_0.size : Int)
      · rw [if_pos c6] at H
        have c6b0 : decide (a1 < (s0_0.size : Int)) = true := decide_eq_true c6
        clear c6
        simp only [Option.some.injEq, Prod.mk.injEq] at H
        obtain ⟨rfl, rfl, rfl, rfl, rfl⟩ := H
        obtain ⟨ASz8_2, cSz8_2, HGz8, hgz8, HSz8_2⟩ := HI0.out
        have hcz8_0 := cellS33_0 HGz8
        have hcz8_1 := cellS33_1 HGz8
        have hcz8_2 := cellS33_2 HGz8
        have hcz8_3 := cellS33_3 HGz8
        have hcz8_4 := cellS33_4 HGz8
        have hfz8_0 := blk_frozen HGz8 0
        have hfz8_1 := blk_frozen HGz8 1
        have hfz8_3 := blk_frozen HGz8 3
        have hfz8_4 := blk_frozen HGz8 4
        clear HGz8 hgz8
        have p7 : 0 ≤ (a1 : Int) := of_decide_eq_true (by first | (with_reducible assumption) | assumption)
        have q7 : a1 < (s0_0.size : Int) := of_decide_eq_true (by first | (with_reducible assumption) | assumption)
        have hx7 := bt_at s0_0 a1
        replace p7 := eq_true p7
        replace q7 := eq_true q7
        go_enter Tryz.func13, Tryz.ntmps13
        go_wp2
        go_ret
        exact ⟨by first | rfl | (simp [errW_none, errW_some] <;> rfl) | (simp [*, errW_none, errW_some] <;> rfl), by repeat (first | (with_reducible first | exact HI0.out | apply IsS33.alloc | apply IsS33.drewN | apply IsS33.drew | apply IsS33.set_0 | apply IsS33.set_1 | apply IsS33.set_3 | apply IsS33.set_4) | exact HI0.out), by repeat (first | (with_reducible first | exact HB.out | apply below_alloc | apply pw_below_drewN | apply below_drew1 | refine below_set ?_ (IsS33.ge HI0.out)) | exact HB.out), by repeat (first | (with_reducible first | exact HK.out | apply KeepBut.set_ | apply keep_drewN | apply keep_drew | apply keep_alloc) | exact HK.out)⟩
      · rw [if_neg c6] at H
        exact absurd H (by simp)
    · rw [if_neg c5] at H
      exact absurd H (by simp)

/-! ### spec_isDigit: function 17 -/
def spec_isDigit.f (a0 : Int) : Option (Bool) := if a0 ≥ 48 then (some (decide (a0 ≤ 57))) else (some false)
set_option maxHeartbeats 8000000 in
set_option maxRecDepth 100000 in
theorem spec_isDigit.calls (a0 : Int) (r : Bool) (w : World) (h : spec_isDigit.f a0 = some r) :
    Calls Tryz.prog 17 #[.int .u8 a0] w fun e w' => e = .returned (.bool r) ∧ Drawn0 w w' := by
  have H : (if a0 ≥ 48 then (some (decide (a0 ≤ 57))) else (some false)) = some r := h
  clear h
  by_cases c2 : a0 ≥ 48
  · rw [if_pos c2] at H
    have c2b0 : decide (48 ≤ a0) = true := decide_eq_true c2
    clear c2
    obtain rfl := Option.some.inj H
    go_enter Tryz.func17, Tryz.ntmps17
    go_wp2
    go_ret
    exact ⟨by first | rfl | (simp; done) | (simp [*]; done), by repeat (first | exact Drawn0.refl _ | apply Drawn0.step)⟩
  · rw [if_neg c2] at H
    have c2b0 : decide (48 ≤ a0) = false := decide_eq_false c2
    clear c2
    obtain rfl := Option.some.inj H
    go_enter Tryz.func17, Tryz.ntmps17
    go_wp2
    go_ret
    exact ⟨by first | rfl | (simp; done) | (simp [*]; done), by repeat (first | exact Drawn0.refl _ | apply Drawn0.step)⟩

/-! ### spec_lexer_digits: function 14 -/
def spec_lexer_digits.l0 : Nat → Int → ByteArray → Int → List (S24) → Bool → Bool → Option (Int × ByteArray × Int × Bool × Bool)
  | 0, _, _, _, _, _, _ => none
  | k + 1, x1, x1000, x1001, x1002, x1003, x1004 => (spec_lexer_next.f x1000 x1001 x1002 x1003 x1004 x1).bind fun bt104 => ((spec_isDigit.f bt104.1).bind fun t109 => (if t109 = true then (spec_lexer_digits.l0 k (wrap64 (x1 + 1)) bt104.2.1 bt104.2.2.1 x1002 bt104.2.2.2.1 bt104.2.2.2.2) else (some (x1, bt104.2.1, bt104.2.2.1, bt104.2.2.2.1, bt104.2.2.2.2))))
def spec_lexer_digits.f (k : Nat) (s0_0 : ByteArray) (s0_1 : Int) (s0_2 : List (S24)) (s0_3 : Bool) (s0_4 : Bool) (a1 : Int) : Option (Int × ByteArray × Int × Bool × Bool) := spec_lexer_digits.l0 k a1 s0_0 s0_1 s0_2 s0_3 s0_4
theorem spec_lexer_digits.mono_l : ∀ k, (∀ y0 y1 y2 y3 y4 y5, LeO (spec_lexer_digits.l0 k y0 y1 y2 y3 y4 y5) (spec_lexer_digits.l0 (k + 1) y0 y1 y2 y3 y4 y5))
  | 0 => fun _ _ _ _ _ _ r h => by simp [spec_lexer_digits.l0] at h
  | k + 1 => by
    have ih0 := spec_lexer_digits.mono_l k
    · intro y0 y1 y2 y3 y4 y5
      unfold spec_lexer_digits.l0
      repeat' first
      | (with_reducible exact ih0 _ _ _ _ _ _)
      | (with_reducible exact LeO.refl _)
      | (with_reducible exact LeO.none _)
      | (with_reducible refine LeO.ite ?_ ?_)
      | (with_reducible refine LeO.bind ?_ (fun _ => ?_))
      | exact ih0 _ _ _ _ _ _
      | exact LeO.none _
      | refine LeO.ite ?_ ?_
      | refine LeO.bind ?_ (fun _ => ?_)
theorem spec_lexer_digits.mono : ∀ a0 a1 a2 a3 a4 a5 k, LeO (spec_lexer_digits.f k a0 a1 a2 a3 a4 a5) (spec_lexer_digits.f (k + 1) a0 a1 a2 a3 a4 a5) := by
  intro a0 a1 a2 a3 a4 a5 k
  have ih0 := spec_lexer_digits.mono_l k
  unfold spec_lexer_digits.f
  repeat' first
      | (with_reducible exact ih0 _ _ _ _ _ _)
      | (with_reducible exact LeO.refl _)
      | (with_reducible exact LeO.none _)
      | (with_reducible refine LeO.ite ?_ ?_)
      | (with_reducible refine LeO.bind ?_ (fun _ => ?_))
      | exact ih0 _ _ _ _ _ _
      | exact LeO.none _
      | refine LeO.ite ?_ ?_
      | refine LeO.bind ?_ (fun _ => ?_)
set_option maxHeartbeats 8000000 in
set_option maxRecDepth 100000 in
theorem spec_lexer_digits.calls (k : Nat) (g : Nat) (s0_0 : ByteArray) (s0_1 : Int) (s0_2 : List (S24)) (s0_3 : Bool) (s0_4 : Bool) (a1 : Int) (r1 : Int) (r2 : ByteArray) (r3 : Int) (r4 : Bool) (r5 : Bool) (w0 w : World) (hI : IsS33 w0 w g s0_0 s0_1 s0_2 s0_3 s0_4) (hB : Below w0.heap.size w0 w) (h : spec_lexer_digits.f k s0_0 s0_1 s0_2 s0_3 s0_4 a1 = some (r1, r2, r3, r4, r5)) :
    Calls Tryz.prog 14 #[.pointer (some ⟨g, 0, none⟩), .int .i64 a1] w fun e w' => e = .returned (.int .i64 r1) ∧ IsS33 w0 w' g r2 r3 s0_2 r4 r5 ∧ Below w0.heap.size w0 w' ∧ KeepBut w w' g none := by
  have HI0 := Aside0.mk hI
  have HK := Aside0.mk (KeepBut.refl w g none)
  have HL := Aside0.mk hB.size
  clear hI
  have HW0 := Aside0.mk hB.size
  have HB := Aside0.mk hB
  clear hB
  have H : (spec_lexer_digits.l0 k a1 s0_0 s0_1 s0_2 s0_3 s0_4) = some (r1, r2, r3, r4, r5) := h
  clear h
  have H' := Aside0.mk H
  clear H
  go_enter Tryz.func14, Tryz.ntmps14
  go_wp2
  go_loopg [1] k (fun kq v1 w' => ∃ (x1_1 : Int) (x1000_1 : ByteArray) (x1001_1 : Int) (x1003_1 : Bool) (x1004_1 : Bool), v1 = .int .i64 x1_1 ∧ Aside0 (spec_lexer_digits.l0 kq x1_1 x1000_1 x1001_1 s0_2 x1003_1 x1004_1 = some (r1, r2, r3, r4, r5)) ∧ Aside0 (kq ≤ k) ∧ Aside0 (IsS33 w0 w' g x1000_1 x1001_1 s0_2 x1003_1 x1004_1) ∧ Aside0 (KeepBut w w' g none) ∧ Aside0 (Below w0.heap.size w0 w'))
  case atStart => exact ⟨(a1), (s0_0), (s0_1), (s0_3), (s0_4), (by first | rfl | (simp; done) | (simp [*]; done)), H', ⟨Nat.le_refl _⟩, ⟨by repeat (first | (with_reducible first | exact HI0.out | apply IsS33.alloc | apply IsS33.drewN | apply IsS33.drew | apply IsS33.set_0 | apply IsS33.set_1 | apply IsS33.set_3 | apply IsS33.set_4) | exact HI0.out)⟩, ⟨by repeat (first | (with_reducible first | exact HK.out | apply KeepBut.set_ | apply keep_drewN | apply keep_drew | apply keep_alloc) | exact HK.out)⟩, ⟨by repeat (first | (with_reducible first | exact HB.out | apply below_alloc | apply pw_below_drewN | apply below_drew1 | refine below_set ?_ (IsS33.ge HI0.out)) | exact HB.out)⟩⟩
  case round =>
    clear H'
    try clear c1
    try clear p2
    obtain ⟨x1_1, x1000_1, x1001_1, x1003_1, x1004_1, rfl, HA, HK1, HI0, HK, HB⟩ := hrel
    cases gk with
    | zero => exact absurd HA.out (by simp [spec_lexer_digits.l0])
    | succ k1 =>
      have H := HA.out
      clear HA
      simp only [spec_lexer_digits.l0] at H
      replace H := Option.bind_eq_some_iff.mp H
      obtain ⟨⟨t104, t105, t106, t107, t108⟩, A30, H⟩ := H
      replace H : ((spec_isDigit.f t104).bind fun t109 => (if t109 = true then (spec_lexer_digits.l0 k1 (wrap64 (x1_1 + 1)) t105 t106 s0_2 t107 t108) else (some (x1_1, t105, t106, t107, t108)))) = some (r1, r2, r3, r4, r5) := H
      have A3 := Aside0.mk A30
      clear A30
      replace H := Option.bind_eq_some_iff.mp H
      obtain ⟨t109, A40, H⟩ := H
      replace H : (if t109 = true then (spec_lexer_digits.l0 k1 (wrap64 (x1_1 + 1)) t105 t106 s0_2 t107 t108) else (some (x1_1, t105, t106, t107, t108))) = some (r1, r2, r3, r4, r5) := H
      have A4 := Aside0.mk A40
      clear A40
      by_cases c5 : t109 = true
      · subst c5
        have H1 : (spec_lexer_digits.l0 k1 (wrap64 (x1_1 + 1)) t105 t106 s0_2 t107 t108) = some (r1, r2, r3, r4, r5) := by rw [if_pos rfl] at H; exact H
        clear H
        have H := H1
        clear H1
        have H' := Aside0.mk H
        clear H
        go_wp2_with (first | ((with_reducible refine gate_callee (f := 13) rfl ?_); refine goesL_ (some 7) rfl rfl Tryz.func13 (by kernel_rfl) rfl #[.pointer (some ⟨g, 0, none⟩), .int .i64 x1_1] rfl (by (try simp only [List.map_toArray, List.map_cons, List.map_nil]); first | done | rfl | (simp only [List.length_drop, List.length_take]; rfl)) ?_; (with_reducible refine (spec_lexer_next.calls g x1000_1 x1001_1 s0_2 x1003_1 x1004_1 x1_1 t104 t105 t106 t107 t108 w0 _ ?side1 ?side2 A3.out).mono ?_); (case side1 => repeat (first | (with_reducible first | exact HI0.out | apply IsS33.alloc | apply IsS33.drewN | apply IsS33.drew | apply IsS33.set_0 | apply IsS33.set_1 | apply IsS33.set_3 | apply IsS33.set_4) | exact HI0.out)); (case side2 => repeat (first | (with_reducible first | exact HB.out | apply below_alloc | apply pw_below_drewN | apply below_drew1 | refine below_set ?_ (IsS33.ge HI0.out)) | exact HB.out)); rintro e w6 ⟨rfl, hi, hb, hk⟩; refine ⟨_, rfl, ?_⟩; have n0_ := Aside0.mk (KeepBut.trans (by repeat (first | (with_reducible first | exact HK.out | apply KeepBut.set_ | apply keep_drewN | apply keep_drew | apply keep_alloc) | exact HK.out)) hk (.inl rfl)); have n1_ := Aside0.mk (hb); have n2_ := Aside0.mk (hi); clear HK; clear HB; clear HI0; have HK := n0_; have HB := n1_; have HI0 := n2_; clear n0_ n1_ n2_; (try clear hb); (try clear hb2); (try clear hk); (try clear hi)) | ((with_reducible refine gate_callee (f := 17) rfl ?_); refine goesL_ (some 8) rfl rfl Tryz.func17 (by kernel_rfl) rfl #[.int .u8 t104] rfl (by (try simp only [List.map_toArray, List.map_cons, List.map_nil]); first | done | rfl | (simp only [List.length_drop, List.length_take]; rfl)) ?_; (with_reducible refine (spec_isDigit.calls t104 true _ A4.out).mono ?_); rintro e w' ⟨rfl, ⟨nd, rfl⟩⟩; refine ⟨_, rfl, ?_⟩))
        go_roundg k1
        case measure => have := HK1.out; omega
        case rel => exact ⟨(wrap64 (x1_1 + 1)), (t105), (t106), (t107), (t108), (by first | rfl | (simp; done) | (simp [*]; done)), H', ⟨by have := HK1.out; omega⟩, ⟨by repeat (first | (with_reducible first | exact HI0.out | apply IsS33.alloc | apply IsS33.drewN | apply IsS33.drew | apply IsS33.set_0 | apply IsS33.set_1 | apply IsS33.set_3 | apply IsS33.set_4) | exact HI0.out)⟩, ⟨by repeat (first | (with_reducible first | exact HK.out | apply KeepBut.set_ | apply keep_drewN | apply keep_drew | apply keep_alloc) | exact HK.out)⟩, ⟨by repeat (first | (with_reducible first | exact HB.out | apply below_alloc | apply pw_below_drewN | apply below_drew1 | refine below_set ?_ (IsS33.ge HI0.out)) | exact HB.out)⟩⟩
      · replace c5 := Bool.eq_false_iff.mpr c5
        subst c5
        have H1 : (some (x1_1, t105, t106, t107, t108)) = some (r1, r2, r3, r4, r5) := by rw [if_neg (show ¬ (false = true) by decide)] at H; exact H
        clear H
        have H := H1
        clear H1
        simp only [Option.some.injEq, Prod.mk.injEq] at H
        obtain ⟨rfl, rfl, rfl, rfl, rfl⟩ := H
        go_wp2_with (first | ((with_reducible refine gate_callee (f := 13) rfl ?_); refine goesL_ (some 7) rfl rfl Tryz.func13 (by kernel_rfl) rfl #[.pointer (some ⟨g, 0, none⟩), .int .i64 x1_1] rfl (by (try simp only [List.map_toArray, List.map_cons, List.map_nil]); first | done | rfl | (simp only [List.length_drop, List.length_take]; rfl)) ?_; (with_reducible refine (spec_lexer_next.calls g x1000_1 x1001_1 s0_2 x1003_1 x1004_1 x1_1 t104 t105 t106 t107 t108 w0 _ ?side1 ?side2 A3.out).mono ?_); (case side1 => repeat (first | (with_reducible first | exact HI0.out | apply IsS33.alloc | apply IsS33.drewN | apply IsS33.drew | apply IsS33.set_0 | apply IsS33.set_1 | apply IsS33.set_3 | apply IsS33.set_4) | exact HI0.out)); (case side2 => repeat (first | (with_reducible first | exact HB.out | apply below_alloc | apply pw_below_drewN | apply below_drew1 | refine below_set ?_ (IsS33.ge HI0.out)) | exact HB.out)); rintro e w7 ⟨rfl, hi, hb, hk⟩; refine ⟨_, rfl, ?_⟩; have n0_ := Aside0.mk (KeepBut.trans (by repeat (first | (with_reducible first | exact HK.out | apply KeepBut.set_ | apply keep_drewN | apply keep_drew | apply keep_alloc) | exact HK.out)) hk (.inl rfl)); have n1_ := Aside0.mk (hb); have n2_ := Aside0.mk (hi); clear HK; clear HB; clear HI0; have HK := n0_; have HB := n1_; have HI0 := n2_; clear n0_ n1_ n2_; (try clear hb); (try clear hb2); (try clear hk); (try clear hi)) | ((with_reducible refine gate_callee (f := 17) rfl ?_); refine goesL_ (some 8) rfl rfl Tryz.func17 (by kernel_rfl) rfl #[.int .u8 t104] rfl (by (try simp only [List.map_toArray, List.map_cons, List.map_nil]); first | done | rfl | (simp only [List.length_drop, List.length_take]; rfl)) ?_; (with_reducible refine (spec_isDigit.calls t104 false _ A4.out).mono ?_); rintro e w' ⟨rfl, ⟨nd, rfl⟩⟩; refine ⟨_, rfl, ?_⟩))
        go_ret
        exact ⟨by first | rfl | (simp [errW_none, errW_some] <;> rfl) | (simp [*, errW_none, errW_some] <;> rfl), by repeat (first | (with_reducible first | exact HI0.out | apply IsS33.alloc | apply IsS33.drewN | apply IsS33.drew | apply IsS33.set_0 | apply IsS33.set_1 | apply IsS33.set_3 | apply IsS33.set_4) | exact HI0.out), by repeat (first | (with_reducible first | exact HB.out | apply below_alloc | apply pw_below_drewN | apply below_drew1 | refine below_set ?_ (IsS33.ge HI0.out)) | exact HB.out), by repeat (first | (with_reducible first | exact HK.out | apply KeepBut.set_ | apply keep_drewN | apply keep_drew | apply keep_alloc) | exact HK.out)⟩

end Go.Proofs.YtmlochnckplalaaGreatDoor.PFnReadNumber
