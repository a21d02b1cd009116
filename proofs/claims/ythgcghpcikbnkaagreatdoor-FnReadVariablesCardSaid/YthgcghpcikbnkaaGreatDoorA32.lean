/- A part of the proof of the theorem of this claim: Sam, Tkt, Tkv, Tky. No condition of its own. -/
import Derived.Test.YthgcghpcikbnkaaGreatDoorA5
import Derived.Test.YthgcghpcikbnkaaGreatDoorA4
import Derived.Test.YthgcghpcikbnkaaGreatDoorA29
import Derived.Test.YthgcghpcikbnkaaGreatDoorA0
set_option maxHeartbeats 16000000
set_option maxRecDepth 100000
namespace Go.Proofs.YthgcghpcikbnkaaGreatDoor.R
open Go.RowKit Go.Proofs.YthgcghpcikbnkaaGreatDoorW.PrintWords Go.Proofs.YthgcghpcikbnkaaGreatDoorW.PrintLast Go.Proofs.YthgcghpcikbnkaaGreatDoorW.PrintMore
set_option linter.unusedVariables false
set_option linter.unusedSimpArgs false
theorem flat_at (l : List Row) (i : Nat) (h : i < l.length) (j : Nat) (hj : j < 6) : (flat l)[i * 6 + j]? = (rv l[i])[j]? := by
 induction l generalizing i with
 | nil => cases h
 | cons x r ih =>
   cases i with
   | zero =>
     show (rv x ++ flat r)[0 * 6 + j]? = _
     rw [List.getElem?_append_left (by simp [rv]; omega)]
     rw [Nat.zero_mul, Nat.zero_add]; rfl
   | succ i =>
     show (rv x ++ flat r)[(i + 1) * 6 + j]? = _
     rw [List.getElem?_append_right (by simp [rv]; omega), show (i + 1) * 6 + j - (rv x).length = i * 6 + j from by simp [rv]; omega]
     exact ih i (by simpa using h)
def RwC (w : World) (g o : Nat) (x : Row) : Prop := w.cell? ⟨g, o, none⟩ = some (.int .i64 x.1) ∧ w.cell? ⟨g, o + 1, none⟩ = some (.string x.2.1) ∧ w.cell? ⟨g, o + 2, none⟩ = some (.string x.2.2.1) ∧ w.cell? ⟨g, o + 3, none⟩ = some (.string x.2.2.2.1) ∧ w.cell? ⟨g, o + 4, none⟩ = some (.int .i64 x.2.2.2.2.1) ∧ w.cell? ⟨g, o + 5, none⟩ = some (.int .i64 x.2.2.2.2.2)
theorem RwC.below {w w' : World} {g o : Nat} {x : Row} (h : RwC w g o x) (hb : Below w.heap.size w w') : RwC w' g o x := by
 have k : ∀ a v, w.cell? a = some v → w'.cell? a = some v := fun a v e => (hb.cell (World.block_lt_of_cell? w _ e)).trans e
 exact ⟨k _ _ h.1, k _ _ h.2.1, k _ _ h.2.2.1, k _ _ h.2.2.2.1, k _ _ h.2.2.2.2.1, k _ _ h.2.2.2.2.2⟩
theorem rw_at {w : World} {b n c : Nat} {A : Option Addr} {rows : List Row} (ho : w.ownsRow b 55 6 (.slice A n c) n (flat rows)) (hn : n = rows.length) (i : Nat) (h : i < rows.length) : ∃ g : Nat, A = some ⟨g, 0, none⟩ ∧ RwC w g (i * 6) rows[i] := by
 rcases ho.2 with ⟨_, e⟩ | ⟨g, cap, cur, e, _, hg, _⟩
 ·omega
 ·injection e with e1 e2 e3
  refine ⟨g, e1, ?_⟩
  have key : ∀ j, j < 6 → ∀ u, (rv rows[i])[j]? = some u → w.cell? ⟨g, i * 6 + j, none⟩ = some u := fun j hj u hu => by
   have h5 := World.ownsRow.cells ho (g := g) (by rw [e1]; rfl) (i * 6 + j) u (by rw [flat_at _ _ h _ hj]; exact hu)
   rw [show (⟨g, 0, none⟩ : Addr).add (i * 6 + j) = ⟨g, i * 6 + j, none⟩ from by unfold Addr.add; split <;> simp_all] at h5
   exact h5
  exact ⟨key 0 (by decide) _ rfl, key 1 (by decide) _ rfl, key 2 (by decide) _ rfl, key 3 (by decide) _ rfl, key 4 (by decide) _ rfl, key 5 (by decide) _ rfl⟩
theorem same_walk {w : World} {rows : List Row} {b1 b2 n ca cb : Nat} {A B : Option Addr} (hn : n = rows.length) (ha : w.ownsRow b1 55 6 (.slice A n ca) n (flat (ers rows))) (hb : w.ownsRow b2 55 6 (.slice B n cb) n (flat rows)) (hl : rows.length ≤ 900000) :
 Calls Tryz.prog 10 #[.slice A n ca, .slice B n cb] w fun e w' => e = .returned (.bool true) ∧ Below w.heap.size w w' := by
 have HA := mkA ha
 have HB := mkA hb
 have HN := mkA hn
 have HL := mkA hl
 clear ha hb hn hl
 go_enter Tryz.func10, Tryz.ntmps10
 go_wp2
 go_loopw [5] (fun v5 wr => ∃ (j : Nat), v5 = .int .i64 j ∧ Aside0 (j ≤ n) ∧ Aside0 (Below w.heap.size w wr)) (fun v5 _ => n - (intOf v5).toNat)
 case atStart => exact ⟨0, rfl, ⟨Nat.zero_le _⟩, ⟨Below.refl _ _⟩⟩
 case round =>
  obtain ⟨j, rfl, HJ, HBr⟩ := hrel
  by_cases hj : j < n
  case neg =>
   have q1 : ((j : Int) < (n : Int)) = False := eq_false (by omega)
   have q2 : (j < n) = False := eq_false hj
   clear hj
   go_wp2
   go_ret
   exact ⟨rfl, HBr.out⟩
  case pos =>
   have q1 : ((j : Int) < (n : Int)) = True := eq_true (by omega)
   have q2 : (j < n) = True := eq_true hj
   have hjr : j < rows.length := by rw [← HN.out]; exact hj
   obtain ⟨ga, hA, ra⟩ := rw_at HA.out (by rw [HN.out]; simp [ers]) j (by simpa [ers] using hjr)
   obtain ⟨gb, hB, rb⟩ := rw_at HB.out HN.out j hjr
   subst hA
   subst hB
   have he : (ers rows)[j]'(by simpa [ers] using hjr) = er (rows[j]) := by simp [ers]
   rw [he] at ra
   have HAj := mkA (ra.below HBr.out)
   have HBj := mkA (rb.below HBr.out)
   generalize rows[j] = rw_ at HAj HBj
   obtain ⟨k, nm, al, tx, fb, sz⟩ := rw_
   obtain ⟨fa, hfa⟩ : ∃ fa, fa = (if k = 15 then fb else 0) := ⟨_, rfl⟩
   have HFA := mkA hfa
   have HAj : Aside0 (RwC wr ga (j * 6) (k, nm, al, tx, fa, sz)) := ⟨by rw [hfa]; exact HAj.out⟩
   have W1 : wrap64 ((j : Int) + 1) = ((j + 1 : Nat) : Int) := by have := HL.out; exact (w64 (by omega) (by omega)).trans (by omega)
   obtain ⟨j1, hj1⟩ : ∃ j1 : Nat, j1 = j + 1 := ⟨_, rfl⟩
   rw [← hj1] at W1
   have HJ1 := mkA (show j1 = j + 1 ∧ j1 ≤ n by omega)
   clear hj hjr ra rb he hfa hj1
   have ga0 : wr.cell? ⟨ga, j * 6, none⟩ = some (.int .i64 k) := HAj.out.1
   have ga0' : ∀ o, (wr.alloc o).cell? ⟨ga, j * 6, none⟩ = some (.int .i64 k) := fun o => ((below_alloc (Below.refl wr.heap.size wr) o).cell (World.block_lt_of_cell? wr _ ga0)).trans ga0
   have ga0'' : ∀ o o', ((wr.alloc o).alloc o').cell? ⟨ga, j * 6, none⟩ = some (.int .i64 k) := fun o o' => ((below_alloc (below_alloc (Below.refl wr.heap.size wr) o) o').cell (World.block_lt_of_cell? wr _ ga0)).trans ga0
   have ga1 : wr.cell? ⟨ga, j * 6 + 1, none⟩ = some (.string nm) := HAj.out.2.1
   have ga1' : ∀ o, (wr.alloc o).cell? ⟨ga, j * 6 + 1, none⟩ = some (.string nm) := fun o => ((below_alloc (Below.refl wr.heap.size wr) o).cell (World.block_lt_of_cell? wr _ ga1)).trans ga1
   have ga1'' : ∀ o o', ((wr.alloc o).alloc o').cell? ⟨ga, j * 6 + 1, none⟩ = some (.string nm) := fun o o' => ((below_alloc (below_alloc (Below.refl wr.heap.size wr) o) o').cell (World.block_lt_of_cell? wr _ ga1)).trans ga1
   have ga2 : wr.cell? ⟨ga, j * 6 + 2, none⟩ = some (.string al) := HAj.out.2.2.1
   have ga2' : ∀ o, (wr.alloc o).cell? ⟨ga, j * 6 + 2, none⟩ = some (.string al) := fun o => ((below_alloc (Below.refl wr.heap.size wr) o).cell (World.block_lt_of_cell? wr _ ga2)).trans ga2
   have ga2'' : ∀ o o', ((wr.alloc o).alloc o').cell? ⟨ga, j * 6 + 2, none⟩ = some (.string al) := fun o o' => ((below_alloc (below_alloc (Below.refl wr.heap.size wr) o) o').cell (World.block_lt_of_cell? wr _ ga2)).trans ga2
   have ga3 : wr.cell? ⟨ga, j * 6 + 3, none⟩ = some (.string tx) := HAj.out.2.2.2.1
   have ga3' : ∀ o, (wr.alloc o).cell? ⟨ga, j * 6 + 3, none⟩ = some (.string tx) := fun o => ((below_alloc (Below.refl wr.heap.size wr) o).cell (World.block_lt_of_cell? wr _ ga3)).trans ga3
   have ga3'' : ∀ o o', ((wr.alloc o).alloc o').cell? ⟨ga, j * 6 + 3, none⟩ = some (.string tx) := fun o o' => ((below_alloc (below_alloc (Below.refl wr.heap.size wr) o) o').cell (World.block_lt_of_cell? wr _ ga3)).trans ga3
   have ga4 : wr.cell? ⟨ga, j * 6 + 4, none⟩ = some (.int .i64 fa) := HAj.out.2.2.2.2.1
   have ga4' : ∀ o, (wr.alloc o).cell? ⟨ga, j * 6 + 4, none⟩ = some (.int .i64 fa) := fun o => ((below_alloc (Below.refl wr.heap.size wr) o).cell (World.block_lt_of_cell? wr _ ga4)).trans ga4
   have ga4'' : ∀ o o', ((wr.alloc o).alloc o').cell? ⟨ga, j * 6 + 4, none⟩ = some (.int .i64 fa) := fun o o' => ((below_alloc (below_alloc (Below.refl wr.heap.size wr) o) o').cell (World.block_lt_of_cell? wr _ ga4)).trans ga4
   have ga5 : wr.cell? ⟨ga, j * 6 + 5, none⟩ = some (.int .i64 sz) := HAj.out.2.2.2.2.2
   have ga5' : ∀ o, (wr.alloc o).cell? ⟨ga, j * 6 + 5, none⟩ = some (.int .i64 sz) := fun o => ((below_alloc (Below.refl wr.heap.size wr) o).cell (World.block_lt_of_cell? wr _ ga5)).trans ga5
   have ga5'' : ∀ o o', ((wr.alloc o).alloc o').cell? ⟨ga, j * 6 + 5, none⟩ = some (.int .i64 sz) := fun o o' => ((below_alloc (below_alloc (Below.refl wr.heap.size wr) o) o').cell (World.block_lt_of_cell? wr _ ga5)).trans ga5
   have gb0 : wr.cell? ⟨gb, j * 6, none⟩ = some (.int .i64 k) := HBj.out.1
   have gb0' : ∀ o, (wr.alloc o).cell? ⟨gb, j * 6, none⟩ = some (.int .i64 k) := fun o => ((below_alloc (Below.refl wr.heap.size wr) o).cell (World.block_lt_of_cell? wr _ gb0)).trans gb0
   have gb0'' : ∀ o o', ((wr.alloc o).alloc o').cell? ⟨gb, j * 6, none⟩ = some (.int .i64 k) := fun o o' => ((below_alloc (below_alloc (Below.refl wr.heap.size wr) o) o').cell (World.block_lt_of_cell? wr _ gb0)).trans gb0
   have gb1 : wr.cell? ⟨gb, j * 6 + 1, none⟩ = some (.string nm) := HBj.out.2.1
   have gb1' : ∀ o, (wr.alloc o).cell? ⟨gb, j * 6 + 1, none⟩ = some (.string nm) := fun o => ((below_alloc (Below.refl wr.heap.size wr) o).cell (World.block_lt_of_cell? wr _ gb1)).trans gb1
   have gb1'' : ∀ o o', ((wr.alloc o).alloc o').cell? ⟨gb, j * 6 + 1, none⟩ = some (.string nm) := fun o o' => ((below_alloc (below_alloc (Below.refl wr.heap.size wr) o) o').cell (World.block_lt_of_cell? wr _ gb1)).trans gb1
   have gb2 : wr.cell? ⟨gb, j * 6 + 2, none⟩ = some (.string al) := HBj.out.2.2.1
   have gb2' : ∀ o, (wr.alloc o).cell? ⟨gb, j * 6 + 2, none⟩ = some (.string al) := fun o => ((below_alloc (Below.refl wr.heap.size wr) o).cell (World.block_lt_of_cell? wr _ gb2)).trans gb2
   have gb2'' : ∀ o o', ((wr.alloc o).alloc o').cell? ⟨gb, j * 6 + 2, none⟩ = some (.string al) := fun o o' => ((below_alloc (below_alloc (Below.refl wr.heap.size wr) o) o').cell (World.block_lt_of_cell? wr _ gb2)).trans gb2
   have gb3 : wr.cell? ⟨gb, j * 6 + 3, none⟩ = some (.string tx) := HBj.out.2.2.2.1
   have gb3' : ∀ o, (wr.alloc o).cell? ⟨gb, j * 6 + 3, none⟩ = some (.string tx) := fun o => ((below_alloc (Below.refl wr.heap.size wr) o).cell (World.block_lt_of_cell? wr _ gb3)).trans gb3
   have gb3'' : ∀ o o', ((wr.alloc o).alloc o').cell? ⟨gb, j * 6 + 3, none⟩ = some (.string tx) := fun o o' => ((below_alloc (below_alloc (Below.refl wr.heap.size wr) o) o').cell (World.block_lt_of_cell? wr _ gb3)).trans gb3
   have gb4 : wr.cell? ⟨gb, j * 6 + 4, none⟩ = some (.int .i64 fb) := HBj.out.2.2.2.2.1
   have gb4' : ∀ o, (wr.alloc o).cell? ⟨gb, j * 6 + 4, none⟩ = some (.int .i64 fb) := fun o => ((below_alloc (Below.refl wr.heap.size wr) o).cell (World.block_lt_of_cell? wr _ gb4)).trans gb4
   have gb4'' : ∀ o o', ((wr.alloc o).alloc o').cell? ⟨gb, j * 6 + 4, none⟩ = some (.int .i64 fb) := fun o o' => ((below_alloc (below_alloc (Below.refl wr.heap.size wr) o) o').cell (World.block_lt_of_cell? wr _ gb4)).trans gb4
   have gb5 : wr.cell? ⟨gb, j * 6 + 5, none⟩ = some (.int .i64 sz) := HBj.out.2.2.2.2.2
   have gb5' : ∀ o, (wr.alloc o).cell? ⟨gb, j * 6 + 5, none⟩ = some (.int .i64 sz) := fun o => ((below_alloc (Below.refl wr.heap.size wr) o).cell (World.block_lt_of_cell? wr _ gb5)).trans gb5
   have gb5'' : ∀ o o', ((wr.alloc o).alloc o').cell? ⟨gb, j * 6 + 5, none⟩ = some (.int .i64 sz) := fun o o' => ((below_alloc (below_alloc (Below.refl wr.heap.size wr) o) o').cell (World.block_lt_of_cell? wr _ gb5)).trans gb5
   go_upto_region 6 with (fail)
   go_cut [6, 7] (fun v6 v7 wc => ∃ g6 g7 : Nat, v6 = .pointer (some ⟨g6, 0, none⟩) ∧ v7 = .pointer (some ⟨g7, 0, none⟩) ∧ Aside0 (g6 ≠ g7 ∧ w.heap.size ≤ g6 ∧ w.heap.size ≤ g7) ∧ Aside0 (wc.heap[g6]? = some (.cells #[.int .i64 k, .string nm, .string al, .string tx, .int .i64 fa, .int .i64 sz] 55 (0, 0))) ∧ Aside0 (wc.heap[g7]? = some (.cells #[.int .i64 k, .string nm, .string al, .string tx, .int .i64 fb, .int .i64 sz] 55 (0, 0))) ∧ Aside0 (Below w.heap.size w wc))
   case first =>
    have hle : w.heap.size ≤ wr.heap.size := HBr.out.size
    have T1 := mkA (fun x y : Obj => (blk_below (heap_alloc_new wr x) (below_alloc (Below.refl _ _) y) : ((wr.alloc x).alloc y).heap[wr.heap.size]? = some x))
    have T2 := mkA (fun x y : Obj => (show ((wr.alloc x).alloc y).heap[wr.heap.size + 1]? = some y by have h := heap_alloc_new (wr.alloc x) y; rw [World.size_alloc] at h; exact h))
    have T3 := mkA (fun x y : Obj => (below_alloc (below_alloc HBr.out x) y : Below w.heap.size w ((wr.alloc x).alloc y)))
    clear W1 HAj HBj
    go_region_law (fail)
    all_goals (try go_wp2)
    all_goals go_meet
    all_goals first
     | exact ⟨wr.heap.size, wr.heap.size + 1, rfl, rfl, ⟨by omega, hle, by omega⟩, ⟨blk_below (T1.out _ _) (below_drew1 (Below.refl _ _))⟩, ⟨blk_below (T2.out _ _) (below_drew1 (Below.refl _ _))⟩, ⟨below_drew1 (T3.out _ _)⟩⟩
     | exact ⟨wr.heap.size + 1, wr.heap.size, rfl, rfl, ⟨by omega, by omega, hle⟩, ⟨blk_below (T2.out _ _) (below_drew1 (Below.refl _ _))⟩, ⟨blk_below (T1.out _ _) (below_drew1 (Below.refl _ _))⟩, ⟨below_drew1 (T3.out _ _)⟩⟩
   case rest =>
    obtain ⟨g6, g7, rfl, rfl, HN2, B6, B7, HBc⟩ := hcut
    clear ga0 ga0' ga0'' ga1 ga1' ga1'' ga2 ga2' ga2'' ga3 ga3' ga3'' ga4 ga4' ga4'' ga5 ga5' ga5'' gb0 gb0' gb0'' gb1 gb1' gb1'' gb2 gb2' gb2'' gb3 gb3' gb3'' gb4 gb4' gb4'' gb5 gb5' gb5'' HAj HBj
    have y60 : wc.cell? ⟨g6, 0, none⟩ = some (.int .i64 k) := (blk_cell B6.out 0).trans rfl
    have yf60 := blk_frozen B6.out 0
    have y61 : wc.cell? ⟨g6, 1, none⟩ = some (.string nm) := (blk_cell B6.out 1).trans rfl
    have yf61 := blk_frozen B6.out 1
    have y62 : wc.cell? ⟨g6, 2, none⟩ = some (.string al) := (blk_cell B6.out 2).trans rfl
    have yf62 := blk_frozen B6.out 2
    have y63 : wc.cell? ⟨g6, 3, none⟩ = some (.string tx) := (blk_cell B6.out 3).trans rfl
    have yf63 := blk_frozen B6.out 3
    have y64 : wc.cell? ⟨g6, 4, none⟩ = some (.int .i64 fa) := (blk_cell B6.out 4).trans rfl
    have yf64 := blk_frozen B6.out 4
    have y65 : wc.cell? ⟨g6, 5, none⟩ = some (.int .i64 sz) := (blk_cell B6.out 5).trans rfl
    have yf65 := blk_frozen B6.out 5
    have y70 : wc.cell? ⟨g7, 0, none⟩ = some (.int .i64 k) := (blk_cell B7.out 0).trans rfl
    have yf70 := blk_frozen B7.out 0
    have y71 : wc.cell? ⟨g7, 1, none⟩ = some (.string nm) := (blk_cell B7.out 1).trans rfl
    have yf71 := blk_frozen B7.out 1
    have y72 : wc.cell? ⟨g7, 2, none⟩ = some (.string al) := (blk_cell B7.out 2).trans rfl
    have yf72 := blk_frozen B7.out 2
    have y73 : wc.cell? ⟨g7, 3, none⟩ = some (.string tx) := (blk_cell B7.out 3).trans rfl
    have yf73 := blk_frozen B7.out 3
    have y74 : wc.cell? ⟨g7, 4, none⟩ = some (.int .i64 fb) := (blk_cell B7.out 4).trans rfl
    have yf74 := blk_frozen B7.out 4
    have y75 : wc.cell? ⟨g7, 5, none⟩ = some (.int .i64 sz) := (blk_cell B7.out 5).trans rfl
    have yf75 := blk_frozen B7.out 5
    have n1 := HN2.out.1
    have n2 : g7 ≠ g6 := fun e => HN2.out.1 e.symm
    by_cases hk : k = 15
    case pos =>
     have p1 := (bneq hk).1
     have hfe : fa = fb := by rw [HFA.out, if_pos hk]
     subst hfe
     clear hk
     go_wp2
     go_roundw
     case rel => exact ⟨j1, congrArg (Value.int .i64) W1, ⟨HJ1.out.2⟩, ⟨HBc.out⟩⟩
     case measure => rw [W1]; have := HJ1.out; simp only [intOf]; omega
    case neg =>
     have p1 := (bnne hk).1
     clear hk
     go_wp2
     go_roundw
     case rel => exact ⟨j1, congrArg (Value.int .i64) W1, ⟨HJ1.out.2⟩, ⟨(HBc.out.setCell (p := ⟨g6, 4, none⟩) HN2.out.2.1 _).setCell (p := ⟨g7, 4, none⟩) HN2.out.2.2 _⟩⟩
     case measure => rw [W1]; have := HJ1.out; simp only [intOf]; omega
def plainB : TypeDesc → Bool
 | .interface _ => false
 | _ => true
theorem keeps_up {n : Nat} {w w' : World} (hb : Below w.heap.size w w') : Keeps (to_ n) (to_ n) w w' := fun g o hg h1 => ⟨hg, blk_below h1 hb⟩
theorem ta_ne {P : Program} (t a : TypeId) (d : TypeDesc) (z : Value) (hu : P.underlying a = some d) (hp : plainB d = true) (hz : (P.info? a).map (·.zero) = some (some z)) (h : t ≠ a) (v : Value) (xT : TypeId) (w : World) : (Instr.typeAssert (.iface t v) xT a true).run P w = .ok (.tuple #[z, .bool false]) w := by
 obtain ⟨j, hj, hz'⟩ := Option.map_eq_some_iff.1 hz
 cases d <;> first | (cases hp; done) | simp [Instr.typeAssert, run_underlying hu, typeInfo, zeroValue, hj, hz', h]
theorem ta_eq {P : Program} (t : TypeId) (d : TypeDesc) (hu : P.underlying t = some d) (hp : plainB d = true) (v : Value) (xT : TypeId) (w : World) : (Instr.typeAssert (.iface t v) xT t true).run P w = .ok (.tuple #[v, .bool true]) w := by
 cases d <;> first | (cases hp; done) | simp [Instr.typeAssert, run_underlying hu]
theorem text_walk {ok : Ok} {w : World} {p : Value} {v : ByteArray} (h : NameA ok w p v) : Calls Tryz.prog 25 #[p] w (fun e w' => e = .returned (.string v) ∧ w' = w) := by
 obtain ⟨g, k, l, rfl, -, h⟩ := h
 have c0 : w.cell? ⟨g, 2, none⟩ = some (.string v) := (blk_cell h 2).trans rfl
 clear h
 go_enter Tryz.func25, Tryz.ntmps25
 go_wp2
 go_ret
 exact ⟨rfl, rfl⟩
theorem on_walk {ok : Ok} {w : World} {p : Value} {v : ByteArray} (h : NamedA ok w p v) : Calls Tryz.prog 51 #[p] w (fun e w' => e = .returned (.string v) ∧ w' = w) := by
 obtain ⟨g, k, l, n, rfl, hA, hl, hN⟩ := h
 have c0 : w.cell? ⟨g, 2, none⟩ = some n := (blk_cell hA.2 2).trans rfl
 have CT := mkA (text_walk hN)
 clear hA hl hN
 go_enter Tryz.func51, Tryz.ntmps51
 go_wp2_with (first
  | (go_at_call 25; (with_reducible refine CT.out.mono ?_); rintro e w_ ⟨rfl, rfl⟩))
 go_ret
 exact ⟨rfl, rfl⟩
theorem tv_var {w : World} {B gt g : Nat} {rows : List Row} {k v : ByteArray} {l n : Value} (hT : TK B gt w rows) (hB : B ≤ w.heap.size) (hA : At (to_ B) w g #[.string k, l, n] 83) (hN : NameA (to_ B) w n v) (hL : LocA (to_ B) w l) (hn : rows.length + (nd 11 v e0 e0 0 []).length ≤ 1000000) : Calls Tryz.prog 29 #[ptr gt, .iface 73 (ptr g)] w (TP B gt w (rows ++ nd 11 v e0 e0 0 [])) := by
 have HTK := mkA hT
 have HBW := mkA hB
 have HN := mkA hn
 have HA := mkA hA
 have HL := mkA hL
 have HNN := mkA hN
 have a73 := fun w => ta_eq (P := Tryz.prog) 73 (.pointer 83) (by kernel_rfl) rfl (R.ptr g) 77 w
 clear hT hB hn hA hL hN
 obtain ⟨gl, la, lz, ls, rfl, HLC⟩ := HL.out
 go_enter Tryz.func29, Tryz.ntmps29
 go_upto_region 6 with (first
  | ((with_reducible refine gate_dst (N := 2) rfl ?_); refine box_event ?hg (N := 2) ?hd (cs := #[R.ptr gt]) (t := 35) ?hr ?_; (case hd => rfl); (case hg => rfl); (case hr => first | (go_simp; done) | (go_simp; rfl)); intro gx hg w2 hbox hb; have B2 := mkA hb; have BX := mkA hbox; clear hbox hb hg))
 have KP := mkA (keeps_up (n := B) B2.out)
 have AL := mkA (show At (to_ B) w2 g #[.string k, R.ptr gl, n] 83 from HA.out.fr KP.out)
 have LCL := mkA (show LocA (to_ B) w2 (R.ptr gl) from HL.out.fr KP.out)
 have NML := mkA (show NameA (to_ B) w2 n v from HNN.out.fr KP.out)
 have s_0 : w2.cell? ⟨gx, 0, none⟩ = some (R.ptr gt) := (blk_cell BX.out 0).trans rfl
 have c_0 : w2.cell? ⟨g, 1, none⟩ = some (R.ptr gl) := (blk_cell AL.out.2 1).trans rfl
 have c_1 : w2.cell? ⟨g, 2, none⟩ = some (n) := (blk_cell AL.out.2 2).trans rfl
 have T4 := mkA (show TK B gt w2 (rows) from HTK.out.step B2.out)
 have cT0 := mkA (fun (u : World) (hu : Below w2.heap.size w2 u) => (show Calls Tryz.prog 25 #[n] u (fun e w' => e = .returned (.string v) ∧ w' = u) from text_walk (NML.out.fr (keeps_up hu))))
 have cP := mkA (fun (u : World) (hu : Below w2.heap.size w2 u) => (show Calls Tryz.prog 26 #[R.ptr gt, R.ptr gl, .agg #[.int .i64 11, .string v, .string ⟨#[]⟩, .string ⟨#[]⟩, .int .i64 0, .int .i64 0], .nilFunc] u (TP B gt w ((rows) ++ nd 11 v ⟨#[]⟩ ⟨#[]⟩ 0 [])) from (put_walk (T4.out.step hu) (LCL.out.fr (keeps_up hu)) (Nat.le_trans HBW.out (below_step B2.out hu).size) (by have h_ := HN.out; rw [nd_len] at h_; omega) (.inl ⟨rfl, rfl⟩)).mono fun e w' q => ⟨q.1, q.2.1, (TF.of HBW.out (below_step B2.out hu)).trans q.2.2⟩))
 go_still_tail 11, (by kernel_rfl)
 still_call (cT0.out _ (by first | exact below_drew1 (Below.refl _ _) | exact Below.refl _ _))
 repeat still_step
 refine wpStill_nil ?_
 go_wp2_with (first
  | (go_at_call 26; refine (cP.out _ ?_).mono ?_; (first | exact below_drew1 (Below.refl _ _) | exact Below.refl _ _); rintro e w5 ⟨rfl, q1, q2⟩; have Q1 := mkA q1; have Q2 := mkA q2; clear q1 q2))
 go_end0
 exact ⟨rfl, Q1.out, Q2.out⟩
theorem tv_int {w : World} {B gt g : Nat} {rows : List Row} {k v : ByteArray} {l : Value} (hT : TK B gt w rows) (hB : B ≤ w.heap.size) (hA : At (to_ B) w g #[.string k, l, .string v] 131) (hL : LocA (to_ B) w l) (hn : rows.length + (nd 12 e0 e0 v 0 []).length ≤ 1000000) : Calls Tryz.prog 29 #[ptr gt, .iface 130 (ptr g)] w (TP B gt w (rows ++ nd 12 e0 e0 v 0 [])) := by
 have HTK := mkA hT
 have HBW := mkA hB
 have HN := mkA hn
 have HA := mkA hA
 have HL := mkA hL
 have a73 := fun w => ta_ne (P := Tryz.prog) 130 73 (.pointer 83) (.pointer none) (by kernel_rfl) rfl (by kernel_rfl) (by decide) (R.ptr g) 77 w
 have a130 := fun w => ta_eq (P := Tryz.prog) 130 (.pointer 131) (by kernel_rfl) rfl (R.ptr g) 77 w
 clear hT hB hn hA hL
 obtain ⟨gl, la, lz, ls, rfl, HLC⟩ := HL.out
 go_enter Tryz.func29, Tryz.ntmps29
 go_upto_region 9 with (first
  | ((with_reducible refine gate_dst (N := 2) rfl ?_); refine box_event ?hg (N := 2) ?hd (cs := #[R.ptr gt]) (t := 35) ?hr ?_; (case hd => rfl); (case hg => rfl); (case hr => first | (go_simp; done) | (go_simp; rfl)); intro gx hg w2 hbox hb; have B2 := mkA hb; have BX := mkA hbox; clear hbox hb hg))
 have KP := mkA (keeps_up (n := B) B2.out)
 have AL := mkA (show At (to_ B) w2 g #[.string k, R.ptr gl, .string v] 131 from HA.out.fr KP.out)
 have LCL := mkA (show LocA (to_ B) w2 (R.ptr gl) from HL.out.fr KP.out)
 have s_0 : w2.cell? ⟨gx, 0, none⟩ = some (R.ptr gt) := (blk_cell BX.out 0).trans rfl
 have c_0 : w2.cell? ⟨g, 1, none⟩ = some (R.ptr gl) := (blk_cell AL.out.2 1).trans rfl
 have c_1 : w2.cell? ⟨g, 2, none⟩ = some (.string v) := (blk_cell AL.out.2 2).trans rfl
 have T4 := mkA (show TK B gt w2 (rows) from HTK.out.step B2.out)
 have cP := mkA (fun (u : World) (hu : Below w2.heap.size w2 u) => (show Calls Tryz.prog 26 #[R.ptr gt, R.ptr gl, .agg #[.int .i64 12, .string ⟨#[]⟩, .string ⟨#[]⟩, .string v, .int .i64 0, .int .i64 0], .nilFunc] u (TP B gt w ((rows) ++ nd 12 ⟨#[]⟩ ⟨#[]⟩ v 0 [])) from (put_walk (T4.out.step hu) (LCL.out.fr (keeps_up hu)) (Nat.le_trans HBW.out (below_step B2.out hu).size) (by have h_ := HN.out; rw [nd_len] at h_; omega) (.inl ⟨rfl, rfl⟩)).mono fun e w' q => ⟨q.1, q.2.1, (TF.of HBW.out (below_step B2.out hu)).trans q.2.2⟩))
 go_still_tail 10, (by kernel_rfl)
 go_wp2_with (first
  | (go_at_call 26; refine (cP.out _ ?_).mono ?_; (first | exact below_drew1 (Below.refl _ _) | exact Below.refl _ _); rintro e w5 ⟨rfl, q1, q2⟩; have Q1 := mkA q1; have Q2 := mkA q2; clear q1 q2))
 go_end0
 exact ⟨rfl, Q1.out, Q2.out⟩
theorem tv_flt {w : World} {B gt g : Nat} {rows : List Row} {k v : ByteArray} {l : Value} (hT : TK B gt w rows) (hB : B ≤ w.heap.size) (hA : At (to_ B) w g #[.string k, l, .string v] 133) (hL : LocA (to_ B) w l) (hn : rows.length + (nd 13 e0 e0 v 0 []).length ≤ 1000000) : Calls Tryz.prog 29 #[ptr gt, .iface 132 (ptr g)] w (TP B gt w (rows ++ nd 13 e0 e0 v 0 [])) := by
 have HTK := mkA hT
 have HBW := mkA hB
 have HN := mkA hn
 have HA := mkA hA
 have HL := mkA hL
 have a73 := fun w => ta_ne (P := Tryz.prog) 132 73 (.pointer 83) (.pointer none) (by kernel_rfl) rfl (by kernel_rfl) (by decide) (R.ptr g) 77 w
 have a130 := fun w => ta_ne (P := Tryz.prog) 132 130 (.pointer 131) (.pointer none) (by kernel_rfl) rfl (by kernel_rfl) (by decide) (R.ptr g) 77 w
 have a132 := fun w => ta_eq (P := Tryz.prog) 132 (.pointer 133) (by kernel_rfl) rfl (R.ptr g) 77 w
 clear hT hB hn hA hL
 obtain ⟨gl, la, lz, ls, rfl, HLC⟩ := HL.out
 go_enter Tryz.func29, Tryz.ntmps29
 go_upto_region 12 with (first
  | ((with_reducible refine gate_dst (N := 2) rfl ?_); refine box_event ?hg (N := 2) ?hd (cs := #[R.ptr gt]) (t := 35) ?hr ?_; (case hd => rfl); (case hg => rfl); (case hr => first | (go_simp; done) | (go_simp; rfl)); intro gx hg w2 hbox hb; have B2 := mkA hb; have BX := mkA hbox; clear hbox hb hg))
 have KP := mkA (keeps_up (n := B) B2.out)
 have AL := mkA (show At (to_ B) w2 g #[.string k, R.ptr gl, .string v] 133 from HA.out.fr KP.out)
 have LCL := mkA (show LocA (to_ B) w2 (R.ptr gl) from HL.out.fr KP.out)
 have s_0 : w2.cell? ⟨gx, 0, none⟩ = some (R.ptr gt) := (blk_cell BX.out 0).trans rfl
 have c_0 : w2.cell? ⟨g, 1, none⟩ = some (R.ptr gl) := (blk_cell AL.out.2 1).trans rfl
 have c_1 : w2.cell? ⟨g, 2, none⟩ = some (.string v) := (blk_cell AL.out.2 2).trans rfl
 have T4 := mkA (show TK B gt w2 (rows) from HTK.out.step B2.out)
 have cP := mkA (fun (u : World) (hu : Below w2.heap.size w2 u) => (show Calls Tryz.prog 26 #[R.ptr gt, R.ptr gl, .agg #[.int .i64 13, .string ⟨#[]⟩, .string ⟨#[]⟩, .string v, .int .i64 0, .int .i64 0], .nilFunc] u (TP B gt w ((rows) ++ nd 13 ⟨#[]⟩ ⟨#[]⟩ v 0 [])) from (put_walk (T4.out.step hu) (LCL.out.fr (keeps_up hu)) (Nat.le_trans HBW.out (below_step B2.out hu).size) (by have h_ := HN.out; rw [nd_len] at h_; omega) (.inl ⟨rfl, rfl⟩)).mono fun e w' q => ⟨q.1, q.2.1, (TF.of HBW.out (below_step B2.out hu)).trans q.2.2⟩))
 go_still_tail 10, (by kernel_rfl)
 go_wp2_with (first
  | (go_at_call 26; refine (cP.out _ ?_).mono ?_; (first | exact below_drew1 (Below.refl _ _) | exact Below.refl _ _); rintro e w5 ⟨rfl, q1, q2⟩; have Q1 := mkA q1; have Q2 := mkA q2; clear q1 q2))
 go_end0
 exact ⟨rfl, Q1.out, Q2.out⟩
theorem tv_str {w : World} {B gt g : Nat} {rows : List Row} {k v : ByteArray} {l : Value} (hT : TK B gt w rows) (hB : B ≤ w.heap.size) (hA : At (to_ B) w g #[.string k, l, .string v] 135) (hL : LocA (to_ B) w l) (hn : rows.length + (nd 14 e0 e0 v 0 []).length ≤ 1000000) : Calls Tryz.prog 29 #[ptr gt, .iface 134 (ptr g)] w (TP B gt w (rows ++ nd 14 e0 e0 v 0 [])) := by
 have HTK := mkA hT
 have HBW := mkA hB
 have HN := mkA hn
 have HA := mkA hA
 have HL := mkA hL
 have a73 := fun w => ta_ne (P := Tryz.prog) 134 73 (.pointer 83) (.pointer none) (by kernel_rfl) rfl (by kernel_rfl) (by decide) (R.ptr g) 77 w
 have a130 := fun w => ta_ne (P := Tryz.prog) 134 130 (.pointer 131) (.pointer none) (by kernel_rfl) rfl (by kernel_rfl) (by decide) (R.ptr g) 77 w
 have a132 := fun w => ta_ne (P := Tryz.prog) 134 132 (.pointer 133) (.pointer none) (by kernel_rfl) rfl (by kernel_rfl) (by decide) (R.ptr g) 77 w
 have a134 := fun w => ta_eq (P := Tryz.prog) 134 (.pointer 135) (by kernel_rfl) rfl (R.ptr g) 77 w
 clear hT hB hn hA hL
 obtain ⟨gl, la, lz, ls, rfl, HLC⟩ := HL.out
 go_enter Tryz.func29, Tryz.ntmps29
 go_upto_region 15 with (first
  | ((with_reducible refine gate_dst (N := 2) rfl ?_); refine box_event ?hg (N := 2) ?hd (cs := #[R.ptr gt]) (t := 35) ?hr ?_; (case hd => rfl); (case hg => rfl); (case hr => first | (go_simp; done) | (go_simp; rfl)); intro gx hg w2 hbox hb; have B2 := mkA hb; have BX := mkA hbox; clear hbox hb hg))
 have KP := mkA (keeps_up (n := B) B2.out)
 have AL := mkA (show At (to_ B) w2 g #[.string k, R.ptr gl, .string v] 135 from HA.out.fr KP.out)
 have LCL := mkA (show LocA (to_ B) w2 (R.ptr gl) from HL.out.fr KP.out)
 have s_0 : w2.cell? ⟨gx, 0, none⟩ = some (R.ptr gt) := (blk_cell BX.out 0).trans rfl
 have c_0 : w2.cell? ⟨g, 1, none⟩ = some (R.ptr gl) := (blk_cell AL.out.2 1).trans rfl
 have c_1 : w2.cell? ⟨g, 2, none⟩ = some (.string v) := (blk_cell AL.out.2 2).trans rfl
 have T4 := mkA (show TK B gt w2 (rows) from HTK.out.step B2.out)
 have cP := mkA (fun (u : World) (hu : Below w2.heap.size w2 u) => (show Calls Tryz.prog 26 #[R.ptr gt, R.ptr gl, .agg #[.int .i64 14, .string ⟨#[]⟩, .string ⟨#[]⟩, .string v, .int .i64 0, .int .i64 0], .nilFunc] u (TP B gt w ((rows) ++ nd 14 ⟨#[]⟩ ⟨#[]⟩ v 0 [])) from (put_walk (T4.out.step hu) (LCL.out.fr (keeps_up hu)) (Nat.le_trans HBW.out (below_step B2.out hu).size) (by have h_ := HN.out; rw [nd_len] at h_; omega) (.inl ⟨rfl, rfl⟩)).mono fun e w' q => ⟨q.1, q.2.1, (TF.of HBW.out (below_step B2.out hu)).trans q.2.2⟩))
 go_still_tail 10, (by kernel_rfl)
 go_wp2_with (first
  | (go_at_call 26; refine (cP.out _ ?_).mono ?_; (first | exact below_drew1 (Below.refl _ _) | exact Below.refl _ _); rintro e w5 ⟨rfl, q1, q2⟩; have Q1 := mkA q1; have Q2 := mkA q2; clear q1 q2))
 go_end0
 exact ⟨rfl, Q1.out, Q2.out⟩
theorem tv_enm {w : World} {B gt g : Nat} {rows : List Row} {k v : ByteArray} {l : Value} (hT : TK B gt w rows) (hB : B ≤ w.heap.size) (hA : At (to_ B) w g #[.string k, l, .string v] 140) (hL : LocA (to_ B) w l) (hn : rows.length + (nd 16 v e0 e0 0 []).length ≤ 1000000) : Calls Tryz.prog 29 #[ptr gt, .iface 139 (ptr g)] w (TP B gt w (rows ++ nd 16 v e0 e0 0 [])) := by
 have HTK := mkA hT
 have HBW := mkA hB
 have HN := mkA hn
 have HA := mkA hA
 have HL := mkA hL
 have a73 := fun w => ta_ne (P := Tryz.prog) 139 73 (.pointer 83) (.pointer none) (by kernel_rfl) rfl (by kernel_rfl) (by decide) (R.ptr g) 77 w
 have a130 := fun w => ta_ne (P := Tryz.prog) 139 130 (.pointer 131) (.pointer none) (by kernel_rfl) rfl (by kernel_rfl) (by decide) (R.ptr g) 77 w
 have a132 := fun w => ta_ne (P := Tryz.prog) 139 132 (.pointer 133) (.pointer none) (by kernel_rfl) rfl (by kernel_rfl) (by decide) (R.ptr g) 77 w
 have a134 := fun w => ta_ne (P := Tryz.prog) 139 134 (.pointer 135) (.pointer none) (by kernel_rfl) rfl (by kernel_rfl) (by decide) (R.ptr g) 77 w
 have a136 := fun w => ta_ne (P := Tryz.prog) 139 136 (.pointer 138) (.pointer none) (by kernel_rfl) rfl (by kernel_rfl) (by decide) (R.ptr g) 77 w
 have a139 := fun w => ta_eq (P := Tryz.prog) 139 (.pointer 140) (by kernel_rfl) rfl (R.ptr g) 77 w
 clear hT hB hn hA hL
 obtain ⟨gl, la, lz, ls, rfl, HLC⟩ := HL.out
 go_enter Tryz.func29, Tryz.ntmps29
 go_upto_region 24 with (first
  | ((with_reducible refine gate_dst (N := 2) rfl ?_); refine box_event ?hg (N := 2) ?hd (cs := #[R.ptr gt]) (t := 35) ?hr ?_; (case hd => rfl); (case hg => rfl); (case hr => first | (go_simp; done) | (go_simp; rfl)); intro gx hg w2 hbox hb; have B2 := mkA hb; have BX := mkA hbox; clear hbox hb hg))
 have KP := mkA (keeps_up (n := B) B2.out)
 have AL := mkA (show At (to_ B) w2 g #[.string k, R.ptr gl, .string v] 140 from HA.out.fr KP.out)
 have LCL := mkA (show LocA (to_ B) w2 (R.ptr gl) from HL.out.fr KP.out)
 have s_0 : w2.cell? ⟨gx, 0, none⟩ = some (R.ptr gt) := (blk_cell BX.out 0).trans rfl
 have c_0 : w2.cell? ⟨g, 1, none⟩ = some (R.ptr gl) := (blk_cell AL.out.2 1).trans rfl
 have c_1 : w2.cell? ⟨g, 2, none⟩ = some (.string v) := (blk_cell AL.out.2 2).trans rfl
 have T4 := mkA (show TK B gt w2 (rows) from HTK.out.step B2.out)
 have cP := mkA (fun (u : World) (hu : Below w2.heap.size w2 u) => (show Calls Tryz.prog 26 #[R.ptr gt, R.ptr gl, .agg #[.int .i64 16, .string v, .string ⟨#[]⟩, .string ⟨#[]⟩, .int .i64 0, .int .i64 0], .nilFunc] u (TP B gt w ((rows) ++ nd 16 v ⟨#[]⟩ ⟨#[]⟩ 0 [])) from (put_walk (T4.out.step hu) (LCL.out.fr (keeps_up hu)) (Nat.le_trans HBW.out (below_step B2.out hu).size) (by have h_ := HN.out; rw [nd_len] at h_; omega) (.inl ⟨rfl, rfl⟩)).mono fun e w' q => ⟨q.1, q.2.1, (TF.of HBW.out (below_step B2.out hu)).trans q.2.2⟩))
 go_still_tail 10, (by kernel_rfl)
 go_wp2_with (first
  | (go_at_call 26; refine (cP.out _ ?_).mono ?_; (first | exact below_drew1 (Below.refl _ _) | exact Below.refl _ _); rintro e w5 ⟨rfl, q1, q2⟩; have Q1 := mkA q1; have Q2 := mkA q2; clear q1 q2))
 go_end0
 exact ⟨rfl, Q1.out, Q2.out⟩
theorem clo_52 {w : World} {gt gx gv g : Nat} {x : Value} {R : Ending → World → Prop} (hx : w.heap[gx]? = some (.cells #[ptr gt] 35 (0, 0))) (hv : w.heap[gv]? = some (.cells #[ptr g] 125 (0, 0))) (hj : w.cell? ⟨g, 2, none⟩ = some x) (hc : ∀ u, Below w.heap.size w u → Calls Tryz.prog 28 #[ptr gt, x] u R) (hR : ∀ e w', R e w' → e = .returned (.tuple #[])) : Calls Tryz.prog 52 #[ptr gx, ptr gv] w R := by
 have s_0 : w.cell? ⟨gx, 0, none⟩ = some (ptr gt) := (blk_cell hx 0).trans rfl
 have s_1 : w.cell? ⟨gv, 0, none⟩ = some (ptr g) := (blk_cell hv 0).trans rfl
 have CP := mkA hc
 have HR := mkA hR
 clear hx hv hc hR
 go_enter Tryz.func52, Tryz.ntmps52
 go_still_tail 5, (by kernel_rfl)
 go_wp2_with (first
  | (go_at_call 28; refine (CP.out _ ?_).mono ?_; (first | exact below_drew1 (Below.refl _ _) | exact Below.refl _ _); rintro e w5 q1; obtain rfl := HR.out _ _ q1; have Q1 := mkA q1; clear q1))
 go_end0
 exact Q1.out
theorem clo_53 {w : World} {gt gx gv g : Nat} {x : Value} {R : Ending → World → Prop} (hx : w.heap[gx]? = some (.cells #[ptr gt] 35 (0, 0))) (hv : w.heap[gv]? = some (.cells #[ptr g] 128 (0, 0))) (hj : w.cell? ⟨g, 2, none⟩ = some x) (hc : ∀ u, Below w.heap.size w u → Calls Tryz.prog 28 #[ptr gt, x] u R) (hR : ∀ e w', R e w' → e = .returned (.tuple #[])) : Calls Tryz.prog 53 #[ptr gx, ptr gv] w R := by
 have s_0 : w.cell? ⟨gx, 0, none⟩ = some (ptr gt) := (blk_cell hx 0).trans rfl
 have s_1 : w.cell? ⟨gv, 0, none⟩ = some (ptr g) := (blk_cell hv 0).trans rfl
 have CP := mkA hc
 have HR := mkA hR
 clear hx hv hc hR
 go_enter Tryz.func53, Tryz.ntmps53
 go_still_tail 5, (by kernel_rfl)
 go_wp2_with (first
  | (go_at_call 28; refine (CP.out _ ?_).mono ?_; (first | exact below_drew1 (Below.refl _ _) | exact Below.refl _ _); rintro e w5 q1; obtain rfl := HR.out _ _ q1; have Q1 := mkA q1; clear q1))
 go_end0
 exact Q1.out
theorem clo_56 {w : World} {gt gx gv g : Nat} {x : Value} {R : Ending → World → Prop} (hx : w.heap[gx]? = some (.cells #[ptr gt] 35 (0, 0))) (hv : w.heap[gv]? = some (.cells #[ptr g] 149 (0, 0))) (hj : w.cell? ⟨g, 3, none⟩ = some x) (hc : ∀ u, Below w.heap.size w u → Calls Tryz.prog 29 #[ptr gt, x] u R) (hR : ∀ e w', R e w' → e = .returned (.tuple #[])) : Calls Tryz.prog 56 #[ptr gx, ptr gv] w R := by
 have s_0 : w.cell? ⟨gx, 0, none⟩ = some (ptr gt) := (blk_cell hx 0).trans rfl
 have s_1 : w.cell? ⟨gv, 0, none⟩ = some (ptr g) := (blk_cell hv 0).trans rfl
 have CP := mkA hc
 have HR := mkA hR
 clear hx hv hc hR
 go_enter Tryz.func56, Tryz.ntmps56
 go_still_tail 5, (by kernel_rfl)
 go_wp2_with (first
  | (go_at_call 29; refine (CP.out _ ?_).mono ?_; (first | exact below_drew1 (Below.refl _ _) | exact Below.refl _ _); rintro e w5 q1; obtain rfl := HR.out _ _ q1; have Q1 := mkA q1; clear q1))
 go_end0
 exact Q1.out
end Go.Proofs.YthgcghpcikbnkaaGreatDoor.R
