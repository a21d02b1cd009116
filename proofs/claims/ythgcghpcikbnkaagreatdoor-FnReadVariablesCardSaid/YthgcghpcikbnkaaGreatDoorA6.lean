/- A part of the proof of the theorem of this claim: Ba, Lex, Pst. No condition of its own. -/
import Derived.Test.YthgcghpcikbnkaaGreatDoorA5
import Derived.Test.YthgcghpcikbnkaaGreatDoorA4
set_option maxHeartbeats 16000000
set_option maxRecDepth 100000
namespace Go.Proofs.YthgcghpcikbnkaaGreatDoor.R
open Go.RowKit Go.Proofs.YthgcghpcikbnkaaGreatDoorW.PrintWords Go.Proofs.YthgcghpcikbnkaaGreatDoorW.PrintLast Go.Proofs.YthgcghpcikbnkaaGreatDoorW.PrintMore
set_option linter.unusedVariables false
set_option linter.unusedSimpArgs false
set_option maxRecDepth 100000 in
theorem makeToken_walk (k a z : Int) (v : ByteArray) (w : World) : Calls Tryz.prog 128 #[.int .i64 k, .int .i64 a, .int .i64 z, .string v] w fun e w' => e = .returned (.agg #[.int .i64 k, .int .i64 a, .int .i64 z, .string v]) ∧ Below w.heap.size w w' := by
 go_enter Tryz.func128, Tryz.ntmps128
 go_wp2_with (first | ((with_reducible refine gate_dst (N := 8) rfl ?_); refine box_event ?hg (N := 8) ?hd (cs := #[.int .i64 0, .int .i64 0, .int .i64 0, .string ⟨#[]⟩]) (t := 63) ?hr ?_; (case hd => rfl); (case hg => rfl); (case hr => first | (go_simp; done) | (go_simp; rfl)); intro gb hg w2 hbox hb; have HB := mkA hb; have GE := mkA (Nat.le_of_eq hg.symm); have BK := mkA hbox; clear hb hbox hg; obtain ⟨hz0, hz1, hz2, hz3, hf0, hf1, hf2, hf3⟩ := tkz BK.out))
 refine bodyPost_ret (results_cell_row rfl _ _ gb 63 #[.int .i64 k, .int .i64 a, .int .i64 z, .string v] (0, 0) _ rfl (by exact tkp BK.out) Tryz.underlying63 rfl (by kernel_rfl)) rfl ?_
 exact ⟨rfl, below_set (below_set (below_set (below_set HB.out GE.out) GE.out) GE.out) GE.out⟩
set_option maxHeartbeats 4000000 in
set_option maxRecDepth 100000 in
theorem newLoc_walk {w : World} {g : Nat} {a z : Int} {p : Option Addr} (h : w.heap[g]? = some (.cells #[.int .i64 a, .int .i64 z, .pointer p] 120 (0, 0))) :
 Calls Tryz.prog 88 #[.pointer (some ⟨g, 0, none⟩)] w fun e w' => (∃ g' : Nat, e = .returned (.pointer (some ⟨g', 0, none⟩)) ∧ w.heap.size ≤ g' ∧ w'.heap[g']? = some (.cells #[.int .i64 a, .int .i64 z, .pointer p] 120 (0, 0))) ∧ Below w.heap.size w w' := by
 have c0 : w.cell? ⟨g, 0, none⟩ = some (.int .i64 a) := (blk_cell h 0).trans rfl
 have c1 : w.cell? ⟨g, 1, none⟩ = some (.int .i64 z) := (blk_cell h 1).trans rfl
 have c2 : w.cell? ⟨g, 2, none⟩ = some (.pointer p) := (blk_cell h 2).trans rfl
 clear h
 go_enter Tryz.func88, Tryz.ntmps88
 go_wp2
 go_region_held3 (fun u => u.cell? ⟨g, 0, none⟩ = some (.int .i64 a) ∧ u.cell? ⟨g, 1, none⟩ = some (.int .i64 z) ∧ u.cell? ⟨g, 2, none⟩ = some (.pointer p)) (go_keep) (fail)
 go_wp2
 go_ret
 exact ⟨⟨_, rfl, Nat.le_refl _, heap_alloc_new w _⟩, by repeat (first | exact Below.refl _ _ | apply below_drew1 | apply below_alloc)⟩
set_option maxRecDepth 100000 in
theorem newSource_walk {w : World} {g : Nat} {v : Value} (h : w.heap[g]? = some (.cells #[v, .string ⟨#[]⟩] 111 (0, 0))) :
 Calls Tryz.prog 47 #[.pointer (some ⟨g, 0, none⟩)] w fun e w' => e = .returned (.pointer (some ⟨g, 0, none⟩)) ∧ w' = w.setCell ⟨g, 1, none⟩ (.string ⟨#[71, 114, 97, 112, 104, 81, 76]⟩) := by
 have c1 : w.cell? ⟨g, 1, none⟩ = some (.string ⟨#[]⟩) := (blk_cell h 1).trans rfl
 have f1 := blk_frozen h 1
 clear h
 go_enter Tryz.func47, Tryz.ntmps47
 go_wp2
 go_ret
 exact ⟨rfl, rfl⟩
set_option maxHeartbeats 4000000 in
set_option maxRecDepth 100000 in
theorem loc_walk' {w : World} {g : Nat} {f : Value} {p : Option Addr} {pe k a z : Int} {v : ByteArray} (st : Int) (h : w.heap[g]? = some (.cells #[f, .pointer p, .bool false, .bool false, .int .i64 pe, .int .i64 k, .int .i64 a, .int .i64 z, .string v] 70 (0, 0))) :
 Calls Tryz.prog 59 #[.pointer (some ⟨g, 0, none⟩), .int .i64 st] w fun e w' => (∃ g' : Nat, e = .returned (.pointer (some ⟨g', 0, none⟩)) ∧ w.heap.size ≤ g' ∧ w'.heap[g']? = some (.cells #[.int .i64 st, .int .i64 pe, .pointer p] 120 (0, 0))) ∧ Below w.heap.size w w' := by
 have c1 : w.cell? ⟨g, 1, none⟩ = some (.pointer p) := (blk_cell h 1).trans rfl
 have c2 : w.cell? ⟨g, 2, none⟩ = some (.bool false) := (blk_cell h 2).trans rfl
 have c3 : w.cell? ⟨g, 3, none⟩ = some (.bool false) := (blk_cell h 3).trans rfl
 have c4 : w.cell? ⟨g, 4, none⟩ = some (.int .i64 pe) := (blk_cell h 4).trans rfl
 clear h
 go_enter Tryz.func59, Tryz.ntmps59
 go_wp2
 have K0 : ∀ u, Below w.heap.size w u → (u.cell? ⟨g, 1, none⟩ = some (.pointer p) ∧ u.cell? ⟨g, 4, none⟩ = some (.int .i64 pe)) ∧ Below w.heap.size w u := fun u hu => ⟨⟨(hu.cell (World.block_lt_of_cell? w _ c1)).trans c1, (hu.cell (World.block_lt_of_cell? w _ c4)).trans c4⟩, hu⟩
 go_region_held3 (fun u => (u.cell? ⟨g, 1, none⟩ = some (.pointer p) ∧ u.cell? ⟨g, 4, none⟩ = some (.int .i64 pe)) ∧ Below w.heap.size w u) (first | exact K0 _ (below_drew1 (Below.refl _ _)) | exact K0 _ (below_drew1 (below_alloc (Below.refl _ _) _)) | exact hS9 | fail) (first | (go_at_call 88; (first | refine (newLoc_walk (w := World.drew (World.alloc _ _)) (heap_alloc_new _ _)).mono ?_ | refine (newLoc_walk (heap_alloc_new _ _)).mono ?_); rintro e w9 ⟨⟨g9, rfl, hl9, hg9⟩, hB9⟩; have hl8 := mkA (show w.heap.size ≤ g9 from Nat.le_trans (by first | exact (below_drew1 (below_alloc (Below.refl w.heap.size w) _)).size | exact (below_alloc (below_drew1 (Below.refl w.heap.size w)) _).size) hl9); clear hl9; (first | have hW9 := below_step (below_drew1 (below_alloc (Below.refl w.heap.size w) _)) hB9 | have hW9 := below_step (below_alloc (below_drew1 (Below.refl w.heap.size w)) _) hB9); have hS9 := K0 _ hW9) | fail)
 go_wp2
 go_ret
 exact ⟨⟨g9, rfl, hl8.out, hg9⟩, hW9⟩
theorem keep_setf {w w1 : World} {g g' j : Nat} {u : Value} (h : KeepBut w w1 g none) (hg : w.heap.size ≤ g') : KeepBut w (w1.setCell ⟨g', j, none⟩ u) g none :=
 ⟨Nat.le_trans h.1 (Below.refl 0 w1 |>.setCell (p := ⟨g', j, none⟩) (Nat.zero_le _) u).size, fun i hi hne hr => (Below.heap_setCell _ _ _ _ (show i ≠ g' from by omega)).trans (h.2 i hi hne hr)⟩
def lexf (c s : Nat) : Value := .func (.func 98) #[] #[.pointer (some ⟨c, 0, none⟩), .pointer (some ⟨s, 0, none⟩)]
theorem lexfn_walk {w : World} {gc gs g B : Nat} {pv r pos k a z : Int} {v : ByteArray} (hBc : B ≤ gc) (hBw : B ≤ w.heap.size) (h1 : w.heap[gc]? = some (.cells #[.int .i64 pv] 3 (0, 0))) (h2 : w.heap[gs]? = some (.cells #[.pointer (some ⟨g, 0, none⟩)] 66 (0, 0))) (hne : gc ≠ gs)
 (hr : ((r == 0) = true ∧ pv = pos) ∨ ((r == 0) = false ∧ r = pos))
 (hC : ∀ W, Below w.heap.size w W → Calls Tryz.prog 99 #[.pointer (some ⟨g, 0, none⟩), .int .i64 pos] W fun e W' => e = .returned (.tuple #[.agg #[.int .i64 k, .int .i64 a, .int .i64 z, .string v], .nilIface]) ∧ Below W.heap.size W W') :
 Calls Tryz.prog 98 #[.int .i64 r, .pointer (some ⟨gc, 0, none⟩), .pointer (some ⟨gs, 0, none⟩)] w fun e w' => e = .returned (.tuple #[.agg #[.int .i64 k, .int .i64 a, .int .i64 z, .string v], .nilIface]) ∧ w'.heap[gc]? = some (.cells #[.int .i64 z] 3 (0, 0)) ∧ Below B w w' ∧ KeepBut w w' gc none := by
 have HC := mkA hC
 have BC := mkA h1
 have BS := mkA h2
 have HL := mkA (And.intro hBc hBw)
 have HB := mkA (Below.refl w.heap.size w)
 have gcl := mkA (blk_lt h1)
 have gsl := mkA (blk_lt h2)
 clear hC h1 h2 hBc hBw
 rcases hr with ⟨q0, hp⟩ | ⟨q0, hp⟩ <;> rw [← hp] at HC <;> clear hp
 all_goals
  go_enter Tryz.func98, Tryz.ntmps98
  go_wp2_with (first
   | ((with_reducible refine gate_dst (N := 4) rfl ?_); refine box_event ?hg (N := 4) ?hd (cs := #[.int .i64 0, .int .i64 0, .int .i64 0, .string ⟨#[]⟩]) (t := 63) ?hr ?_; (case hd => rfl); (case hg => rfl); (case hr => first | (go_simp; done) | (go_simp; rfl)); intro gb hg w2 hbox hb; have n0_ := mkA (below_step HB.out hb); have GE := mkA ((by rw [hg]; exact below_size HB.out : w.heap.size ≤ gb)); have n1_ := mkA (blk_below BC.out hb); have n2_ := mkA (blk_below BS.out hb); clear HB BC BS; have HB := n0_; have BC := n1_; have BS := n2_; have BK := mkA hbox; clear n0_ n1_ n2_ hb hbox hg; have hc0 : w2.cell? ⟨gc, 0, none⟩ = some (.int .i64 pv) := (blk_cell BC.out 0).trans rfl; have hs0 : w2.cell? ⟨gs, 0, none⟩ = some (.pointer (some ⟨g, 0, none⟩)) := (blk_cell BS.out 0).trans rfl)
   | (go_at_call 99; (with_reducible refine (HC.out _ HB.out).mono ?_); rintro e w3 ⟨rfl, hB⟩; have n0_ := mkA (below_step HB.out hB); have n1_ := mkA (blk_below BC.out hB); have n2_ := mkA (blk_below BK.out hB); clear HB BC BK hB; have HB := n0_; have BC := n1_; have BK := n2_; clear n0_ n1_ n2_)
   | ((with_reducible refine gate_dst (N := 6) rfl ?_); refine box_event ?hg (N := 6) ?hd (cs := #[.int .i64 0, .int .i64 0, .int .i64 0, .string ⟨#[]⟩]) (t := 63) ?hr ?_; (case hd => rfl); (case hg => rfl); (case hr => first | (go_simp; done) | (go_simp; rfl)); intro gt hg w4 hbox hb; have n0_ := mkA (below_step HB.out hb); have GT := mkA ((by rw [hg]; exact below_size HB.out : w.heap.size ≤ gt)); have NE := mkA ((by rw [hg]; exact Nat.ne_of_lt (blk_lt BK.out)) : gb ≠ gt); have n1_ := mkA (blk_below BC.out hb); have n2_ := mkA (blk_below BK.out hb); clear HB BC BK; have HB := n0_; have BC := n1_; have BK := n2_; have BT := mkA hbox; clear n0_ n1_ n2_ hb hbox hg; have hne1 := NE.out; have hne2 : gt ≠ gb := fun e => NE.out e.symm; have NT := mkA (show gc ≠ gt by have h1 := gcl.out; have h2 := GT.out; omega); have NC := mkA (show gb ≠ gc by have h1 := gcl.out; have h2 := GE.out; omega); have hne3 := NT.out; have hne4 : gt ≠ gc := fun e => NT.out e.symm; have hne5 := NC.out; have hne6 : gc ≠ gb := fun e => NC.out e.symm; have c0 : w4.cell? ⟨gc, 0, none⟩ = some (.int .i64 pv) := (blk_cell BC.out 0).trans rfl; have cf := blk_frozen BC.out 0; obtain ⟨hz0, hz1, hz2, hz3, hf0, hf1, hf2, hf3⟩ := tkz BK.out; obtain ⟨tz0, tz1, tz2, tz3, tf0, tf1, tf2, tf3⟩ := tkz BT.out))
  refine bodyPost_ret (results_ct rfl _ _ gb 63 #[.int .i64 k, .int .i64 a, .int .i64 z, .string v] (0, 0) _ rfl (by refine blk_put (cs := #[.int .i64 k, .int .i64 a, .int .i64 z, .string ⟨#[]⟩]) ?_ 3 _ rfl; refine blk_put (cs := #[.int .i64 k, .int .i64 a, .int .i64 0, .string ⟨#[]⟩]) ?_ 2 _ rfl; refine blk_put (cs := #[.int .i64 k, .int .i64 0, .int .i64 0, .string ⟨#[]⟩]) ?_ 1 _ rfl; refine blk_put (cs := #[.int .i64 0, .int .i64 0, .int .i64 0, .string ⟨#[]⟩]) ?_ 0 _ rfl; refine blk_far ?_ NC.out _; refine blk_far ?_ NE.out _; refine blk_far ?_ NE.out _; refine blk_far ?_ NE.out _; refine blk_far ?_ NE.out _; exact BK.out) Tryz.underlying63 rfl (by kernel_rfl)) rfl ?_
  refine ⟨rfl, ?_, ?_, ?_⟩
  ·refine blk_far ?_ (Ne.symm NC.out) _; refine blk_far ?_ (Ne.symm NC.out) _; refine blk_far ?_ (Ne.symm NC.out) _; refine blk_far ?_ (Ne.symm NC.out) _; refine blk_put (cs := #[.int .i64 pv]) ?_ 0 _ rfl; refine blk_far ?_ NT.out _; refine blk_far ?_ NT.out _; refine blk_far ?_ NT.out _; refine blk_far ?_ NT.out _; exact BC.out
  ·have h := HB.out.mono HL.out.2
   have hgb := Nat.le_trans HL.out.2 GE.out
   have hgt := Nat.le_trans HL.out.2 GT.out
   exact ((((((((h.setCell (p := ⟨gt, _, none⟩) hgt _).setCell (p := ⟨gt, _, none⟩) hgt _).setCell (p := ⟨gt, _, none⟩) hgt _).setCell (p := ⟨gt, _, none⟩) hgt _).setCell (p := ⟨gc, _, none⟩) HL.out.1 _).setCell (p := ⟨gb, _, none⟩) hgb _).setCell (p := ⟨gb, _, none⟩) hgb _).setCell (p := ⟨gb, _, none⟩) hgb _).setCell (p := ⟨gb, _, none⟩) hgb _
  ·exact keep_setf (keep_setf (keep_setf (keep_setf (KeepBut.set_ (keep_setf (keep_setf (keep_setf (keep_setf (KeepBut.of_below HB.out gc none) GT.out) GT.out) GT.out) GT.out) 0 _) GE.out) GE.out) GE.out) GE.out
theorem lexfn_err {w : World} {gc gs g : Nat} {pv r pos : Int} (h1 : w.heap[gc]? = some (.cells #[.int .i64 pv] 3 (0, 0))) (h2 : w.heap[gs]? = some (.cells #[.pointer (some ⟨g, 0, none⟩)] 66 (0, 0)))
 (hr : ((r == 0) = true ∧ pv = pos) ∨ ((r == 0) = false ∧ r = pos))
 (hC : ∀ W, Below w.heap.size w W → Calls Tryz.prog 99 #[.pointer (some ⟨g, 0, none⟩), .int .i64 pos] W fun e W' => (∃ (k a z : Int) (v : ByteArray) (te : TypeId) (x : Value), e = .returned (.tuple #[.agg #[.int .i64 k, .int .i64 a, .int .i64 z, .string v], .iface te x])) ∧ Below W.heap.size W W') :
 Calls Tryz.prog 98 #[.int .i64 r, .pointer (some ⟨gc, 0, none⟩), .pointer (some ⟨gs, 0, none⟩)] w fun e w' => (∃ (k a z : Int) (v : ByteArray) (te : TypeId) (x : Value), e = .returned (.tuple #[.agg #[.int .i64 k, .int .i64 a, .int .i64 z, .string v], .iface te x])) ∧ Below w.heap.size w w' := by
 have HC := mkA hC
 have BC := mkA h1
 have BS := mkA h2
 have HB := mkA (Below.refl w.heap.size w)
 clear hC h1 h2
 rcases hr with ⟨q0, hp⟩ | ⟨q0, hp⟩ <;> rw [← hp] at HC <;> clear hp
 all_goals
  go_enter Tryz.func98, Tryz.ntmps98
  go_wp2_with (first
   | ((with_reducible refine gate_dst (N := 4) rfl ?_); refine box_event ?hg (N := 4) ?hd (cs := #[.int .i64 0, .int .i64 0, .int .i64 0, .string ⟨#[]⟩]) (t := 63) ?hr ?_; (case hd => rfl); (case hg => rfl); (case hr => first | (go_simp; done) | (go_simp; rfl)); intro gb hg w2 hbox hb; have n0_ := mkA (below_step HB.out hb); have GE := mkA ((by rw [hg]; exact below_size HB.out : w.heap.size ≤ gb)); have n1_ := mkA (blk_below BC.out hb); have n2_ := mkA (blk_below BS.out hb); clear HB BC BS; have HB := n0_; have BC := n1_; have BS := n2_; have BK := mkA hbox; clear n0_ n1_ n2_ hb hbox hg; have hc0 : w2.cell? ⟨gc, 0, none⟩ = some (.int .i64 pv) := (blk_cell BC.out 0).trans rfl; have hs0 : w2.cell? ⟨gs, 0, none⟩ = some (.pointer (some ⟨g, 0, none⟩)) := (blk_cell BS.out 0).trans rfl)
   | (go_at_call 99; (with_reducible refine (HC.out _ HB.out).mono ?_); rintro e w3 ⟨⟨k, a, z, v, te, x, rfl⟩, hB⟩; have n0_ := mkA (below_step HB.out hB); have n1_ := mkA (blk_below BK.out hB); clear HB BC BS BK hB; have HB := n0_; have BK := n1_; clear n0_ n1_)
   | ((with_reducible refine gate_dst (N := 6) rfl ?_); refine box_event ?hg (N := 6) ?hd (cs := #[.int .i64 0, .int .i64 0, .int .i64 0, .string ⟨#[]⟩]) (t := 63) ?hr ?_; (case hd => rfl); (case hg => rfl); (case hr => first | (go_simp; done) | (go_simp; rfl)); intro gt hg w4 hbox hb; have n0_ := mkA (below_step HB.out hb); have GT := mkA ((by rw [hg]; exact below_size HB.out : w.heap.size ≤ gt)); have NE := mkA ((by rw [hg]; exact Nat.ne_of_lt (blk_lt BK.out)) : gb ≠ gt); have n2_ := mkA (blk_below BK.out hb); clear HB BK; have HB := n0_; have BK := n2_; have BT := mkA hbox; clear n0_ n2_ hb hbox hg; have hne1 := NE.out; have hne2 : gt ≠ gb := fun e => NE.out e.symm; obtain ⟨hz0, hz1, hz2, hz3, hf0, hf1, hf2, hf3⟩ := tkz BK.out; obtain ⟨tz0, tz1, tz2, tz3, tf0, tf1, tf2, tf3⟩ := tkz BT.out))
  refine bodyPost_ret (results_ct rfl _ _ gb 63 #[.int .i64 k, .int .i64 a, .int .i64 z, .string v] (0, 0) _ rfl (by refine blk_put (cs := #[.int .i64 k, .int .i64 a, .int .i64 z, .string ⟨#[]⟩]) ?_ 3 _ rfl; refine blk_put (cs := #[.int .i64 k, .int .i64 a, .int .i64 0, .string ⟨#[]⟩]) ?_ 2 _ rfl; refine blk_put (cs := #[.int .i64 k, .int .i64 0, .int .i64 0, .string ⟨#[]⟩]) ?_ 1 _ rfl; refine blk_put (cs := #[.int .i64 0, .int .i64 0, .int .i64 0, .string ⟨#[]⟩]) ?_ 0 _ rfl; refine blk_far ?_ NE.out _; refine blk_far ?_ NE.out _; refine blk_far ?_ NE.out _; refine blk_far ?_ NE.out _; exact BK.out) Tryz.underlying63 rfl (by kernel_rfl)) rfl ?_
  exact ⟨⟨k, a, z, v, te, x, rfl⟩, below_set (below_set (below_set (below_set (below_set (below_set (below_set (below_set HB.out GT.out) GT.out) GT.out) GT.out) GE.out) GE.out) GE.out) GE.out⟩
def Psr (w : World) (B gp gc gs g : Nat) (pe z : Int) (k a y : Int) (v : ByteArray) : Prop := (w.heap[gp]? = some (.cells #[lexf gc gs, .pointer (some ⟨g, 0, none⟩), .bool false, .bool false, .int .i64 pe, .int .i64 k, .int .i64 a, .int .i64 y, .string v] 70 (0, 0)) ∧ w.heap[gc]? = some (.cells #[.int .i64 z] 3 (0, 0)) ∧ w.heap[gs]? = some (.cells #[.pointer (some ⟨g, 0, none⟩)] 66 (0, 0))) ∧ (B ≤ gp ∧ B ≤ gc ∧ B ≤ gs) ∧ gc ≠ gs ∧ gp ≠ gc ∧ gp ≠ gs
def Kp (w W : World) (a b : Nat) : Prop := w.heap.size ≤ W.heap.size ∧ ∀ i, i < w.heap.size → i ≠ a → i ≠ b → W.heap[i]? = w.heap[i]?
theorem gsz {w : World} {p : Addr} {u : Value} : (w.setCell p u).heap.size = w.heap.size := by
 refine Nat.le_antisymm ?_ ((Below.refl 0 w).setCell (p := p) (Nat.zero_le _) u).size
 unfold World.setCell
 repeat' split
 all_goals simp
theorem adv_ok {w : World} {B gp gc gs g : Nat} {pe z k a y k2 a2 y2 : Int} {v v2 : ByteArray} (h : Psr w B gp gc gs g pe z k a y v) (hB : B ≤ w.heap.size) (hy : (y == 0) = false)
 (hC : ∀ W, Below B w W → Calls Tryz.prog 99 #[.pointer (some ⟨g, 0, none⟩), .int .i64 y] W fun e W' => e = .returned (.tuple #[.agg #[.int .i64 k2, .int .i64 a2, .int .i64 y2, .string v2], .nilIface]) ∧ Below W.heap.size W W') :
 Calls Tryz.prog 100 #[.pointer (some ⟨gp, 0, none⟩)] w fun e w' => e = .returned .nilIface ∧ Psr w' B gp gc gs g y y2 k2 a2 y2 v2 ∧ Below B w w' ∧ Kp w w' gp gc := by
 obtain ⟨⟨h1, h2, h3⟩, ⟨l1, l2, l3⟩, n1, n2, n3⟩ := h
 have HC := mkA hC
 have BP := mkA h1
 have BC := mkA h2
 have BS := mkA h3
 have HL := mkA (And.intro l1 (And.intro l2 l3))
 have HN := mkA (And.intro n1 (And.intro n2 n3))
 have HBL := mkA hB
 have HY := mkA hy
 have c7 : w.cell? ⟨gp, 7, none⟩ = some (.int .i64 y) := (blk_cell h1 7).trans rfl
 have c4 : w.cell? ⟨gp, 4, none⟩ = some (.int .i64 pe) := (blk_cell h1 4).trans rfl
 have f4 := blk_frozen h1 4
 clear hC h1 h2 h3 l1 l2 l3 n1 n2 n3 hB hy
 go_enter Tryz.func100, Tryz.ntmps100
 go_upto_region 2 with (fail)
 have BP1 := mkA (blk_put (cs := #[lexf gc gs, .pointer (some ⟨g, 0, none⟩), .bool false, .bool false, .int .i64 pe, .int .i64 k, .int .i64 a, .int .i64 y, .string v]) BP.out 4 (.int .i64 y) rfl)
 have BC1 := mkA (blk_far (p := ⟨gp, 4, none⟩) BC.out (Ne.symm HN.out.2.1) (.int .i64 y))
 have BS1 := mkA (blk_far (p := ⟨gp, 4, none⟩) BS.out (Ne.symm HN.out.2.2) (.int .i64 y))
 have HB1 := mkA ((Below.refl B w).setCell (p := ⟨gp, 4, none⟩) HL.out.1 (.int .i64 y))
 have SZ := mkA (gsz (w := w) (p := ⟨gp, 4, none⟩) (u := .int .i64 y))
 have KP1 := mkA (show Kp w (w.setCell ⟨gp, 4, none⟩ (.int .i64 y)) gp gc from ⟨Nat.le_of_eq gsz.symm, fun i hi ha hb => Below.heap_setCell _ _ _ _ (show i ≠ gp from ha)⟩)
 clear c7 c4 f4 BP BC BS
 obtain ⟨w1, hw1⟩ : ∃ w1, w1 = w.setCell ⟨gp, 4, none⟩ (.int .i64 y) := ⟨_, rfl⟩
 rw [← hw1] at BP1 BC1 BS1 HB1 SZ KP1
 rw [← hw1]
 clear hw1
 have HBL1 := mkA (show B ≤ w1.heap.size from Nat.le_trans HBL.out (Nat.le_of_eq SZ.out.symm))
 have cL := mkA (fun (W : World) (hW : Below w1.heap.size w1 W) => (show Calls Tryz.prog 98 #[.int .i64 y, .pointer (some ⟨gc, 0, none⟩), .pointer (some ⟨gs, 0, none⟩)] W fun e w' => e = .returned (.tuple #[.agg #[.int .i64 k2, .int .i64 a2, .int .i64 y2, .string v2], .nilIface]) ∧ w'.heap[gc]? = some (.cells #[.int .i64 y2] 3 (0, 0)) ∧ Below B w1 w' ∧ KeepBut w1 w' gc none ∧ (∀ (g' : Nat) (o : Obj), W.heap[g']? = some o → g' ≠ gc → w'.heap[g']? = some o) from
  (lexfn_walk (B := B) (r := y) (pos := y) HL.out.2.1 (Nat.le_trans HBL1.out hW.size) (blk_below BC1.out hW) (blk_below BS1.out hW) HN.out.1 (.inr ⟨HY.out, rfl⟩) (fun W' hW' => HC.out W' ((HB1.out.trans (hW.mono HBL1.out)).trans (hW'.mono (Nat.le_trans HBL1.out hW.size))))).mono fun e w' h => ⟨h.1, h.2.1, (hW.mono HBL1.out).trans h.2.2.1, (KeepBut.of_below hW gc none).trans h.2.2.2 (.inl rfl), fun g' o hg hne => h.2.2.2.blk hg hne (by simp)⟩))
 have d0 : w1.cell? ⟨gp, 0, none⟩ = some (.func (.func 98) #[] #[.pointer (some ⟨gc, 0, none⟩), .pointer (some ⟨gs, 0, none⟩)]) := (blk_cell BP1.out 0).trans rfl
 have d4 : w1.cell? ⟨gp, 4, none⟩ = some (.int .i64 y) := (blk_cell BP1.out 4).trans rfl
 have e0 : ∀ o, (w1.alloc o).cell? ⟨gp, 0, none⟩ = some (.func (.func 98) #[] #[.pointer (some ⟨gc, 0, none⟩), .pointer (some ⟨gs, 0, none⟩)]) := fun o => ((below_alloc (Below.refl w1.heap.size w1) o).cell (World.block_lt_of_cell? w1 _ d0)).trans d0
 have e4 : ∀ o, (w1.alloc o).cell? ⟨gp, 4, none⟩ = some (.int .i64 y) := fun o => ((below_alloc (Below.refl w1.heap.size w1) o).cell (World.block_lt_of_cell? w1 _ d4)).trans d4
 have NG := mkA (show w1.heap.size ≠ gc from Nat.ne_of_gt (blk_lt BC1.out))
 go_cut [3, 4] (fun v3 v4 wc => ∃ gt : Nat, v3 = .pointer (some ⟨gt, 0, none⟩) ∧ v4 = .nilIface ∧ Aside0 (wc.heap[gt]? = some (.cells #[.int .i64 k2, .int .i64 a2, .int .i64 y2, .string v2] 63 (0, 0))) ∧ Aside0 (wc.heap[gc]? = some (.cells #[.int .i64 y2] 3 (0, 0))) ∧ Aside0 (w1.heap.size ≤ gt) ∧ Aside0 (Below B w1 wc) ∧ Aside0 (KeepBut w1 wc gc none))
 case first =>
  go_region_with (first | (go_at_call 98; refine (cL.out _ ?_).mono ?_; (first | exact below_drew1 (below_alloc (Below.refl w1.heap.size w1) _) | exact below_alloc (below_drew1 (Below.refl w1.heap.size w1)) _ | exact below_drew1 (Below.refl w1.heap.size w1) | exact below_alloc (Below.refl w1.heap.size w1) _ | exact Below.refl w1.heap.size w1); rintro e w4 ⟨rfl, q1, q2, q3, q4⟩; have Q1 := mkA q1; have Q2 := mkA q2; have Q3 := mkA q3; have Q4 := mkA q4; clear q1 q2 q3 q4; (try (have bx := mkA (Q4.out w1.heap.size _ (heap_alloc_new w1 _) NG.out); have tz0 := (blk_cell bx.out 0).trans rfl; have tz1 := (blk_cell bx.out 1).trans rfl; have tz2 := (blk_cell bx.out 2).trans rfl; have tz3 := (blk_cell bx.out 3).trans rfl; have tf0 := blk_frozen bx.out 0; have tf1 := blk_frozen bx.out 1; have tf2 := blk_frozen bx.out 2; have tf3 := blk_frozen bx.out 3))))
  all_goals (try go_wp2)
  all_goals go_meet
  all_goals first
   | (have hbx := bx.out; exact ⟨w1.heap.size, rfl, rfl, ⟨by exact tkp bx.out⟩, ⟨by refine blk_far ?_ (Ne.symm NG.out) _; refine blk_far ?_ (Ne.symm NG.out) _; refine blk_far ?_ (Ne.symm NG.out) _; refine blk_far ?_ (Ne.symm NG.out) _; exact Q1.out⟩, ⟨Nat.le_refl _⟩, ⟨(((Q2.out.setCell (p := ⟨w1.heap.size, _, none⟩) HBL1.out _).setCell (p := ⟨w1.heap.size, _, none⟩) HBL1.out _).setCell (p := ⟨w1.heap.size, _, none⟩) HBL1.out _).setCell (p := ⟨w1.heap.size, _, none⟩) HBL1.out _⟩, ⟨keep_setf (keep_setf (keep_setf (keep_setf Q3.out (Nat.le_refl _)) (Nat.le_refl _)) (Nat.le_refl _)) (Nat.le_refl _)⟩⟩)
   | exact ⟨w4.heap.size, rfl, rfl, ⟨heap_alloc_new w4 _⟩, ⟨blk_below Q1.out (below_alloc (Below.refl _ _) _)⟩, ⟨Q3.out.1⟩, ⟨Q2.out.alloc (Nat.le_trans HBL1.out Q3.out.1) _⟩, ⟨keep_alloc Q3.out _⟩⟩
 case rest =>
  obtain ⟨gt, rfl, rfl, BT, BCc, GT, HBc, KB⟩ := hcut
  have NP := mkA (show gt ≠ gp from Nat.ne_of_gt (Nat.lt_of_lt_of_le (blk_lt BP1.out) GT.out))
  have BPc := mkA (KB.out.blk BP1.out HN.out.2.1 (by simp))
  have BSc := mkA (KB.out.blk BS1.out (Ne.symm HN.out.1) (by simp))
  obtain ⟨x0, x1, x2, x3⟩ := tks BT.out
  have y5 : wc.cell? ⟨gp, 5, none⟩ = some (.int .i64 k) := (blk_cell BPc.out 5).trans rfl
  have y6 : wc.cell? ⟨gp, 6, none⟩ = some (.int .i64 a) := (blk_cell BPc.out 6).trans rfl
  have y7 : wc.cell? ⟨gp, 7, none⟩ = some (.int .i64 y) := (blk_cell BPc.out 7).trans rfl
  have y8 : wc.cell? ⟨gp, 8, none⟩ = some (.string v) := (blk_cell BPc.out 8).trans rfl
  have f5 := blk_frozen BPc.out 5
  have f6 := blk_frozen BPc.out 6
  have f7 := blk_frozen BPc.out 7
  have f8 := blk_frozen BPc.out 8
  clear d0 d4 e0 e4
  go_wp2
  go_ret
  refine ⟨rfl, ⟨⟨?_, ?_, ?_⟩, ⟨HL.out.1, HL.out.2.1, HL.out.2.2⟩, HN.out.1, HN.out.2.1, HN.out.2.2⟩, ?_, ?_⟩
  ·refine blk_put (cs := #[lexf gc gs, .pointer (some ⟨g, 0, none⟩), .bool false, .bool false, .int .i64 y, .int .i64 k2, .int .i64 a2, .int .i64 y2, .string v]) ?_ 8 _ rfl
   refine blk_put (cs := #[lexf gc gs, .pointer (some ⟨g, 0, none⟩), .bool false, .bool false, .int .i64 y, .int .i64 k2, .int .i64 a2, .int .i64 y, .string v]) ?_ 7 _ rfl
   refine blk_put (cs := #[lexf gc gs, .pointer (some ⟨g, 0, none⟩), .bool false, .bool false, .int .i64 y, .int .i64 k2, .int .i64 a, .int .i64 y, .string v]) ?_ 6 _ rfl
   refine blk_put (cs := #[lexf gc gs, .pointer (some ⟨g, 0, none⟩), .bool false, .bool false, .int .i64 y, .int .i64 k, .int .i64 a, .int .i64 y, .string v]) ?_ 5 _ rfl
   exact BPc.out
  ·refine blk_far ?_ (Ne.symm HN.out.2.1) _
   refine blk_far ?_ (Ne.symm HN.out.2.1) _
   refine blk_far ?_ (Ne.symm HN.out.2.1) _
   refine blk_far ?_ (Ne.symm HN.out.2.1) _
   exact BCc.out
  ·refine blk_far ?_ (Ne.symm HN.out.2.2) _
   refine blk_far ?_ (Ne.symm HN.out.2.2) _
   refine blk_far ?_ (Ne.symm HN.out.2.2) _
   refine blk_far ?_ (Ne.symm HN.out.2.2) _
   exact BSc.out
  ·exact ((((HB1.out.trans HBc.out).setCell (p := ⟨gp, _, none⟩) HL.out.1 _).setCell (p := ⟨gp, _, none⟩) HL.out.1 _).setCell (p := ⟨gp, _, none⟩) HL.out.1 _).setCell (p := ⟨gp, _, none⟩) HL.out.1 _
  ·refine ⟨by simp only [gsz]; exact Nat.le_trans KP1.out.1 KB.out.1, fun i hi h1 h2 => ?_⟩
   rw [Below.heap_setCell _ _ _ _ (show i ≠ gp from h1), Below.heap_setCell _ _ _ _ (show i ≠ gp from h1), Below.heap_setCell _ _ _ _ (show i ≠ gp from h1), Below.heap_setCell _ _ _ _ (show i ≠ gp from h1), KB.out.2 i (Nat.lt_of_lt_of_le hi KP1.out.1) h2 (by simp), KP1.out.2 i hi h1 h2]
theorem adv_err {w : World} {B gp gc gs g : Nat} {pe z k a y : Int} {v : ByteArray} (h : Psr w B gp gc gs g pe z k a y v) (hB : B ≤ w.heap.size) (hy : (y == 0) = false)
 (hC : ∀ W, Below B w W → Calls Tryz.prog 99 #[.pointer (some ⟨g, 0, none⟩), .int .i64 y] W fun e W' => (∃ (k a z : Int) (v : ByteArray) (te : TypeId) (x : Value), e = .returned (.tuple #[.agg #[.int .i64 k, .int .i64 a, .int .i64 z, .string v], .iface te x])) ∧ Below W.heap.size W W') :
 Calls Tryz.prog 100 #[.pointer (some ⟨gp, 0, none⟩)] w fun e w' => (∃ (te : TypeId) (x : Value), e = .returned (.iface te x)) ∧ w'.heap[gp]? = some (.cells #[lexf gc gs, .pointer (some ⟨g, 0, none⟩), .bool false, .bool false, .int .i64 y, .int .i64 k, .int .i64 a, .int .i64 y, .string v] 70 (0, 0)) ∧ Below B w w' ∧ Kp w w' gp gc := by
 obtain ⟨⟨h1, h2, h3⟩, ⟨l1, l2, l3⟩, n1, n2, n3⟩ := h
 have HC := mkA hC
 have BP := mkA h1
 have BC := mkA h2
 have BS := mkA h3
 have HL := mkA (And.intro l1 (And.intro l2 l3))
 have HN := mkA (And.intro n1 (And.intro n2 n3))
 have HBL := mkA hB
 have HY := mkA hy
 have c7 : w.cell? ⟨gp, 7, none⟩ = some (.int .i64 y) := (blk_cell h1 7).trans rfl
 have c4 : w.cell? ⟨gp, 4, none⟩ = some (.int .i64 pe) := (blk_cell h1 4).trans rfl
 have f4 := blk_frozen h1 4
 clear hC h1 h2 h3 l1 l2 l3 n1 n2 n3 hB hy
 go_enter Tryz.func100, Tryz.ntmps100
 go_upto_region 2 with (fail)
 have BP1 := mkA (blk_put (cs := #[lexf gc gs, .pointer (some ⟨g, 0, none⟩), .bool false, .bool false, .int .i64 pe, .int .i64 k, .int .i64 a, .int .i64 y, .string v]) BP.out 4 (.int .i64 y) rfl)
 have BC1 := mkA (blk_far (p := ⟨gp, 4, none⟩) BC.out (Ne.symm HN.out.2.1) (.int .i64 y))
 have BS1 := mkA (blk_far (p := ⟨gp, 4, none⟩) BS.out (Ne.symm HN.out.2.2) (.int .i64 y))
 have HB1 := mkA ((Below.refl B w).setCell (p := ⟨gp, 4, none⟩) HL.out.1 (.int .i64 y))
 have SZ := mkA (gsz (w := w) (p := ⟨gp, 4, none⟩) (u := .int .i64 y))
 have KP1 := mkA (show Kp w (w.setCell ⟨gp, 4, none⟩ (.int .i64 y)) gp gc from ⟨Nat.le_of_eq gsz.symm, fun i hi ha hb => Below.heap_setCell _ _ _ _ (show i ≠ gp from ha)⟩)
 clear c7 c4 f4 BP BC BS
 obtain ⟨w1, hw1⟩ : ∃ w1, w1 = w.setCell ⟨gp, 4, none⟩ (.int .i64 y) := ⟨_, rfl⟩
 rw [← hw1] at BP1 BC1 BS1 HB1 SZ KP1
 rw [← hw1]
 clear hw1
 have HBL1 := mkA (show B ≤ w1.heap.size from Nat.le_trans HBL.out (Nat.le_of_eq SZ.out.symm))
 have cL := mkA (fun (W : World) (hW : Below w1.heap.size w1 W) => (show Calls Tryz.prog 98 #[.int .i64 y, .pointer (some ⟨gc, 0, none⟩), .pointer (some ⟨gs, 0, none⟩)] W fun e w' => (∃ (k a z : Int) (v : ByteArray) (te : TypeId) (x : Value), e = .returned (.tuple #[.agg #[.int .i64 k, .int .i64 a, .int .i64 z, .string v], .iface te x])) ∧ Below w1.heap.size w1 w' ∧ (∀ (g' : Nat) (o : Obj), W.heap[g']? = some o → w'.heap[g']? = some o) from
  (lexfn_err (r := y) (pos := y) (blk_below BC1.out hW) (blk_below BS1.out hW) (.inr ⟨HY.out, rfl⟩) (fun W' hW' => HC.out W' ((HB1.out.trans (hW.mono HBL1.out)).trans (hW'.mono (Nat.le_trans HBL1.out hW.size))))).mono fun e w' h => ⟨h.1, below_step hW h.2, fun g' o hg => blk_below hg h.2⟩))
 have d0 : w1.cell? ⟨gp, 0, none⟩ = some (.func (.func 98) #[] #[.pointer (some ⟨gc, 0, none⟩), .pointer (some ⟨gs, 0, none⟩)]) := (blk_cell BP1.out 0).trans rfl
 have d4 : w1.cell? ⟨gp, 4, none⟩ = some (.int .i64 y) := (blk_cell BP1.out 4).trans rfl
 have e0 : ∀ o, (w1.alloc o).cell? ⟨gp, 0, none⟩ = some (.func (.func 98) #[] #[.pointer (some ⟨gc, 0, none⟩), .pointer (some ⟨gs, 0, none⟩)]) := fun o => ((below_alloc (Below.refl w1.heap.size w1) o).cell (World.block_lt_of_cell? w1 _ d0)).trans d0
 have e4 : ∀ o, (w1.alloc o).cell? ⟨gp, 4, none⟩ = some (.int .i64 y) := fun o => ((below_alloc (Below.refl w1.heap.size w1) o).cell (World.block_lt_of_cell? w1 _ d4)).trans d4
 go_cut [4] (fun v4 wc => ∃ (te : TypeId) (x : Value), v4 = .iface te x ∧ Aside0 (Below w1.heap.size w1 wc))
 case first =>
  go_region_with (first | (go_at_call 98; refine (cL.out _ ?_).mono ?_; (first | exact below_drew1 (below_alloc (Below.refl w1.heap.size w1) _) | exact below_alloc (below_drew1 (Below.refl w1.heap.size w1)) _ | exact below_drew1 (Below.refl w1.heap.size w1) | exact below_alloc (Below.refl w1.heap.size w1) _ | exact Below.refl w1.heap.size w1); rintro e w4 ⟨⟨k2, a2, y2, v2, te, x, rfl⟩, q2, q4⟩; have Q2 := mkA q2; have Q4 := mkA q4; clear q2 q4; (try (have bx := mkA (Q4.out w1.heap.size _ (heap_alloc_new w1 _)); have tz0 := (blk_cell bx.out 0).trans rfl; have tz1 := (blk_cell bx.out 1).trans rfl; have tz2 := (blk_cell bx.out 2).trans rfl; have tz3 := (blk_cell bx.out 3).trans rfl; have tf0 := blk_frozen bx.out 0; have tf1 := blk_frozen bx.out 1; have tf2 := blk_frozen bx.out 2; have tf3 := blk_frozen bx.out 3))))
  all_goals (try go_wp2)
  all_goals go_meet
  all_goals first
   | exact ⟨te, x, rfl, ⟨below_set (below_set (below_set (below_set Q2.out (Nat.le_refl _)) (Nat.le_refl _)) (Nat.le_refl _)) (Nat.le_refl _)⟩⟩
   | exact ⟨te, x, rfl, ⟨below_alloc Q2.out _⟩⟩
 case rest =>
  obtain ⟨te, x, rfl, HBc⟩ := hcut
  have BPc := mkA (blk_below BP1.out HBc.out)
  clear d0 d4 e0 e4
  go_wp2
  go_ret
  refine ⟨⟨te, x, rfl⟩, BPc.out, HB1.out.trans (HBc.out.mono HBL1.out), ⟨Nat.le_trans KP1.out.1 HBc.out.size, fun i hi h1 h2 => ?_⟩⟩
  rw [HBc.out.block i (Nat.lt_of_lt_of_le hi KP1.out.1), KP1.out.2 i hi h1 h2]
def BVal (x : List UInt8) (v : ByteArray) : Prop := ∀ w : World, Calls Tryz.prog 148 #[.string ⟨x.toArray⟩] w fun e w' => e = .returned (.string v) ∧ Below w.heap.size w w'
structure Cx where
 s : ByteArray
 gp : Nat
 gc : Nat
 gs : Nat
 g : Nat
 b : Nat
 cap : Nat
 lo : Nat
def RdP (w : World) (l : List Tk) (e : Ending) (w' : World) : Prop :=
 (match l with
 | [] => ∃ (k a z : Int) (v : ByteArray) (te : TypeId) (x : Value), e = .returned (.tuple #[.agg #[.int .i64 k, .int .i64 a, .int .i64 z, .string v], .iface te x])
 | t :: _ => e = .returned (.tuple #[.agg #[.int .i64 t.k, .int .i64 t.a, .int .i64 t.z, .string t.v], .nilIface])) ∧ Below w.heap.size w w'
def RTok (C : Cx) : Prop := ∀ (p : Nat) (l : List Tk), Lexes BVal C.s p l → ∀ w, Src w C.g C.b C.cap C.s → Calls Tryz.prog 99 #[ptr C.g, .int .i64 p] w (RdP w l)
structure Cx.Ok (C : Cx) : Prop where
 hb : C.b < C.gs
 hg : C.g < C.gs
 sc : C.gs < C.gc
 cp : C.gc < C.gp
 pl : C.gp < C.lo
 tw : 2 ≤ C.gs
 rt : RTok C
def PB (C : Cx) (w : World) : Prop := ∃ (pe k a z : Int) (v : ByteArray), w.heap[C.gp]? = some (.cells #[lexf C.gc C.gs, ptr C.g, .bool false, .bool false, .int .i64 pe, .int .i64 k, .int .i64 a, .int .i64 z, .string v] 70 (0, 0))
structure PS (C : Cx) (w : World) (t : Tk) (r : List Tk) : Prop where
 ok : C.Ok
 par : ∃ pe : Int, w.heap[C.gp]? = some (.cells #[lexf C.gc C.gs, ptr C.g, .bool false, .bool false, .int .i64 pe, .int .i64 t.k, .int .i64 t.a, .int .i64 t.z, .string t.v] 70 (0, 0))
 cel : ∃ pv : Int, w.heap[C.gc]? = some (.cells #[.int .i64 pv] 3 (0, 0))
 sou : w.heap[C.gs]? = some (.cells #[ptr C.g] 66 (0, 0))
 src : Src w C.g C.b C.cap C.s
 lo : C.lo ≤ w.heap.size
 pla : ∃ i : Nat, t.a = i ∧ i ≤ C.s.size
 nxt : (t.k = 1 ∧ r = [] ∧ t.v = e0) ∨ (t.k ≠ 1 ∧ ∃ z : Nat, t.z = z ∧ 0 < z ∧ Lexes BVal C.s z r)
abbrev FrC (C : Cx) (w w' : World) : Prop := Fr C.gp C.gc w w'
theorem Src.fr {w w' : World} {x y g b cap : Nat} {s : ByteArray} (h : Src w g b cap s) (hf : Fr x y w w') (h1 : g ≠ x) (h2 : g ≠ y) (h3 : b ≠ x) (h4 : b ≠ y) (h0 : ∀ G : World → Prop, True) (hG : Glob w') : Src w' g b cap s := by
 have hk : ∀ (a : Addr), a.block < w.heap.size → a.block ≠ x → a.block ≠ y → w'.cell? a = w.cell? a := fun a ha hx hy => World.cell?_of_block (hf.block a.block ha hx hy)
 refine ⟨?_, fun j hj => ?_, h.cap, h.small, hG⟩
 ·rw [hk _ (World.block_lt_of_cell? w _ h.body) h1 h2]; exact h.body
 ·rw [hk _ (World.block_lt_of_cell? w _ (h.bytes j hj)) h3 h4]; exact h.bytes j hj
end Go.Proofs.YthgcghpcikbnkaaGreatDoor.R
