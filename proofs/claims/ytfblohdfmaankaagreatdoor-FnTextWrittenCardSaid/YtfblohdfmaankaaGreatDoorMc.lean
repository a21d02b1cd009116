/- FnTextWritten: several texts in one, in build order. FnTextWritten: the parser's advance, walked. Conditions: a parser in the world; what readToken hands back at the token's end. | FnTextWritten: the parser's parseStringLiteral, walked. Conditions: a parser in the world at a string's token; what readToken hands back at the token's end. | FnTextWritten: the parser's parseValueLiteral at a string, walked. Conditions: a parser in the world at a string's token; what readToken hands back at the token's end. | FnTextWritten: the parser's ParseValue of a text that is one string, walked. Conditions: Go's tables of UTF-8 lie in the world; what readToken hands back of the text. | FnTextWritten: the taker's put of one node, walked. Condition: a fresh taker, the node's place in the world. | FnTextWritten: the taker's value of a string, and the thin package's ParseValue of a text that is one string, walked. Conditions: Go's tables of UTF-8 lie in the world; what readToken hands back of the text. -/
import Derived.Test.YtfblohdfmaankaaGreatDoorMb
import Derived.Test.YtfblohdfmaankaaGreatDoorMa
import Derived.Deep.RegionWith
import Derived.Laws.AppendOwn
import Derived.Deep.AppendLies
namespace Go.Proofs.YtfblohdfmaankaaGreatDoor.PFnTextWritten
open Go.RowKit Go.Proofs.YtfblohdfmaankaaGreatDoorW.PrintWords Go.Proofs.YtfblohdfmaankaaGreatDoorW.PrintLast Go.Proofs.YtfblohdfmaankaaGreatDoorW.PrintMore
set_option linter.unusedVariables false
set_option linter.unusedSimpArgs false
/-- All blocks but two are as they were. -/
def Kp (w W : World) (a b : Nat) : Prop := w.heap.size ≤ W.heap.size ∧ ∀ i, i < w.heap.size → i ≠ a → i ≠ b → W.heap[i]? = w.heap[i]?
theorem gsz {w : World} {p : Addr} {u : Value} : (w.setCell p u).heap.size = w.heap.size := by
  refine Nat.le_antisymm ?_ ((Below.refl 0 w).setCell (p := p) (Nat.zero_le _) u).size
  unfold World.setCell
  repeat' split
  all_goals simp
set_option maxHeartbeats 16000000 in
set_option maxRecDepth 100000 in
theorem advance_walk {w : World} {B gp gc gs g : Nat} {pe z k a y k2 a2 y2 : Int} {v v2 : ByteArray} (h : Psr w B gp gc gs g pe z k a y v) (hB : B ≤ w.heap.size) (hy : (y == 0) = false)
    (hC : ∀ W, Below B w W → Calls Tryz.prog 62 #[.pointer (some ⟨g, 0, none⟩), .int .i64 y] W fun e W' => e = .returned (.tuple #[.agg #[.int .i64 k2, .int .i64 a2, .int .i64 y2, .string v2], .nilIface]) ∧ Below W.heap.size W W') :
    Calls Tryz.prog 44 #[.pointer (some ⟨gp, 0, none⟩)] w fun e w' => e = .returned .nilIface ∧ Psr w' B gp gc gs g y y2 k2 a2 y2 v2 ∧ Below B w w' ∧ Kp w w' gp gc := by
  obtain ⟨⟨h1, h2, h3⟩, ⟨l1, l2, l3⟩, n1, n2, n3⟩ := h
  have HC := Aside0.mk hC
  have BP := Aside0.mk h1
  have BC := Aside0.mk h2
  have BS := Aside0.mk h3
  have HL := Aside0.mk (And.intro l1 (And.intro l2 l3))
  have HN := Aside0.mk (And.intro n1 (And.intro n2 n3))
  have HBL := Aside0.mk hB
  have HY := Aside0.mk hy
  have c7 : w.cell? ⟨gp, 7, none⟩ = some (.int .i64 y) := (blk_cell h1 7).trans rfl
  have c4 : w.cell? ⟨gp, 4, none⟩ = some (.int .i64 pe) := (blk_cell h1 4).trans rfl
  have f4 := blk_frozen h1 4
  clear hC h1 h2 h3 l1 l2 l3 n1 n2 n3 hB hy
  go_enter Tryz.func44, Tryz.ntmps44
  go_upto_region 2 with (fail)
  have BP1 := Aside0.mk (blk_put (cs := #[lexf gc gs, .pointer (some ⟨g, 0, none⟩), .bool false, .bool false, .int .i64 pe, .int .i64 k, .int .i64 a, .int .i64 y, .string v]) BP.out 4 (.int .i64 y) rfl)
  have BC1 := Aside0.mk (blk_far (p := ⟨gp, 4, none⟩) BC.out (Ne.symm HN.out.2.1) (.int .i64 y))
  have BS1 := Aside0.mk (blk_far (p := ⟨gp, 4, none⟩) BS.out (Ne.symm HN.out.2.2) (.int .i64 y))
  have HB1 := Aside0.mk ((Below.refl B w).setCell (p := ⟨gp, 4, none⟩) HL.out.1 (.int .i64 y))
  have SZ := Aside0.mk (gsz (w := w) (p := ⟨gp, 4, none⟩) (u := .int .i64 y))
  have KP1 := Aside0.mk (show Kp w (w.setCell ⟨gp, 4, none⟩ (.int .i64 y)) gp gc from ⟨Nat.le_of_eq gsz.symm, fun i hi ha hb => Below.heap_setCell _ _ _ _ (show i ≠ gp from ha)⟩)
  clear c7 c4 f4 BP BC BS
  obtain ⟨w1, hw1⟩ : ∃ w1, w1 = w.setCell ⟨gp, 4, none⟩ (.int .i64 y) := ⟨_, rfl⟩
  rw [← hw1] at BP1 BC1 BS1 HB1 SZ KP1
  rw [← hw1]
  clear hw1
  have HBL1 := Aside0.mk (show B ≤ w1.heap.size from Nat.le_trans HBL.out (Nat.le_of_eq SZ.out.symm))
  have cL := Aside0.mk (fun (W : World) (hW : Below w1.heap.size w1 W) => (show Calls Tryz.prog 61 #[.int .i64 y, .pointer (some ⟨gc, 0, none⟩), .pointer (some ⟨gs, 0, none⟩)] W fun e w' => e = .returned (.tuple #[.agg #[.int .i64 k2, .int .i64 a2, .int .i64 y2, .string v2], .nilIface]) ∧ w'.heap[gc]? = some (.cells #[.int .i64 y2] 3 (0, 0)) ∧ Below B w1 w' ∧ KeepBut w1 w' gc none ∧ (∀ (g' : Nat) (o : Obj), W.heap[g']? = some o → g' ≠ gc → w'.heap[g']? = some o) from
    (lexfn_walk (B := B) (r := y) (pos := y) HL.out.2.1 (Nat.le_trans HBL1.out hW.size) (blk_below BC1.out hW) (blk_below BS1.out hW) HN.out.1 (.inr ⟨HY.out, rfl⟩) (fun W' hW' => HC.out W' ((HB1.out.trans (hW.mono HBL1.out)).trans (hW'.mono (Nat.le_trans HBL1.out hW.size))))).mono fun e w' h => ⟨h.1, h.2.1, (hW.mono HBL1.out).trans h.2.2.1, (KeepBut.of_below hW gc none).trans h.2.2.2 (.inl rfl), fun g' o hg hne => h.2.2.2.blk hg hne (by simp)⟩))
  have d0 : w1.cell? ⟨gp, 0, none⟩ = some (.func (.func 61) #[] #[.pointer (some ⟨gc, 0, none⟩), .pointer (some ⟨gs, 0, none⟩)]) := (blk_cell BP1.out 0).trans rfl
  have d4 : w1.cell? ⟨gp, 4, none⟩ = some (.int .i64 y) := (blk_cell BP1.out 4).trans rfl
  have e0 : ∀ o, (w1.alloc o).cell? ⟨gp, 0, none⟩ = some (.func (.func 61) #[] #[.pointer (some ⟨gc, 0, none⟩), .pointer (some ⟨gs, 0, none⟩)]) := fun o => ((below_alloc (Below.refl w1.heap.size w1) o).cell (World.block_lt_of_cell? w1 _ d0)).trans d0
  have e4 : ∀ o, (w1.alloc o).cell? ⟨gp, 4, none⟩ = some (.int .i64 y) := fun o => ((below_alloc (Below.refl w1.heap.size w1) o).cell (World.block_lt_of_cell? w1 _ d4)).trans d4
  have NG := Aside0.mk (show w1.heap.size ≠ gc from Nat.ne_of_gt (blk_lt BC1.out))
  go_cut [3, 4] (fun v3 v4 wc => ∃ gt : Nat, v3 = .pointer (some ⟨gt, 0, none⟩) ∧ v4 = .nilIface ∧ Aside0 (wc.heap[gt]? = some (.cells #[.int .i64 k2, .int .i64 a2, .int .i64 y2, .string v2] 110 (0, 0))) ∧ Aside0 (wc.heap[gc]? = some (.cells #[.int .i64 y2] 3 (0, 0))) ∧ Aside0 (w1.heap.size ≤ gt) ∧ Aside0 (Below B w1 wc) ∧ Aside0 (KeepBut w1 wc gc none))
  case first =>
    go_region_with (first | (go_at_call 61; refine (cL.out _ ?_).mono ?_; (first | exact below_drew1 (below_alloc (Below.refl w1.heap.size w1) _) | exact below_alloc (below_drew1 (Below.refl w1.heap.size w1)) _ | exact below_drew1 (Below.refl w1.heap.size w1) | exact below_alloc (Below.refl w1.heap.size w1) _ | exact Below.refl w1.heap.size w1); rintro e w4 ⟨rfl, q1, q2, q3, q4⟩; have Q1 := Aside0.mk q1; have Q2 := Aside0.mk q2; have Q3 := Aside0.mk q3; have Q4 := Aside0.mk q4; clear q1 q2 q3 q4; (try (have bx := Aside0.mk (Q4.out w1.heap.size _ (heap_alloc_new w1 _) NG.out); have tz0 := (blk_cell bx.out 0).trans rfl; have tz1 := (blk_cell bx.out 1).trans rfl; have tz2 := (blk_cell bx.out 2).trans rfl; have tz3 := (blk_cell bx.out 3).trans rfl; have tf0 := blk_frozen bx.out 0; have tf1 := blk_frozen bx.out 1; have tf2 := blk_frozen bx.out 2; have tf3 := blk_frozen bx.out 3))))
    all_goals (try go_wp2)
    all_goals go_meet
    all_goals first
      | (have hbx := bx.out; exact ⟨w1.heap.size, rfl, rfl, ⟨by refine blk_put (cs := #[.int .i64 k2, .int .i64 a2, .int .i64 y2, .string ⟨#[]⟩]) ?_ 3 _ rfl; refine blk_put (cs := #[.int .i64 k2, .int .i64 a2, .int .i64 0, .string ⟨#[]⟩]) ?_ 2 _ rfl; refine blk_put (cs := #[.int .i64 k2, .int .i64 0, .int .i64 0, .string ⟨#[]⟩]) ?_ 1 _ rfl; refine blk_put (cs := #[.int .i64 0, .int .i64 0, .int .i64 0, .string ⟨#[]⟩]) ?_ 0 _ rfl; exact bx.out⟩, ⟨by refine blk_far ?_ (Ne.symm NG.out) _; refine blk_far ?_ (Ne.symm NG.out) _; refine blk_far ?_ (Ne.symm NG.out) _; refine blk_far ?_ (Ne.symm NG.out) _; exact Q1.out⟩, ⟨Nat.le_refl _⟩, ⟨(((Q2.out.setCell (p := ⟨w1.heap.size, _, none⟩) HBL1.out _).setCell (p := ⟨w1.heap.size, _, none⟩) HBL1.out _).setCell (p := ⟨w1.heap.size, _, none⟩) HBL1.out _).setCell (p := ⟨w1.heap.size, _, none⟩) HBL1.out _⟩, ⟨keep_setf (keep_setf (keep_setf (keep_setf Q3.out (Nat.le_refl _)) (Nat.le_refl _)) (Nat.le_refl _)) (Nat.le_refl _)⟩⟩)
      | exact ⟨w4.heap.size, rfl, rfl, ⟨heap_alloc_new w4 _⟩, ⟨blk_below Q1.out (below_alloc (Below.refl _ _) _)⟩, ⟨Q3.out.1⟩, ⟨Q2.out.alloc (Nat.le_trans HBL1.out Q3.out.1) _⟩, ⟨keep_alloc Q3.out _⟩⟩
  case rest =>
    obtain ⟨gt, rfl, rfl, BT, BCc, GT, HBc, KB⟩ := hcut
    have NP := Aside0.mk (show gt ≠ gp from Nat.ne_of_gt (Nat.lt_of_lt_of_le (blk_lt BP1.out) GT.out))
    have BPc := Aside0.mk (KB.out.blk BP1.out HN.out.2.1 (by simp))
    have BSc := Aside0.mk (KB.out.blk BS1.out (Ne.symm HN.out.1) (by simp))
    have x0 : wc.cell? ⟨gt, 0, none⟩ = some (.int .i64 k2) := (blk_cell BT.out 0).trans rfl
    have x1 : wc.cell? ⟨gt, 1, none⟩ = some (.int .i64 a2) := (blk_cell BT.out 1).trans rfl
    have x2 : wc.cell? ⟨gt, 2, none⟩ = some (.int .i64 y2) := (blk_cell BT.out 2).trans rfl
    have x3 : wc.cell? ⟨gt, 3, none⟩ = some (.string v2) := (blk_cell BT.out 3).trans rfl
    have y5 : wc.cell? ⟨gp, 5, none⟩ = some (.int .i64 k) := (blk_cell BPc.out 5).trans rfl
    have y6 : wc.cell? ⟨gp, 6, none⟩ = some (.int .i64 a) := (blk_cell BPc.out 6).trans rfl
    have y7 : wc.cell? ⟨gp, 7, none⟩ = some (.int .i64 y) := (blk_cell BPc.out 7).trans rfl
    have y8 : wc.cell? ⟨gp, 8, none⟩ = some (.string v) := (blk_cell BPc.out 8).trans rfl
    have f5 := blk_frozen BPc.out 5
    have f6 := blk_frozen BPc.out 6
    have f7 := blk_frozen BPc.out 7
    have f8 := blk_frozen BPc.out 8
    clear d0 d4 e0 e4
    go_wp2
    go_ret
    refine ⟨rfl, ⟨⟨?_, ?_, ?_⟩, ⟨HL.out.1, HL.out.2.1, HL.out.2.2⟩, HN.out.1, HN.out.2.1, HN.out.2.2⟩, ?_, ?_⟩
    · refine blk_put (cs := #[lexf gc gs, .pointer (some ⟨g, 0, none⟩), .bool false, .bool false, .int .i64 y, .int .i64 k2, .int .i64 a2, .int .i64 y2, .string v]) ?_ 8 _ rfl
      refine blk_put (cs := #[lexf gc gs, .pointer (some ⟨g, 0, none⟩), .bool false, .bool false, .int .i64 y, .int .i64 k2, .int .i64 a2, .int .i64 y, .string v]) ?_ 7 _ rfl
      refine blk_put (cs := #[lexf gc gs, .pointer (some ⟨g, 0, none⟩), .bool false, .bool false, .int .i64 y, .int .i64 k2, .int .i64 a, .int .i64 y, .string v]) ?_ 6 _ rfl
      refine blk_put (cs := #[lexf gc gs, .pointer (some ⟨g, 0, none⟩), .bool false, .bool false, .int .i64 y, .int .i64 k, .int .i64 a, .int .i64 y, .string v]) ?_ 5 _ rfl
      exact BPc.out
    · refine blk_far ?_ (Ne.symm HN.out.2.1) _
      refine blk_far ?_ (Ne.symm HN.out.2.1) _
      refine blk_far ?_ (Ne.symm HN.out.2.1) _
      refine blk_far ?_ (Ne.symm HN.out.2.1) _
      exact BCc.out
    · refine blk_far ?_ (Ne.symm HN.out.2.2) _
      refine blk_far ?_ (Ne.symm HN.out.2.2) _
      refine blk_far ?_ (Ne.symm HN.out.2.2) _
      refine blk_far ?_ (Ne.symm HN.out.2.2) _
      exact BSc.out
    · exact ((((HB1.out.trans HBc.out).setCell (p := ⟨gp, _, none⟩) HL.out.1 _).setCell (p := ⟨gp, _, none⟩) HL.out.1 _).setCell (p := ⟨gp, _, none⟩) HL.out.1 _).setCell (p := ⟨gp, _, none⟩) HL.out.1 _
    · refine ⟨by simp only [gsz]; exact Nat.le_trans KP1.out.1 KB.out.1, fun i hi h1 h2 => ?_⟩
      rw [Below.heap_setCell _ _ _ _ (show i ≠ gp from h1), Below.heap_setCell _ _ _ _ (show i ≠ gp from h1), Below.heap_setCell _ _ _ _ (show i ≠ gp from h1), Below.heap_setCell _ _ _ _ (show i ≠ gp from h1), KB.out.2 i (Nat.lt_of_lt_of_le hi KP1.out.1) h2 (by simp), KP1.out.2 i hi h1 h2]
end Go.Proofs.YtfblohdfmaankaaGreatDoor.PFnTextWritten
namespace Go.Proofs.YtfblohdfmaankaaGreatDoor.PFnTextWritten
open Go.RowKit Go.Proofs.YtfblohdfmaankaaGreatDoorW.PrintWords Go.Proofs.YtfblohdfmaankaaGreatDoorW.PrintLast Go.Proofs.YtfblohdfmaankaaGreatDoorW.PrintMore
set_option linter.unusedVariables false
set_option linter.unusedSimpArgs false
theorem Psr.below {w w' : World} {B gp gc gs g : Nat} {pe z k a y : Int} {v : ByteArray} (h : Psr w B gp gc gs g pe z k a y v) (hb : Below w.heap.size w w') : Psr w' B gp gc gs g pe z k a y v :=
  ⟨⟨blk_below h.1.1 hb, blk_below h.1.2.1 hb, blk_below h.1.2.2 hb⟩, h.2.1, h.2.2⟩
set_option maxHeartbeats 16000000 in
set_option maxRecDepth 100000 in
theorem psl_walk {w : World} {B gp gc gs g : Nat} {pe z k a y k2 a2 y2 : Int} {v v2 : ByteArray} (h : Psr w B gp gc gs g pe z k a y v) (hB : B ≤ w.heap.size) (hy : (y == 0) = false)
    (hC : ∀ W, Below B w W → Calls Tryz.prog 62 #[.pointer (some ⟨g, 0, none⟩), .int .i64 y] W fun e W' => e = .returned (.tuple #[.agg #[.int .i64 k2, .int .i64 a2, .int .i64 y2, .string v2], .nilIface]) ∧ Below W.heap.size W W') :
    Calls Tryz.prog 48 #[.pointer (some ⟨gp, 0, none⟩)] w fun e w' => (∃ (g' gl : Nat) (k' : ByteArray), e = .returned (.tuple #[.pointer (some ⟨g', 0, none⟩), .nilIface]) ∧ w'.heap[g']? = some (.cells #[.string k', .pointer (some ⟨gl, 0, none⟩), .string v] 78 (0, 0)) ∧ w'.heap[gl]? = some (.cells #[.int .i64 a, .int .i64 y, .pointer (some ⟨g, 0, none⟩)] 130 (0, 0))) ∧ Below B w w' := by
  have HP := Aside0.mk h
  have HBL := Aside0.mk hB
  have cA := Aside0.mk (fun (o : Obj) => (show Calls Tryz.prog 44 #[.pointer (some ⟨gp, 0, none⟩)] (w.alloc o) fun e w' => e = .returned .nilIface ∧ (w'.heap[gp]? = some (.cells #[lexf gc gs, .pointer (some ⟨g, 0, none⟩), .bool false, .bool false, .int .i64 y, .int .i64 k2, .int .i64 a2, .int .i64 y2, .string v2] 113 (0, 0)) ∧ w'.heap[w.heap.size]? = some o) ∧ Below B w w' from
    (advance_walk (h.below (below_alloc (Below.refl _ _) o)) (Nat.le_trans hB (below_alloc (Below.refl w.heap.size w) o).size) hy (fun W hW => hC W (((Below.refl B w).alloc hB o).trans hW))).mono fun e w' q => ⟨q.1, ⟨q.2.1.1.1, (q.2.2.2.2 w.heap.size (by rw [World.size_alloc]; omega) (Nat.ne_of_gt (blk_lt h.1.1)) (Nat.ne_of_gt (blk_lt h.1.2.1))).trans (heap_alloc_new w o)⟩, ((Below.refl B w).alloc hB o).trans q.2.2.1⟩))
  have c5 : w.cell? ⟨gp, 5, none⟩ = some (.int .i64 k) := (blk_cell h.1.1 5).trans rfl
  have c6 : w.cell? ⟨gp, 6, none⟩ = some (.int .i64 a) := (blk_cell h.1.1 6).trans rfl
  have c7 : w.cell? ⟨gp, 7, none⟩ = some (.int .i64 y) := (blk_cell h.1.1 7).trans rfl
  have c8 : w.cell? ⟨gp, 8, none⟩ = some (.string v) := (blk_cell h.1.1 8).trans rfl
  clear h hB hy hC
  go_enter Tryz.func48, Tryz.ntmps48
  go_upto_region 5 with (first
    | (go_at_call 44; refine (cA.out _).mono ?_; rintro e w3 ⟨rfl, ⟨q1, q2⟩, q3⟩; have BP3 := Aside0.mk q1; have BT3 := Aside0.mk q2; have HB3 := Aside0.mk q3; clear q1 q2 q3; clear c5 c6 c7 c8))
  have K0 : ∀ u, Below w3.heap.size w3 u → (u.cell? ⟨w.heap.size, 1, none⟩ = some (.int .i64 a) ∧ u.cell? ⟨w.heap.size, 3, none⟩ = some (.string v)) ∧ Below w3.heap.size w3 u := fun u hu => ⟨⟨(blk_cell (blk_below BT3.out hu) 1).trans rfl, (blk_cell (blk_below BT3.out hu) 3).trans rfl⟩, hu⟩
  have cL := Aside0.mk (fun (u : World) (hu : Below w3.heap.size w3 u) => (show Calls Tryz.prog 46 #[.pointer (some ⟨gp, 0, none⟩), .int .i64 a] u fun e w' => (∃ g' : Nat, e = .returned (.pointer (some ⟨g', 0, none⟩)) ∧ w'.heap[g']? = some (.cells #[.int .i64 a, .int .i64 y, .pointer (some ⟨g, 0, none⟩)] 130 (0, 0))) ∧ Below w3.heap.size w3 w' from (loc_walk a (blk_below BP3.out hu)).mono fun e w' q => ⟨q.1, below_step hu q.2⟩))
  obtain ⟨⟨s1, s3⟩, -⟩ := K0 w3 (Below.refl _ _)
  go_region_held3 (fun u => (u.cell? ⟨w.heap.size, 1, none⟩ = some (.int .i64 a) ∧ u.cell? ⟨w.heap.size, 3, none⟩ = some (.string v)) ∧ Below w3.heap.size w3 u) (first | exact K0 _ (Below.refl _ _) | exact K0 _ (below_drew1 (Below.refl _ _)) | exact K0 _ (below_drew1 (below_alloc (Below.refl _ _) _)) | exact hS9 | exact hS5 | exact hS6 | fail) (first
    | (go_at_call 46; refine (cL.out _ ?_).mono ?_; (first | exact below_drew1 (Below.refl _ _) | exact Below.refl _ _); rintro e w5 ⟨⟨gl, rfl, hgl⟩, hW5⟩; have hS5 := K0 _ hW5; have hS6 := K0 _ (below_alloc hW5 (.cells #[.string ⟨#[]⟩, .pointer (some ⟨gl, 0, none⟩), .string v] 78)); have cN := (show Calls Tryz.prog 72 #[.pointer (some ⟨w5.heap.size, 0, none⟩)] (w5.alloc (.cells #[.string ⟨#[]⟩, .pointer (some ⟨gl, 0, none⟩), .string v] 78)) fun e w' => ∃ (g9 : Nat) (k9 : ByteArray), e = .returned (.pointer (some ⟨g9, 0, none⟩)) ∧ w'.heap[g9]? = some (.cells #[.string k9, .pointer (some ⟨gl, 0, none⟩), .string v] 78 (0, 0)) ∧ w'.heap[gl]? = some (.cells #[.int .i64 a, .int .i64 y, .pointer (some ⟨g, 0, none⟩)] 130 (0, 0)) ∧ Below w3.heap.size w3 w' from (newStr_walk (heap_alloc_new w5 _)).mono fun e w' q => by obtain ⟨⟨g9, k9, q1, q2⟩, q3⟩ := q; exact ⟨g9, k9, q1, q2, blk_below (blk_below hgl (below_alloc (Below.refl _ _) _)) q3, below_step (below_alloc hW5 _) q3⟩))
    | (go_at_call 72; refine cN.mono ?_; rintro e w9 ⟨g9, k9, rfl, h91, h92, hW9⟩; have hS9 := K0 _ hW9)
    | fail)
  go_wp2
  go_ret2
  exact ⟨⟨g9, gl, k9, rfl, h91, h92⟩, HB3.out.trans (hW9.mono (Nat.le_trans HBL.out HB3.out.size))⟩
end Go.Proofs.YtfblohdfmaankaaGreatDoor.PFnTextWritten
namespace Go.Proofs.YtfblohdfmaankaaGreatDoor.PFnTextWritten
open Go.RowKit Go.Proofs.YtfblohdfmaankaaGreatDoorW.PrintWords Go.Proofs.YtfblohdfmaankaaGreatDoorW.PrintLast Go.Proofs.YtfblohdfmaankaaGreatDoorW.PrintMore
set_option linter.unusedVariables false
set_option linter.unusedSimpArgs false
set_option maxHeartbeats 16000000 in
set_option maxRecDepth 100000 in
theorem pvl_walk {w : World} {B gp gc gs g : Nat} {pe z k a y k2 a2 y2 : Int} {v v2 : ByteArray} (h : Psr w B gp gc gs g pe z k a y v) (hk : k = 18 ∨ k = 19) (hB : B ≤ w.heap.size) (hy : (y == 0) = false)
    (hC : ∀ W, Below B w W → Calls Tryz.prog 62 #[.pointer (some ⟨g, 0, none⟩), .int .i64 y] W fun e W' => e = .returned (.tuple #[.agg #[.int .i64 k2, .int .i64 a2, .int .i64 y2, .string v2], .nilIface]) ∧ Below W.heap.size W W') :
    Calls Tryz.prog 21 #[.pointer (some ⟨gp, 0, none⟩), .bool false] w fun e w' => (∃ (g' gl : Nat) (k' : ByteArray), e = .returned (.tuple #[.iface 77 (.pointer (some ⟨g', 0, none⟩)), .nilIface]) ∧ w'.heap[g']? = some (.cells #[.string k', .pointer (some ⟨gl, 0, none⟩), .string v] 78 (0, 0)) ∧ w'.heap[gl]? = some (.cells #[.int .i64 a, .int .i64 y, .pointer (some ⟨g, 0, none⟩)] 130 (0, 0))) ∧ Below B w w' := by
  have cA := Aside0.mk (fun (o : Obj) => (show Calls Tryz.prog 48 #[.pointer (some ⟨gp, 0, none⟩)] (w.alloc o) fun e w' => (∃ (g' gl : Nat) (k' : ByteArray), e = .returned (.tuple #[.pointer (some ⟨g', 0, none⟩), .nilIface]) ∧ w'.heap[g']? = some (.cells #[.string k', .pointer (some ⟨gl, 0, none⟩), .string v] 78 (0, 0)) ∧ w'.heap[gl]? = some (.cells #[.int .i64 a, .int .i64 y, .pointer (some ⟨g, 0, none⟩)] 130 (0, 0))) ∧ Below B w w' from
    (psl_walk (h.below (below_alloc (Below.refl _ _) o)) (Nat.le_trans hB (below_alloc (Below.refl w.heap.size w) o).size) hy (fun W hW => hC W (((Below.refl B w).alloc hB o).trans hW))).mono fun e w' q => ⟨q.1, ((Below.refl B w).alloc hB o).trans q.2⟩))
  have c5 : w.cell? ⟨gp, 5, none⟩ = some (.int .i64 k) := (blk_cell h.1.1 5).trans rfl
  have c6 : w.cell? ⟨gp, 6, none⟩ = some (.int .i64 a) := (blk_cell h.1.1 6).trans rfl
  have c7 : w.cell? ⟨gp, 7, none⟩ = some (.int .i64 y) := (blk_cell h.1.1 7).trans rfl
  have c8 : w.cell? ⟨gp, 8, none⟩ = some (.string v) := (blk_cell h.1.1 8).trans rfl
  clear h hB hy hC
  rcases hk with rfl | rfl
  all_goals
    go_enter Tryz.func21, Tryz.ntmps21
    go_wp2_with (first
      | (go_at_call 48; refine (cA.out _).mono ?_; rintro e w3 ⟨⟨g9, gl, k9, rfl, q1, q2⟩, q3⟩))
    go_ret2
    exact ⟨⟨g9, gl, k9, rfl, q1, q2⟩, q3⟩
end Go.Proofs.YtfblohdfmaankaaGreatDoor.PFnTextWritten
namespace Go.Proofs.YtfblohdfmaankaaGreatDoor.PFnTextWritten
open Go.RowKit Go.Proofs.YtfblohdfmaankaaGreatDoorW.PrintWords Go.Proofs.YtfblohdfmaankaaGreatDoorW.PrintLast Go.Proofs.YtfblohdfmaankaaGreatDoorW.PrintMore
set_option linter.unusedVariables false
set_option linter.unusedSimpArgs false
def plainB : TypeDesc → Bool
  | .interface _ => false
  | _ => true
theorem ta_ne {P : Program} (t a : TypeId) (d : TypeDesc) (z : Value) (hu : P.underlying a = some d) (hp : plainB d = true) (hz : (P.info? a).map (·.zero) = some (some z)) (h : t ≠ a) (v : Value) (xT : TypeId) (w : World) : (Instr.typeAssert (.iface t v) xT a true).run P w = .ok (.tuple #[z, .bool false]) w := by
  obtain ⟨j, hj, hz'⟩ := Option.map_eq_some_iff.1 hz
  cases d <;> first | (cases hp; done) | simp [Instr.typeAssert, run_underlying hu, typeInfo, zeroValue, hj, hz', h]
theorem ta_eq {P : Program} (t : TypeId) (d : TypeDesc) (hu : P.underlying t = some d) (hp : plainB d = true) (v : Value) (xT : TypeId) (w : World) : (Instr.typeAssert (.iface t v) xT t true).run P w = .ok (.tuple #[v, .bool true]) w := by
  cases d <;> first | (cases hp; done) | simp [Instr.typeAssert, run_underlying hu]
theorem src_made {w w2 w3 : World} {g : Nat} {s v : ByteArray} (hs : s.size ≤ 2000000) (hG : Glob w) (hb2 : Below w.heap.size w w2) (hbox : w3.heap[g]? = some (.cells #[.slice (some ⟨w2.heap.size, 0, none⟩) s.size (grownCap w2 s.size 0 5), .string ⟨#[]⟩] 60 (0, 0))) (hb : Below (Go.Lib.bytesWorld w2 5 s).heap.size (Go.Lib.bytesWorld w2 5 s) w3) (hg : w2.heap.size < g) :
    Src (w3.setCell ⟨g, 1, none⟩ (.string v)) g w2.heap.size (grownCap w2 s.size 0 5) s ∧ Below w.heap.size w (w3.setCell ⟨g, 1, none⟩ (.string v)) := by
  have hall : Below w.heap.size w (w3.setCell ⟨g, 1, none⟩ (.string v)) := below_set (below_step (below_step hb2 (bytes_below (Below.refl w2.heap.size w2) (Nat.le_refl _) 5 s)) hb) (Nat.le_of_lt (Nat.lt_of_le_of_lt hb2.size hg))
  refine ⟨⟨(blk_cell (blk_put hbox 1 (.string v) rfl) 0).trans rfl, fun j hj => ?_, grownCap_ge _ _ _ _, hs, Glob.below hG hall⟩, hall⟩
  have h1 : (Go.Lib.bytesWorld w2 5 s).cell? ⟨w2.heap.size, j, none⟩ = some (.int .u8 (bt s j)) := by
    rw [Go.Lib.bytesWorld_cell w2 5 s j hj]
    congr 2
    unfold bt
    rw [dif_pos (show (j : Int).toNat < s.size by omega)]
    simp only [Int.toNat_natCast]
    rw [List.getD_eq_getElem?_getD, List.getElem?_eq_getElem (by simpa using hj)]
    rfl
  have h2 : w3.cell? ⟨w2.heap.size, j, none⟩ = some (.int .u8 (bt s j)) := by
    rw [hb.cell (World.block_lt_of_cell? _ _ h1)]; exact h1
  have h3 := (Below.refl g w3).setCell (p := ⟨g, 1, none⟩) (Nat.le_refl _) (.string v)
  rw [h3.cell (show w2.heap.size < g from hg)]; exact h2
theorem lt_made {w2 : World} {g : Nat} {s : ByteArray} (h1 : 1 ≤ s.size) (hg : g = (Go.Lib.bytesWorld w2 5 s).heap.size) : w2.heap.size < g := by
  rw [hg]
  exact World.block_lt_of_cell? _ _ (Go.Lib.bytesWorld_cell w2 5 s 0 (by omega))
set_option maxHeartbeats 16000000 in
set_option maxRecDepth 100000 in
theorem ppv_walk {t : ByteArray} (ht : t.size ≤ 2000000) (h1 : 1 ≤ t.size) {k : Int} (hk : k = 18 ∨ k = 19) {v : ByteArray}
    (hC0 : ∀ W g b cap, Src W g b cap t → Calls Tryz.prog 62 #[.pointer (some ⟨g, 0, none⟩), .int .i64 0] W fun e W' => e = .returned (.tuple #[.agg #[.int .i64 k, .int .i64 0, .int .i64 t.size, .string v], .nilIface]) ∧ Below W.heap.size W W') {w : World} (hG : Glob w) :
    Calls Tryz.prog 12 #[.agg #[.iface 9 (.string t), .bool false, .bool false]] w fun e w' => (∃ (g' gl g : Nat) (k' : ByteArray), e = .returned (.tuple #[.iface 77 (.pointer (some ⟨g', 0, none⟩)), .nilIface]) ∧ w'.heap[g']? = some (.cells #[.string k', .pointer (some ⟨gl, 0, none⟩), .string v] 78 (0, 0)) ∧ w'.heap[gl]? = some (.cells #[.int .i64 0, .int .i64 t.size, .pointer (some ⟨g, 0, none⟩)] 130 (0, 0))) ∧ Below w.heap.size w w' := by
  have hcv : ∀ w' : World, _ := fun w' => Go.Lib.run_convert_string_bytes (P := Tryz.prog) w' 9 58 5 t (u := .string) (by kernel_rfl) (by kernel_rfl) (by kernel_rfl)
  have a55 := fun w => ta_ne (P := Tryz.prog) 9 55 (.pointer 60) (.pointer none) (by kernel_rfl) rfl (by kernel_rfl) (by decide) (.string t) 20 w
  have a9 := fun w => ta_eq (P := Tryz.prog) 9 .string (by kernel_rfl) rfl (.string t) 20 w
  have HG := Aside0.mk hG
  have HT := Aside0.mk ht
  have H1 := Aside0.mk h1
  have HC := Aside0.mk hC0
  have HK := Aside0.mk hk
  have HB := Aside0.mk (Below.refl w.heap.size w)
  have QY := Aside0.mk (show ((t.size : Int) == 0) = false by rw [beq_eq_false_iff_ne]; omega)
  clear hG ht h1 hC0 hk
  go_enter Tryz.func12, Tryz.ntmps12
  go_wp2_with (first
    | ((with_reducible refine gate_dst (N := 1) rfl ?_); refine box_event ?hg (N := 1) ?hd (cs := #[.iface 9 (.string t), .bool false, .bool false]) (t := 43) ?hr ?_; (case hd => rfl); (case hg => rfl); (case hr => first | (go_simp; done) | (go_simp; rfl)); intro go hg w2 hbox hb; have n0_ := Aside0.mk (below_step HB.out hb); clear HB; have HB := n0_; have BO := Aside0.mk hbox; clear n0_ hb hbox hg; have o0 : w2.cell? ⟨go, 0, none⟩ = some (.iface 9 (.string t)) := (blk_cell BO.out 0).trans rfl)
    | ((with_reducible refine gate_dst (N := 23) rfl ?_); refine box_event ?hg (N := 23) ?hd (cs := #[.slice (some ⟨w2.heap.size, 0, none⟩) t.size (grownCap w2 t.size 0 5), .string ⟨#[]⟩]) (t := 60) ?hr ?_; (case hd => rfl); (case hg => rfl); (case hr => first | (go_simp; done) | (go_simp; rfl)); intro gs hg w3 hbox hb; have HQ := Aside0.mk hb; have BS := Aside0.mk hbox; have GS := Aside0.mk hg; clear hb hbox hg)
    | (go_at_call 19; refine (newSource_walk BS.out).mono ?_; rintro e w4 ⟨rfl, hw⟩; have HM := Aside0.mk (src_made (v := ⟨#[71, 114, 97, 112, 104, 81, 76]⟩) HT.out HG.out HB.out BS.out HQ.out (lt_made H1.out GS.out)); have BO4 := Aside0.mk (blk_far (p := ⟨gs, 1, none⟩) (blk_below (blk_below BO.out (bytes_below (Below.refl w2.heap.size w2) (Nat.le_refl _) 5 t)) HQ.out) (Nat.ne_of_lt (Nat.lt_trans (blk_lt BO.out) (lt_made H1.out GS.out))) (.string ⟨#[71, 114, 97, 112, 104, 81, 76]⟩)); rw [← hw] at HM BO4; clear hw HB BO HQ BS; have HS4 := Aside0.mk HM.out.1; have HB4 := Aside0.mk HM.out.2; clear HM; have p1 : w4.cell? ⟨go, 1, none⟩ = some (.bool false) := (blk_cell BO4.out 1).trans rfl; have p2 : w4.cell? ⟨go, 2, none⟩ = some (.bool false) := (blk_cell BO4.out 2).trans rfl)
    | (go_at_call 20; refine (makeParser_walk (fun W hW => HC.out W gs _ _ (HS4.out.below hW))).mono ?_; rintro e w5 ⟨⟨gp, gc, gf, rfl, hP⟩, hB⟩; have HP := Aside0.mk hP; have HB5 := Aside0.mk hB; clear hP hB)
    | (go_at_call 21; refine (pvl_walk HP.out HK.out HB5.out.size QY.out (fun W hW => readToken_end (HS4.out.below (HB5.out.trans hW)))).mono ?_; rintro e w6 ⟨⟨g9, gl, k9, rfl, r1, r2⟩, r3⟩))
  go_ret2
  exact ⟨⟨g9, gl, gs, k9, rfl, r1, r2⟩, HB4.out.trans ((HB5.out.trans r3).mono HB4.out.size)⟩
end Go.Proofs.YtfblohdfmaankaaGreatDoor.PFnTextWritten
namespace Go.Proofs.YtfblohdfmaankaaGreatDoor.PFnTextWritten
open Go.RowKit Go.Proofs.YtfblohdfmaankaaGreatDoorW.PrintWords Go.Proofs.YtfblohdfmaankaaGreatDoorW.PrintLast Go.Proofs.YtfblohdfmaankaaGreatDoorW.PrintMore
set_option linter.unusedVariables false
set_option linter.unusedSimpArgs false
theorem info131' : (Tryz.prog.info? 131).map (fun i => (i.zero, i.size, i.bytes)) = some (some (.agg #[.int .i64 0, .int .i64 0]), 2, 16) := by kernel_rfl
theorem inf_parts {P : Program} {e : TypeId} {z : Value} {s b : Nat} (h : (P.info? e).map (fun i => (i.zero, i.size, i.bytes)) = some (some z, s, b)) : ∃ i, P.info? e = some i ∧ i.zero = some z ∧ i.size = s ∧ i.bytes = b := by
  obtain ⟨i, hi, h⟩ := Option.map_eq_some_iff.1 h
  simp only [Prod.mk.injEq] at h
  exact ⟨i, hi, h.1, h.2.1, h.2.2⟩
theorem own_one {w : World} {base g cap e size : Nat} {xs : List Value} (h : w.ownsRow base e size (.slice (some ⟨g, 0, none⟩) 1 cap) 1 xs) : base ≤ g ∧ ∃ cur : Array Value, w.heap[g]? = some (.cells cur e (0, 0)) ∧ cur.toList.take size = xs := by
  obtain ⟨_, h | ⟨g', cap', cur, h1, h2, h3, h4, h5, h6, h7⟩⟩ := h
  · exact absurd h.2 (by decide)
  · injection h1 with h1 _ _
    injection h1 with h1
    injection h1 with h1 _ _
    subst h1
    exact ⟨h2, cur, h3, by rw [Nat.one_mul] at h7; exact h7⟩
set_option maxHeartbeats 16000000 in
set_option maxRecDepth 100000 in
theorem put_walk {w : World} {B gt gl : Nat} {k fl a y : Int} {nm al tx : ByteArray} {p : Value} (hT : w.heap[gt]? = some (.cells #[.slice none 0 0, .slice none 0 0, .bool false] 47 (0, 0))) (hL : w.heap[gl]? = some (.cells #[.int .i64 a, .int .i64 y, p] 130 (0, 0))) (hB : B ≤ gt) (hBw : B ≤ w.heap.size) :
    Calls Tryz.prog 22 #[.pointer (some ⟨gt, 0, none⟩), .pointer (some ⟨gl, 0, none⟩), .agg #[.int .i64 k, .string nm, .string al, .string tx, .int .i64 fl, .int .i64 0], .nilFunc] w fun e w' => e = .returned (.tuple #[]) ∧ (∃ (gd cap : Nat) (sp : Value) (cur : Array Value), w'.heap[gt]? = some (.cells #[.slice (some ⟨gd, 0, none⟩) 1 cap, sp, .bool false] 47 (0, 0)) ∧ w'.heap[gd]? = some (.cells cur 25 (0, 0)) ∧ cur.toList.take 6 = [.int .i64 k, .string nm, .string al, .string tx, .int .i64 fl, .int .i64 1]) ∧ Below B w w' := by
  have HT := Aside0.mk hT
  have HL := Aside0.mk hL
  have HBT := Aside0.mk hB
  have HBW := Aside0.mk hBw
  have HB := Aside0.mk (Below.refl w.heap.size w)
  obtain ⟨i0, hi, hz0, hz1, hz2⟩ := inf_parts info25
  clear hT hL hB hBw
  go_enter Tryz.func22, Tryz.ntmps22
  go_upto_region 2 with (first
    | ((with_reducible refine gate_dst (N := 6) rfl ?_); refine box_event ?hg (N := 6) ?hd (cs := #[.int .i64 k, .string nm, .string al, .string tx, .int .i64 fl, .int .i64 0]) (t := 25) ?hr ?_; (case hd => rfl); (case hg => rfl); (case hr => first | (go_simp; done) | (go_simp; rfl)); intro gx hg w2 hbox hb; have HB2 := Aside0.mk hb; have BX := Aside0.mk hbox; have BT := Aside0.mk (blk_below HT.out hb); have BL := Aside0.mk (blk_below HL.out hb); clear hb hbox hg HB; have c0 : w2.cell? ⟨gt, 0, none⟩ = some (.slice none 0 0) := (blk_cell BT.out 0).trans rfl))
  have x0 : w2.cell? ⟨gx, 0, none⟩ = some (.int .i64 k) := (blk_cell BX.out 0).trans rfl
  have x1 : w2.cell? ⟨gx, 1, none⟩ = some (.string nm) := (blk_cell BX.out 1).trans rfl
  have x2 : w2.cell? ⟨gx, 2, none⟩ = some (.string al) := (blk_cell BX.out 2).trans rfl
  have x3 : w2.cell? ⟨gx, 3, none⟩ = some (.string tx) := (blk_cell BX.out 3).trans rfl
  have x4 : w2.cell? ⟨gx, 4, none⟩ = some (.int .i64 fl) := (blk_cell BX.out 4).trans rfl
  have x5 : w2.cell? ⟨gx, 5, none⟩ = some (.int .i64 0) := (blk_cell BX.out 5).trans rfl
  have f0 := blk_frozen BT.out 0
  have NA := Aside0.mk (World.news_of_block (heap_alloc_new w2 (.cells #[.int .i64 k, .string nm, .string al, .string tx, .int .i64 fl, .int .i64 0] 25 (0, 0))))
  have H1 := Aside0.mk (show ∀ u ∈ [Value.int .i64 k, .string nm, .string al, .string tx, .int .i64 fl, .int .i64 0], u.oneCell' = true by intro u hu; simp only [List.mem_cons, List.not_mem_nil, or_false] at hu; rcases hu with rfl | rfl | rfl | rfl | rfl | rfl <;> rfl)
  have e0 : ∀ o, (w2.alloc o).cell? ⟨gt, 0, none⟩ = some (.slice none 0 0) := fun o => ((below_alloc (Below.refl w2.heap.size w2) o).cell (World.block_lt_of_cell? w2 _ c0)).trans c0
  go_cut [] (fun wc => ∃ (gd cap : Nat) (cur : Array Value), Aside0 (wc.heap[gt]? = some (.cells #[.slice (some ⟨gd, 0, none⟩) 1 cap, .slice none 0 0, .bool false] 47 (0, 0))) ∧ Aside0 (w2.heap.size ≤ gd ∧ wc.heap[gd]? = some (.cells cur 25 (0, 0)) ∧ cur.toList.take 6 = [.int .i64 k, .string nm, .string al, .string tx, .int .i64 fl, .int .i64 0]) ∧ Aside0 (KeepBut w2 wc gt none) ∧ Aside0 (wc.os = w2.os ∧ wc.tape = w2.tape ∧ wc.output = w2.output))
  case first =>
    go_region_law (refine step_append_lies _ rfl (.tmp 18) (.tmp 20) 22 (by rfl) w2.heap.size 25 i0 (.agg #[.int .i64 0, .string ⟨#[]⟩, .string ⟨#[]⟩, .string ⟨#[]⟩, .int .i64 0, .int .i64 0]) 6 72 Tryz.underlying22 hi hz0 hz1 hz2 (by rfl) (by omega) (.slice none 0 0) 0 [] (by rfl) (World.ownsRow_nil _ _ _ _) ⟨w2.heap.size, 0, none⟩ 1 1 [.int .i64 k, .string nm, .string al, .string tx, .int .i64 fl, .int .i64 0] (by rfl) (by rfl) NA.out H1.out (by omega) (by unfold maxLen; omega) (by omega) (by exact (below_alloc (Below.refl w2.heap.size w2) _).size) _ rfl ?_; intro gd cap w9 hown hgrow hat hlt; have OW := Aside0.mk hown; have KW := Aside0.mk (show KeepBut w2 w9 gt none from (KeepBut.of_below (below_alloc (Below.refl w2.heap.size w2) _) gt none).trans (KeepBut.of_grown hgrow gt) (.inl rfl)); have BT9 := Aside0.mk ((hgrow.block gt (Nat.lt_of_lt_of_le (blk_lt BT.out) (below_alloc (Below.refl w2.heap.size w2) _).size) (by simp [Value.ownBlock])).trans (blk_below BT.out (below_drew1 (below_alloc (Below.refl w2.heap.size w2) _)))); have c9 : w9.cell? ⟨gt, 0, none⟩ = some (.slice none 0 0) := (blk_cell BT9.out 0).trans rfl; have f9 := blk_frozen BT9.out 0; have GG := Aside0.mk (show w9.os = w2.os ∧ w9.tape = w2.tape ∧ w9.output = w2.output from ⟨hgrow.os, hgrow.tape, hgrow.output⟩); clear hown hgrow hat hlt)
    all_goals (try go_wp2)
    all_goals go_meet
    all_goals
      obtain ⟨o1, cur, o2, o3⟩ := own_one OW.out
      have ng : gd ≠ gt := Nat.ne_of_gt (Nat.lt_of_lt_of_le (blk_lt BT.out) o1)
      exact ⟨gd, cap, cur, ⟨blk_put (cs := #[.slice none 0 0, .slice none 0 0, .bool false]) BT9.out 0 _ rfl⟩, ⟨o1, blk_far (p := ⟨gt, 0, none⟩) o2 ng _, o3⟩, ⟨KeepBut.set_ KW.out 0 _⟩, GG⟩
  case rest =>
    obtain ⟨gd, cap, cur, BTc, BD, KC, GC⟩ := hcut
    clear x0 x1 x2 x3 x4 x5 f0 c0 e0 NA H1 hi hz0 hz1 hz2
    have NL : gl ≠ gt := fun e => by have h1 := BL.out; rw [e, BT.out] at h1; exact absurd (Option.some.inj h1) (by intro h; injection h with h1 h2 h3; exact absurd h2 (by decide))
    have BLc := Aside0.mk (KC.out.blk BL.out NL (by simp))
    go_upto_region 5 with (fail)
    obtain ⟨j0, hj, hy0, hy1, hy2⟩ := inf_parts info131'
    have BDc := Aside0.mk BD.out.2.1
    have d1 : wc.cell? ⟨gt, 1, none⟩ = some (.slice none 0 0) := (blk_cell BTc.out 1).trans rfl
    have l0 : wc.cell? ⟨gl, 0, none⟩ = some (.int .i64 a) := (blk_cell BLc.out 0).trans rfl
    have l1 : wc.cell? ⟨gl, 1, none⟩ = some (.int .i64 y) := (blk_cell BLc.out 1).trans rfl
    have NA := Aside0.mk (World.news_of_block (heap_alloc_new wc (.cells #[.int .i64 a, .int .i64 y] 131 (0, 0))))
    have H1 := Aside0.mk (show ∀ u ∈ [Value.int .i64 a, .int .i64 y], u.oneCell' = true by intro u hu; simp only [List.mem_cons, List.not_mem_nil, or_false] at hu; rcases hu with rfl | rfl <;> rfl)
    have e1 : ∀ o, (wc.alloc o).cell? ⟨gt, 1, none⟩ = some (.slice none 0 0) := fun o => ((below_alloc (Below.refl wc.heap.size wc) o).cell (World.block_lt_of_cell? wc _ d1)).trans d1
    have NG := Aside0.mk (show gd ≠ gt from Nat.ne_of_gt (Nat.lt_of_lt_of_le (blk_lt BT.out) BD.out.1))
    go_cut [] (fun wd => ∃ sp : Value, Aside0 (wd.heap[gt]? = some (.cells #[.slice (some ⟨gd, 0, none⟩) 1 cap, sp, .bool false] 47 (0, 0))) ∧ Aside0 (wd.heap[gd]? = some (.cells cur 25 (0, 0))) ∧ Aside0 (KeepBut w2 wd gt none) ∧ Aside0 (wd.os = w2.os ∧ wd.tape = w2.tape ∧ wd.output = w2.output))
    case first =>
      go_region_law (refine step_append_lies _ rfl (.tmp 32) (.tmp 42) 45 (by rfl) wc.heap.size 131 j0 (.agg #[.int .i64 0, .int .i64 0]) 2 16 Tryz.underlying45 hj hy0 hy1 hy2 (by rfl) (by omega) (.slice none 0 0) 0 [] (by rfl) (World.ownsRow_nil _ _ _ _) ⟨wc.heap.size, 0, none⟩ 1 1 [.int .i64 a, .int .i64 y] (by rfl) (by rfl) NA.out H1.out (by omega) (by unfold maxLen; omega) (by omega) (by exact (below_alloc (Below.refl wc.heap.size wc) _).size) _ rfl ?_; intro ge cap2 w9 hown hgrow hat hlt; have KW := Aside0.mk (show KeepBut wc w9 gt none from (KeepBut.of_below (below_alloc (Below.refl wc.heap.size wc) _) gt none).trans (KeepBut.of_grown hgrow gt) (.inl rfl)); have BT9 := Aside0.mk ((hgrow.block gt (Nat.lt_of_lt_of_le (blk_lt BTc.out) (below_alloc (Below.refl wc.heap.size wc) _).size) (by simp [Value.ownBlock])).trans (blk_below BTc.out (below_drew1 (below_alloc (Below.refl wc.heap.size wc) _)))); have c9 : w9.cell? ⟨gt, 1, none⟩ = some (.slice none 0 0) := (blk_cell BT9.out 1).trans rfl; have f9 := blk_frozen BT9.out 1; have GG := Aside0.mk (show w9.os = wc.os ∧ w9.tape = wc.tape ∧ w9.output = wc.output from ⟨hgrow.os, hgrow.tape, hgrow.output⟩); clear hown hgrow hat hlt)
      all_goals (try go_wp2)
      all_goals go_meet
      all_goals
        exact ⟨.slice (some ⟨ge, 0, none⟩) 1 cap2, ⟨blk_put (cs := #[.slice (some ⟨gd, 0, none⟩) 1 cap, .slice none 0 0, .bool false]) BT9.out 1 _ rfl⟩, ⟨blk_far (p := ⟨gt, 1, none⟩) (KW.out.blk BDc.out NG.out (by simp)) NG.out _⟩, ⟨KeepBut.set_ (KC.out.trans KW.out (.inl rfl)) 1 _⟩, ⟨GG.out.1.trans GC.out.1, GG.out.2.1.trans GC.out.2.1, GG.out.2.2.trans GC.out.2.2⟩⟩
    case rest =>
      obtain ⟨sp, BTd, BDd, KD, GD⟩ := hcut
      clear d1 l0 l1 NA H1 e1 hj hy0 hy1 hy2
      have hF : ∀ w : World, (Sem.run Tryz.prog (binOp BinOp.neq 1 Value.nilFunc Value.nilFunc) w) = .ok (.bool false) w := fun w => by kernel_rfl
      have h5 : cur[5]? = some (.int .i64 0) := by
        have h := congrArg (fun l : List Value => l[5]?) BD.out.2.2
        simpa using h
      have a0 : wc.cell? ⟨gt, 0, none⟩ = some (.slice (some ⟨gd, 0, none⟩) 1 cap) := (blk_cell BTd.out 0).trans rfl
      have a5 : wc.cell? ⟨gd, 5, none⟩ = some (.int .i64 0) := (blk_cell BDd.out 5).trans h5
      have b5 := blk_frozen BDd.out 5
      go_upto_region 8 with (fail)
      go_region_law (fail)
      all_goals (try go_wp2)
      all_goals go_end0
      all_goals
        refine ⟨rfl, ⟨gd, cap, sp, cur.setIfInBounds 5 (.int .i64 1), blk_far (p := ⟨gd, 5, none⟩) BTd.out (Ne.symm NG.out) _, blk_put BDd.out 5 _ rfl, ?_⟩, ?_⟩
        · rw [Array.toList_setIfInBounds, List.take_set, BD.out.2.2]
          rfl
        · have hsz : w.heap.size ≤ w2.heap.size := HB2.out.size
          refine ⟨GD.out.1.trans HB2.out.os, GD.out.2.1.trans HB2.out.tape, GD.out.2.2.trans HB2.out.output, ?_, fun i hi => ?_⟩
          · exact Nat.le_trans hsz (Nat.le_trans KD.out.1 (Nat.le_of_eq (gsz (w := wc) (p := ⟨gd, 5, none⟩)).symm))
          · have hi2 : i < w.heap.size := Nat.lt_of_lt_of_le hi HBW.out
            exact (Below.heap_setCell _ _ _ _ (show i ≠ gd from Nat.ne_of_lt (Nat.lt_of_lt_of_le (Nat.lt_of_lt_of_le hi2 hsz) BD.out.1))).trans ((KD.out.2 i (Nat.lt_of_lt_of_le hi2 hsz) (Nat.ne_of_lt (Nat.lt_of_lt_of_le hi HBT.out)) (by simp)).trans (HB2.out.block i hi2))
end Go.Proofs.YtfblohdfmaankaaGreatDoor.PFnTextWritten
namespace Go.Proofs.YtfblohdfmaankaaGreatDoor.PFnTextWritten
open Go.RowKit Go.Proofs.YtfblohdfmaankaaGreatDoorW.PrintWords Go.Proofs.YtfblohdfmaankaaGreatDoorW.PrintLast Go.Proofs.YtfblohdfmaankaaGreatDoorW.PrintMore
set_option linter.unusedVariables false
set_option linter.unusedSimpArgs false
set_option maxHeartbeats 16000000 in
set_option maxRecDepth 100000 in
theorem value_walk {w : World} {B gt g gl : Nat} {a y : Int} {kk v : ByteArray} {p : Value} (hT : w.heap[gt]? = some (.cells #[.slice none 0 0, .slice none 0 0, .bool false] 47 (0, 0))) (hV : w.heap[g]? = some (.cells #[.string kk, .pointer (some ⟨gl, 0, none⟩), .string v] 78 (0, 0))) (hL : w.heap[gl]? = some (.cells #[.int .i64 a, .int .i64 y, p] 130 (0, 0))) (hB : B ≤ gt) (hBw : B ≤ w.heap.size) :
    Calls Tryz.prog 13 #[.pointer (some ⟨gt, 0, none⟩), .iface 77 (.pointer (some ⟨g, 0, none⟩))] w fun e w' => e = .returned (.tuple #[]) ∧ (∃ (gd cap : Nat) (sp : Value) (cur : Array Value), w'.heap[gt]? = some (.cells #[.slice (some ⟨gd, 0, none⟩) 1 cap, sp, .bool false] 47 (0, 0)) ∧ w'.heap[gd]? = some (.cells cur 25 (0, 0)) ∧ cur.toList.take 6 = [.int .i64 14, .string ⟨#[]⟩, .string ⟨#[]⟩, .string v, .int .i64 0, .int .i64 1]) ∧ Below B w w' := by
  have a65 := fun w => ta_ne (P := Tryz.prog) 77 65 (.pointer 70) (.pointer none) (by kernel_rfl) rfl (by kernel_rfl) (by decide) (.pointer (some ⟨g, 0, none⟩)) 35 w
  have a72 := fun w => ta_ne (P := Tryz.prog) 77 72 (.pointer 74) (.pointer none) (by kernel_rfl) rfl (by kernel_rfl) (by decide) (.pointer (some ⟨g, 0, none⟩)) 35 w
  have a75 := fun w => ta_ne (P := Tryz.prog) 77 75 (.pointer 76) (.pointer none) (by kernel_rfl) rfl (by kernel_rfl) (by decide) (.pointer (some ⟨g, 0, none⟩)) 35 w
  have a77 := fun w => ta_eq (P := Tryz.prog) 77 (.pointer 78) (by kernel_rfl) rfl (.pointer (some ⟨g, 0, none⟩)) 35 w
  have HT := Aside0.mk hT
  have HV := Aside0.mk hV
  have HL := Aside0.mk hL
  have HBT := Aside0.mk hB
  have HBW := Aside0.mk hBw
  have HB := Aside0.mk (Below.refl w.heap.size w)
  clear hT hV hL hB hBw
  go_enter Tryz.func13, Tryz.ntmps13
  go_upto_region 15 with (first
    | ((with_reducible refine gate_dst (N := 2) rfl ?_); refine box_event ?hg (N := 2) ?hd (cs := #[.pointer (some ⟨gt, 0, none⟩)]) (t := 44) ?hr ?_; (case hd => rfl); (case hg => rfl); (case hr => first | (go_simp; done) | (go_simp; rfl)); intro gx hg w2 hbox hb; have HB2 := Aside0.mk hb; have BX := Aside0.mk hbox; clear hb hbox hg HB))
  have K0 : ∀ u, Below w2.heap.size w2 u → (u.cell? ⟨gx, 0, none⟩ = some (.pointer (some ⟨gt, 0, none⟩)) ∧ u.cell? ⟨g, 1, none⟩ = some (.pointer (some ⟨gl, 0, none⟩)) ∧ u.cell? ⟨g, 2, none⟩ = some (.string v)) ∧ Below w2.heap.size w2 u := fun u hu => ⟨⟨(blk_cell (blk_below BX.out hu) 0).trans rfl, (blk_cell (blk_below (blk_below HV.out HB2.out) hu) 1).trans rfl, (blk_cell (blk_below (blk_below HV.out HB2.out) hu) 2).trans rfl⟩, hu⟩
  have cP := Aside0.mk (fun (u : World) (hu : Below w2.heap.size w2 u) => (put_walk (B := B) (k := 14) (fl := 0) (nm := ⟨#[]⟩) (al := ⟨#[]⟩) (tx := v) (blk_below (blk_below HT.out HB2.out) hu) (blk_below (blk_below HL.out HB2.out) hu) HBT.out (Nat.le_trans HBW.out (below_step HB2.out hu).size)).mono fun e w' q => (show (e = .returned (.tuple #[]) ∧ (∃ (gd cap : Nat) (sp : Value) (cur : Array Value), w'.heap[gt]? = some (.cells #[.slice (some ⟨gd, 0, none⟩) 1 cap, sp, .bool false] 47 (0, 0)) ∧ w'.heap[gd]? = some (.cells cur 25 (0, 0)) ∧ cur.toList.take 6 = [.int .i64 14, .string ⟨#[]⟩, .string ⟨#[]⟩, .string v, .int .i64 0, .int .i64 1]) ∧ Below B w w') from ⟨q.1, q.2.1, ((below_step HB2.out hu).mono HBW.out).trans q.2.2⟩))
  obtain ⟨⟨s0, s1, s2⟩, -⟩ := K0 w2 (Below.refl _ _)
  go_region_with (first
    | (go_at_call 22; refine (cP.out _ ?_).mono ?_; (first | exact below_drew1 (Below.refl _ _) | exact Below.refl _ _); rintro e w5 ⟨rfl, q1, q2⟩))
  all_goals (try go_wp2)
  all_goals go_end0
  all_goals exact ⟨rfl, q1, q2⟩
set_option maxHeartbeats 16000000 in
set_option maxRecDepth 100000 in
theorem ipv_walk {t : ByteArray} (ht : t.size ≤ 2000000) (h1 : 1 ≤ t.size) {k : Int} (hk : k = 18 ∨ k = 19) {v : ByteArray}
    (hC0 : ∀ W g b cap, Src W g b cap t → Calls Tryz.prog 62 #[.pointer (some ⟨g, 0, none⟩), .int .i64 0] W fun e W' => e = .returned (.tuple #[.agg #[.int .i64 k, .int .i64 0, .int .i64 t.size, .string v], .nilIface]) ∧ Below W.heap.size W W') {w : World} (hG : Glob w) :
    Calls Tryz.prog 6 #[.string t] w fun e w' => (∃ (gd cap : Nat) (cur : Array Value), e = .returned (.tuple #[.slice (some ⟨gd, 0, none⟩) 1 cap, .bool true]) ∧ w'.heap[gd]? = some (.cells cur 25 (0, 0)) ∧ cur.toList.take 6 = [.int .i64 14, .string ⟨#[]⟩, .string ⟨#[]⟩, .string v, .int .i64 0, .int .i64 1]) ∧ Below w.heap.size w w' := by
  have CP := Aside0.mk (ppv_walk ht h1 hk hC0 hG)
  clear ht h1 hk hC0 hG
  go_enter Tryz.func6, Tryz.ntmps6
  go_upto_region 6 with (first
    | (go_at_call 12; refine CP.out.mono ?_; rintro e w3 ⟨⟨g', gl, g, k', rfl, h1, h2⟩, hB⟩; have B1 := Aside0.mk h1; have B2 := Aside0.mk h2; have HB3 := Aside0.mk hB; clear h1 h2 hB)
    | ((with_reducible refine gate_dst (N := 17) rfl ?_); refine box_event ?hg (N := 17) ?hd (cs := #[.slice none 0 0, .slice none 0 0, .bool false]) (t := 47) ?hr ?_; (case hd => rfl); (case hg => rfl); (case hr => first | (go_simp; done) | (go_simp; rfl)); intro gt hg w4 hbox hb; have HB4 := Aside0.mk hb; have BT := Aside0.mk hbox; have GT := Aside0.mk hg; clear hb hbox hg)
    | (go_at_call 13; refine (value_walk (B := w3.heap.size) BT.out (blk_below B1.out HB4.out) (blk_below B2.out HB4.out) (Nat.le_of_eq GT.out.symm) HB4.out.size).mono ?_; rintro e w5 ⟨rfl, ⟨gd, cap, sp, cur, q1, q2, q3⟩, q4⟩; have Q1 := Aside0.mk q1; have Q2 := Aside0.mk q2; have Q3 := Aside0.mk q3; have Q4 := Aside0.mk q4; clear q1 q2 q3 q4))
  have c0 : w5.cell? ⟨gt, 0, none⟩ = some (.slice (some ⟨gd, 0, none⟩) 1 cap) := (blk_cell Q1.out 0).trans rfl
  have c2 : w5.cell? ⟨gt, 2, none⟩ = some (.bool false) := (blk_cell Q1.out 2).trans rfl
  go_quiet (fail)
  go_wp2
  go_ret2
  exact ⟨⟨gd, cap, cur, rfl, Q2.out, Q3.out⟩, below_step HB3.out (pw_below_drewN (HB4.out.trans Q4.out) _)⟩
end Go.Proofs.YtfblohdfmaankaaGreatDoor.PFnTextWritten
