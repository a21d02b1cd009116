/- FnTextWritten: several texts in one, in build order. FnTextWritten: the reference's formed, shapedType, shaped of a node that is a string, walked. Condition: the node lies in the world. | FnTextWritten: the reference's shaped, rightFrom, LiteralRight, SameDocument of one node that is a string, walked. Condition: the node lies in the world. | FnTextWritten: the reference's SameDocument of two nodes that are the same string, walked. Condition: they lie in the world. | FnTextWritten: what the thin package's ParseValue answers to a text written as a string, and to one written as a block string. Conditions: a text of at most 2000 bytes of which the reference says that it may stand so; Go's tables of UTF-8 lie in the world. | FnTextWritten: the law itself, walked in the program: it answers true. Condition: Go's tables of UTF-8 lie in the world. -/
import Derived.Test.YtfblohdfmaankaaGreatDoorMc
import Derived.Test.YtfblohdfmaankaaGreatDoorPFnTextWrittenx8
import Derived.Test.YtfblohdfmaankaaGreatDoorMd
namespace Go.Proofs.YtfblohdfmaankaaGreatDoor.PFnTextWritten
open Go.RowKit Go.Proofs.YtfblohdfmaankaaGreatDoorW.PrintWords Go.Proofs.YtfblohdfmaankaaGreatDoorW.PrintLast Go.Proofs.YtfblohdfmaankaaGreatDoorW.PrintMore
set_option linter.unusedVariables false
set_option linter.unusedSimpArgs false
/-- One node in a row. -/
def One (w : World) (g : Nat) (x : S25) : Prop := Kd.C k25 w (some ⟨g, 0, none⟩) 1 [x]
theorem One.below {w w' : World} {g : Nat} {x : S25} (h : One w g x) (hb : Below w.heap.size w w') : One w' g x := Kd.C_below h hb
theorem One.cells {w : World} {g : Nat} {x : S25} (h : One w g x) : w.cell? ⟨g, 0, none⟩ = some (.int .i64 x.f0) ∧ w.cell? ⟨g, 1, none⟩ = some (.string x.f1) ∧ w.cell? ⟨g, 2, none⟩ = some (.string x.f2) ∧ w.cell? ⟨g, 3, none⟩ = some (.string x.f3) ∧ w.cell? ⟨g, 4, none⟩ = some (.int .i64 x.f4) ∧ w.cell? ⟨g, 5, none⟩ = some (.int .i64 x.f5) := by
  obtain ⟨ad, e, h0, h1, h2, h3, h4, h5⟩ := at_T25 h 0 (by omega) (by omega)
  obtain rfl := Option.some.inj e
  exact ⟨h0, h1, h2, h3, h4, h5⟩
set_option maxHeartbeats 16000000 in
set_option maxRecDepth 100000 in
theorem formed_text (s : ByteArray) (z : Int) (k : Nat) (b : Bool) (h : spec_textable.f k s = some b) (w : World) :
    Calls Tryz.prog 17 #[.agg #[.int .i64 14, .string ⟨#[]⟩, .string ⟨#[]⟩, .string s, .int .i64 0, .int .i64 z]] w fun e w' => e = .returned (.bool b) ∧ Below w.heap.size w w' := by
  have H := Aside0.mk h
  have HB := Aside0.mk (Below.refl w.heap.size w)
  clear h
  cases b
  all_goals
    go_enter Tryz.func17, Tryz.ntmps17
    go_wp2_with (first
      | ((with_reducible refine gate_dst (N := 1) rfl ?_); refine box_event ?hg (N := 1) ?hd (cs := #[.int .i64 14, .string ⟨#[]⟩, .string ⟨#[]⟩, .string s, .int .i64 0, .int .i64 z]) (t := 25) ?hr ?_; (case hd => rfl); (case hg => rfl); (case hr => first | (go_simp; done) | (go_simp; rfl)); intro gx hg w2 hbox hb; have n0_ := Aside0.mk (below_step HB.out hb); clear HB; have HB := n0_; have BX := Aside0.mk hbox; clear n0_ hb hbox hg; have w2x0 : w2.cell? ⟨gx, 0, none⟩ = some (.int .i64 14) := (blk_cell BX.out 0).trans rfl; have w2x1 : w2.cell? ⟨gx, 1, none⟩ = some (.string ⟨#[]⟩) := (blk_cell BX.out 1).trans rfl; have w2x2 : w2.cell? ⟨gx, 2, none⟩ = some (.string ⟨#[]⟩) := (blk_cell BX.out 2).trans rfl; have w2x3 : w2.cell? ⟨gx, 3, none⟩ = some (.string s) := (blk_cell BX.out 3).trans rfl; have w2x4 : w2.cell? ⟨gx, 4, none⟩ = some (.int .i64 0) := (blk_cell BX.out 4).trans rfl)
      | (go_at_call 29; refine (spec_textable.calls k s _ _ H.out).mono ?_; rintro e w3 ⟨rfl, hb⟩; have n0_ := Aside0.mk (below_step HB.out (Drawn0.below hb)); have n1_ := Aside0.mk (blk_below BX.out (Drawn0.below hb)); clear HB BX hb; have HB := n0_; have BX := n1_; clear n0_ n1_; have w3x0 : w3.cell? ⟨gx, 0, none⟩ = some (.int .i64 14) := (blk_cell BX.out 0).trans rfl; have w3x1 : w3.cell? ⟨gx, 1, none⟩ = some (.string ⟨#[]⟩) := (blk_cell BX.out 1).trans rfl; have w3x2 : w3.cell? ⟨gx, 2, none⟩ = some (.string ⟨#[]⟩) := (blk_cell BX.out 2).trans rfl; have w3x3 : w3.cell? ⟨gx, 3, none⟩ = some (.string s) := (blk_cell BX.out 3).trans rfl; have w3x4 : w3.cell? ⟨gx, 4, none⟩ = some (.int .i64 0) := (blk_cell BX.out 4).trans rfl))
    go_ret
    exact ⟨rfl, HB.out⟩
set_option maxHeartbeats 16000000 in
set_option maxRecDepth 100000 in
theorem formed_block (s : ByteArray) (z : Int) (k : Nat) (b : Bool) (h : spec_blockable.f k s = some b) (w : World) :
    Calls Tryz.prog 17 #[.agg #[.int .i64 14, .string ⟨#[]⟩, .string ⟨#[]⟩, .string s, .int .i64 1, .int .i64 z]] w fun e w' => e = .returned (.bool b) ∧ Below w.heap.size w w' := by
  have H := Aside0.mk h
  have HB := Aside0.mk (Below.refl w.heap.size w)
  clear h
  cases b
  all_goals
    go_enter Tryz.func17, Tryz.ntmps17
    go_wp2_with (first
      | ((with_reducible refine gate_dst (N := 1) rfl ?_); refine box_event ?hg (N := 1) ?hd (cs := #[.int .i64 14, .string ⟨#[]⟩, .string ⟨#[]⟩, .string s, .int .i64 1, .int .i64 z]) (t := 25) ?hr ?_; (case hd => rfl); (case hg => rfl); (case hr => first | (go_simp; done) | (go_simp; rfl)); intro gx hg w2 hbox hb; have n0_ := Aside0.mk (below_step HB.out hb); clear HB; have HB := n0_; have BX := Aside0.mk hbox; clear n0_ hb hbox hg; have w2x0 : w2.cell? ⟨gx, 0, none⟩ = some (.int .i64 14) := (blk_cell BX.out 0).trans rfl; have w2x1 : w2.cell? ⟨gx, 1, none⟩ = some (.string ⟨#[]⟩) := (blk_cell BX.out 1).trans rfl; have w2x2 : w2.cell? ⟨gx, 2, none⟩ = some (.string ⟨#[]⟩) := (blk_cell BX.out 2).trans rfl; have w2x3 : w2.cell? ⟨gx, 3, none⟩ = some (.string s) := (blk_cell BX.out 3).trans rfl; have w2x4 : w2.cell? ⟨gx, 4, none⟩ = some (.int .i64 1) := (blk_cell BX.out 4).trans rfl)
      | (go_at_call 30; refine (spec_blockable.calls k s _ _ H.out).mono ?_; rintro e w3 ⟨rfl, hb⟩; have n0_ := Aside0.mk (below_step HB.out (hb)); have n1_ := Aside0.mk (blk_below BX.out (hb)); clear HB BX hb; have HB := n0_; have BX := n1_; clear n0_ n1_; have w3x0 : w3.cell? ⟨gx, 0, none⟩ = some (.int .i64 14) := (blk_cell BX.out 0).trans rfl; have w3x1 : w3.cell? ⟨gx, 1, none⟩ = some (.string ⟨#[]⟩) := (blk_cell BX.out 1).trans rfl; have w3x2 : w3.cell? ⟨gx, 2, none⟩ = some (.string ⟨#[]⟩) := (blk_cell BX.out 2).trans rfl; have w3x3 : w3.cell? ⟨gx, 3, none⟩ = some (.string s) := (blk_cell BX.out 3).trans rfl; have w3x4 : w3.cell? ⟨gx, 4, none⟩ = some (.int .i64 1) := (blk_cell BX.out 4).trans rfl))
    go_ret
    exact ⟨rfl, HB.out⟩
set_option maxHeartbeats 16000000 in
set_option maxRecDepth 100000 in
theorem rowend_walk {w : World} {g c : Nat} {A : Option Addr} (h : w.cell? ⟨g, 1, none⟩ = some (.slice A 0 c)) : Calls Tryz.prog 33 #[.pointer (some ⟨g, 0, none⟩)] w fun e w' => e = .returned (.bool true) ∧ Below w.heap.size w w' := by
  go_enter Tryz.func33, Tryz.ntmps33
  go_wp2
  go_ret
  exact ⟨rfl, Below.refl _ _⟩
set_option maxHeartbeats 16000000 in
set_option maxRecDepth 100000 in
theorem shapedType_walk {w : World} {g c : Nat} {A : Option Addr} (h : w.cell? ⟨g, 1, none⟩ = some (.slice A 0 c)) (v : Value) : Calls Tryz.prog 40 #[.pointer (some ⟨g, 0, none⟩), .int .i64 14, v, .int .i64 0] w fun e w' => e = .returned (.bool true) ∧ Below w.heap.size w w' := by
  have C := Aside0.mk (rowend_walk h)
  clear h
  go_enter Tryz.func40, Tryz.ntmps40
  go_wp2_with (first | (go_at_call 33; refine C.out.mono ?_; rintro e w3 ⟨rfl, hb⟩))
  go_ret
  exact ⟨rfl, hb⟩
end Go.Proofs.YtfblohdfmaankaaGreatDoor.PFnTextWritten
namespace Go.Proofs.YtfblohdfmaankaaGreatDoor.PFnTextWritten
open Go.RowKit Go.Proofs.YtfblohdfmaankaaGreatDoorW.PrintWords Go.Proofs.YtfblohdfmaankaaGreatDoorW.PrintLast Go.Proofs.YtfblohdfmaankaaGreatDoorW.PrintMore
set_option linter.unusedVariables false
set_option linter.unusedSimpArgs false
/-- The node that Made makes of a text. -/
def nd (s : ByteArray) (fl : Int) : S25 := ⟨14, ⟨#[]⟩, ⟨#[]⟩, s, fl, 1⟩
theorem kids_f (s : ByteArray) (fl : Int) : spec_Kids.f 1 [nd s fl] 0 = some [] := by
  have e : rd_T25 [nd s fl] 0 = nd s fl := rfl
  simp only [spec_Kids.f, spec_Kids.l0, e]
  simp [nd, wrap64]
theorem sized_f (s : ByteArray) (fl : Int) : spec_sized.f 3 [nd s fl] 0 1 0 = some true := by
  have e : rd_T25 [nd s fl] 0 = nd s fl := rfl
  simp only [spec_sized.f, spec_sized.j0, spec_sized.l0, e]
  simp [nd, wrap64]
theorem isValue_f (s : ByteArray) (fl : Int) : spec_isValue.f 14 ⟨#[]⟩ ⟨#[]⟩ s fl 1 = some true := by rfl
set_option maxHeartbeats 16000000 in
set_option maxRecDepth 100000 in
theorem shaped_walk {w : World} {g cap : Nat} {s : ByteArray} {fl : Int} (h : One w g (nd s fl)) (hc : 1 ≤ cap) : Calls Tryz.prog 18 #[.slice (some ⟨g, 0, none⟩) 1 cap, .int .i64 0] w fun e w' => e = .returned (.bool true) ∧ Below w.heap.size w w' := by
  have HO := Aside0.mk h
  have CK := Aside0.mk (spec_Kids.calls 1 (some ⟨g, 0, none⟩) cap [nd s fl] 0 [] w h hc (kids_f s fl))
  have HB := Aside0.mk (Below.refl w.heap.size w)
  clear h
  go_enter Tryz.func18, Tryz.ntmps18
  go_wp2_with (first
    | (go_at_call 31; refine CK.out.mono ?_; rintro e w3 ⟨v0, rfl, hR, hb⟩; obtain ⟨A, c, rfl, hc0, _⟩ := Kd.R_reads hR; have n0_ := Aside0.mk (below_step HB.out hb); clear HB hb hR; have HB := n0_; clear n0_)
    | ((with_reducible refine gate_dst (N := 12) rfl ?_); refine box_event ?hg (N := 12) ?hd (cs := #[.slice (some ⟨g, 0, none⟩) 1 cap, .slice A 0 c, .int .i64 0]) (t := 100) ?hr ?_; (case hd => rfl); (case hg => rfl); (case hr => first | (go_simp; done) | (go_simp; rfl)); intro gx hg w4 hbox hb; have n0_ := Aside0.mk (below_step HB.out hb); clear HB; have HB := n0_; have BX := Aside0.mk hbox; clear n0_ hb hbox hg; obtain ⟨k0, k1, k2, k3, k4, k5⟩ := (HO.out.below HB.out).cells; have k0' : w4.cell? ⟨g, 0, none⟩ = some (.int .i64 14) := k0; have k1' : w4.cell? ⟨g, 1, none⟩ = some (.string ⟨#[]⟩) := k1; have k2' : w4.cell? ⟨g, 2, none⟩ = some (.string ⟨#[]⟩) := k2; have k3' : w4.cell? ⟨g, 3, none⟩ = some (.string s) := k3; have k4' : w4.cell? ⟨g, 4, none⟩ = some (.int .i64 fl) := k4; have k5' : w4.cell? ⟨g, 5, none⟩ = some (.int .i64 1) := k5; clear k0 k1 k2 k3 k4 k5; have e0 : ∀ o, (w4.alloc o).cell? ⟨g, 0, none⟩ = some (.int .i64 14) := fun o => ((below_alloc (Below.refl w4.heap.size w4) o).cell (World.block_lt_of_cell? w4 _ k0')).trans k0'; have C40 := Aside0.mk (fun (o : Obj) => (show Calls Tryz.prog 40 #[.pointer (some ⟨gx, 0, none⟩), .int .i64 14, .slice (some ⟨g, 0, none⟩) 1 cap, .int .i64 0] (w4.alloc o) fun e w' => e = .returned (.bool true) ∧ Below w.heap.size w w' from (shapedType_walk (A := A) (c := c) ((blk_cell (blk_below BX.out (below_alloc (Below.refl _ _) o)) 1).trans rfl) _).mono fun e w' q => ⟨q.1, below_step (below_alloc HB.out o) q.2⟩)))
    | (go_at_call 40; refine (C40.out _).mono ?_; rintro e w5 ⟨rfl, hb5⟩))
  go_ret
  exact ⟨rfl, hb5⟩
set_option maxHeartbeats 16000000 in
set_option maxRecDepth 100000 in
theorem rightFrom_walk {w : World} {g cap : Nat} {s : ByteArray} {fl : Int} {b : Bool} (h : One w g (nd s fl)) (hc : 1 ≤ cap) (hs : s.size ≤ 2000)
    (hF : ∀ w, Calls Tryz.prog 17 #[.agg #[.int .i64 14, .string ⟨#[]⟩, .string ⟨#[]⟩, .string s, .int .i64 fl, .int .i64 1]] w fun e w' => e = .returned (.bool b) ∧ Below w.heap.size w w') :
    Calls Tryz.prog 10 #[.slice (some ⟨g, 0, none⟩) 1 cap] w fun e w' => e = .returned (.bool b) ∧ Below w.heap.size w w' := by
  have HO := Aside0.mk h
  have HC := Aside0.mk hc
  have HF := Aside0.mk hF
  have C16 := Aside0.mk (spec_sized.calls 3 (some ⟨g, 0, none⟩) cap [nd s fl] 0 1 0 true w h hc (sized_f s fl))
  have HB := Aside0.mk (Below.refl w.heap.size w)
  obtain ⟨k0, k1, k2, k3, k4, k5⟩ := h.cells
  have k5' : w.cell? ⟨g, 5, none⟩ = some (.int .i64 1) := k5
  clear h hF k0 k1 k2 k3 k4 k5
  go_enter Tryz.func10, Tryz.ntmps10
  go_wp2_with (first
    | (go_at_call 16; refine C16.out.mono ?_; rintro e w3 ⟨rfl, hd⟩; have n0_ := Aside0.mk (below_step HB.out (Drawn0.below hd)); clear HB hd; have HB := n0_; clear n0_; obtain ⟨m0, m1, m2, m3, m4, m5⟩ := (HO.out.below HB.out).cells; have m0' : w3.cell? ⟨g, 0, none⟩ = some (.int .i64 14) := m0; have m1' : w3.cell? ⟨g, 1, none⟩ = some (.string ⟨#[]⟩) := m1; have m2' : w3.cell? ⟨g, 2, none⟩ = some (.string ⟨#[]⟩) := m2; have m3' : w3.cell? ⟨g, 3, none⟩ = some (.string s) := m3; have m4' : w3.cell? ⟨g, 4, none⟩ = some (.int .i64 fl) := m4; have m5' : w3.cell? ⟨g, 5, none⟩ = some (.int .i64 1) := m5; clear m0 m1 m2 m3 m4 m5))
  go_loopw [3, 4] (fun v3 v4 wr => ∃ (j : Nat) (t : Int), v3 = .int .i64 t ∧ v4 = .int .i64 j ∧ Aside0 ((j = 0 ∧ t = 0) ∨ (j = 1 ∧ b = true)) ∧ Aside0 (Below w.heap.size w wr)) (fun _ v4 _ => 1 - (intOf v4).toNat)
  case atStart => exact ⟨0, 0, rfl, rfl, ⟨.inl ⟨rfl, rfl⟩⟩, HB⟩
  case round =>
    obtain ⟨j, t, rfl, rfl, HJ, HBr⟩ := hrel
    clear m0' m1' m2' m3' m4' m5' k5' C16 HB
    obtain ⟨m0, m1, m2, m3, m4, m5⟩ := (HO.out.below HBr.out).cells
    have m0' : wr.cell? ⟨g, 0, none⟩ = some (.int .i64 14) := m0
    have m1' : wr.cell? ⟨g, 1, none⟩ = some (.string ⟨#[]⟩) := m1
    have m2' : wr.cell? ⟨g, 2, none⟩ = some (.string ⟨#[]⟩) := m2
    have m3' : wr.cell? ⟨g, 3, none⟩ = some (.string s) := m3
    have m4' : wr.cell? ⟨g, 4, none⟩ = some (.int .i64 fl) := m4
    have m5' : wr.cell? ⟨g, 5, none⟩ = some (.int .i64 1) := m5
    clear m0 m1 m2 m3 m4 m5
    rcases HJ.out with ⟨rfl, rfl⟩ | ⟨rfl, rfl⟩
    · go_upto_region 7 with (fail)
      go_quiet (fail)
      rw [show min (s.size : Int) 4001 = (s.size : Int) by omega]
      have q1 : decide ((4000 : Int) < (s.size : Int)) = false := decide_eq_false (by omega)
      have q2 : (4000 < s.size) = False := eq_false (by omega)
      have HB8 := Aside0.mk (pw_below_drewN HBr.out nq)
      have C17 := Aside0.mk (HF.out (wr.drewN nq))
      cases b
      · go_wp2_with (first
          | (go_at_call 17; refine C17.out.mono ?_; rintro e w5 ⟨rfl, hb⟩; have HB9 := Aside0.mk (below_step HB8.out hb); clear hb)
          | (go_at_call 18; refine (shaped_walk (HO.out.below HB9.out) HC.out).mono ?_; rintro e w6 ⟨rfl, hb⟩; have HB10 := Aside0.mk (below_step HB9.out hb); clear hb))
        go_ret
        exact ⟨by first | rfl | trivial, HB9.out⟩
      · go_wp2_with (first
          | (go_at_call 17; refine C17.out.mono ?_; rintro e w5 ⟨rfl, hb⟩; have HB9 := Aside0.mk (below_step HB8.out hb); clear hb)
          | (go_at_call 18; refine (shaped_walk (HO.out.below HB9.out) HC.out).mono ?_; rintro e w6 ⟨rfl, hb⟩; have HB10 := Aside0.mk (below_step HB9.out hb); clear hb))
        go_roundw
        case rel => exact ⟨1, s.size, (by first | rfl | trivial | simp), (by first | rfl | trivial | simp), ⟨.inr ⟨rfl, (by first | rfl | trivial)⟩⟩, HB10⟩
        case measure => simp [intOf]
    · go_wp2
      go_ret
      exact ⟨by first | rfl | trivial, HBr.out⟩
set_option maxHeartbeats 16000000 in
set_option maxRecDepth 100000 in
theorem literal_walk {w : World} {g cap : Nat} {s : ByteArray} {fl : Int} {b : Bool} (h : One w g (nd s fl)) (hc : 1 ≤ cap) (hs : s.size ≤ 2000)
    (hF : ∀ w, Calls Tryz.prog 17 #[.agg #[.int .i64 14, .string ⟨#[]⟩, .string ⟨#[]⟩, .string s, .int .i64 fl, .int .i64 1]] w fun e w' => e = .returned (.bool b) ∧ Below w.heap.size w w') :
    Calls Tryz.prog 5 #[.slice (some ⟨g, 0, none⟩) 1 cap] w fun e w' => e = .returned (.bool b) ∧ Below w.heap.size w w' := by
  have HO := Aside0.mk h
  have C10 := Aside0.mk (rightFrom_walk h hc hs hF)
  clear h hF hc hs
  cases b
  all_goals
    go_enter Tryz.func5, Tryz.ntmps5
    go_wp2_with (first
      | (go_at_call 10; refine C10.out.mono ?_; rintro e w3 ⟨rfl, hb⟩; have HB := Aside0.mk hb; clear hb; obtain ⟨m0, m1, m2, m3, m4, m5⟩ := (HO.out.below HB.out).cells; have m0' : w3.cell? ⟨g, 0, none⟩ = some (.int .i64 14) := m0; have m1' : w3.cell? ⟨g, 1, none⟩ = some (.string ⟨#[]⟩) := m1; have m2' : w3.cell? ⟨g, 2, none⟩ = some (.string ⟨#[]⟩) := m2; have m3' : w3.cell? ⟨g, 3, none⟩ = some (.string s) := m3; have m4' : w3.cell? ⟨g, 4, none⟩ = some (.int .i64 fl) := m4; have m5' : w3.cell? ⟨g, 5, none⟩ = some (.int .i64 1) := m5; clear m0 m1 m2 m3 m4 m5)
      | (go_at_call 11; refine (spec_isValue.calls 14 ⟨#[]⟩ ⟨#[]⟩ s fl 1 true _ (isValue_f s fl)).mono ?_; rintro e w4 ⟨rfl, hb⟩; have n0_ := Aside0.mk (below_step HB.out hb); clear HB hb; have HB := n0_; clear n0_))
    go_ret
    exact ⟨by first | rfl | trivial, HB.out⟩
end Go.Proofs.YtfblohdfmaankaaGreatDoor.PFnTextWritten
namespace Go.Proofs.YtfblohdfmaankaaGreatDoor.PFnTextWritten
open Go.RowKit Go.Proofs.YtfblohdfmaankaaGreatDoorW.PrintWords Go.Proofs.YtfblohdfmaankaaGreatDoorW.PrintLast Go.Proofs.YtfblohdfmaankaaGreatDoorW.PrintMore
set_option linter.unusedVariables false
set_option linter.unusedSimpArgs false
/-- A node's cells. -/
def Cl (w : World) (g : Nat) (l : List Value) : Prop := ∀ (i : Nat) (v : Value), l[i]? = some v → w.cell? ⟨g, i, none⟩ = some v
theorem Cl.below {w w' : World} {g : Nat} {l : List Value} (h : Cl w g l) (hb : Below w.heap.size w w') : Cl w' g l := fun i v hv => (hb.cell (World.block_lt_of_cell? w _ (h i v hv))).trans (h i v hv)
theorem One.cl {w : World} {g : Nat} {s : ByteArray} {fl : Int} (h : One w g (nd s fl)) : Cl w g [.int .i64 14, .string ⟨#[]⟩, .string ⟨#[]⟩, .string s, .int .i64 fl, .int .i64 1] := by
  obtain ⟨h0, h1, h2, h3, h4, h5⟩ := h.cells
  intro i v hv
  match i, hv with
  | 0, hv => cases hv; exact h0
  | 1, hv => cases hv; exact h1
  | 2, hv => cases hv; exact h2
  | 3, hv => cases hv; exact h3
  | 4, hv => cases hv; exact h4
  | 5, hv => cases hv; exact h5
  | n + 6, hv => cases hv
set_option maxHeartbeats 16000000 in
set_option maxRecDepth 100000 in
theorem same_walk {w : World} {ga ca gb cb : Nat} {s : ByteArray} {fl : Int} (ha : Cl w ga [.int .i64 14, .string ⟨#[]⟩, .string ⟨#[]⟩, .string s, .int .i64 0, .int .i64 1]) (hb : Cl w gb [.int .i64 14, .string ⟨#[]⟩, .string ⟨#[]⟩, .string s, .int .i64 fl, .int .i64 1]) :
    Calls Tryz.prog 8 #[.slice (some ⟨ga, 0, none⟩) 1 ca, .slice (some ⟨gb, 0, none⟩) 1 cb] w fun e w' => e = .returned (.bool true) ∧ Below w.heap.size w w' := by
  have HA := Aside0.mk (fun (u : World) (hu : Below w.heap.size w u) => ha.below hu)
  have HBB := Aside0.mk (fun (u : World) (hu : Below w.heap.size w u) => hb.below hu)
  clear ha hb
  go_enter Tryz.func8, Tryz.ntmps8
  go_wp2
  go_loopw [5] (fun v5 wr => ∃ (j : Nat), v5 = .int .i64 j ∧ (j = 0 ∨ j = 1) ∧ Aside0 (Below w.heap.size w wr)) (fun v5 _ => 1 - (intOf v5).toNat)
  case atStart => exact ⟨0, rfl, .inl rfl, ⟨Below.refl _ _⟩⟩
  case round =>
    obtain ⟨j, rfl, hj, HBr⟩ := hrel
    have ga0 : wr.cell? ⟨ga, 0, none⟩ = some (.int .i64 14) := HA.out _ HBr.out 0 _ rfl
    have ga1 : wr.cell? ⟨ga, 1, none⟩ = some (.string ⟨#[]⟩) := HA.out _ HBr.out 1 _ rfl
    have ga2 : wr.cell? ⟨ga, 2, none⟩ = some (.string ⟨#[]⟩) := HA.out _ HBr.out 2 _ rfl
    have ga3 : wr.cell? ⟨ga, 3, none⟩ = some (.string s) := HA.out _ HBr.out 3 _ rfl
    have ga4 : wr.cell? ⟨ga, 4, none⟩ = some (.int .i64 0) := HA.out _ HBr.out 4 _ rfl
    have ga5 : wr.cell? ⟨ga, 5, none⟩ = some (.int .i64 1) := HA.out _ HBr.out 5 _ rfl
    have gb0 : wr.cell? ⟨gb, 0, none⟩ = some (.int .i64 14) := HBB.out _ HBr.out 0 _ rfl
    have gb1 : wr.cell? ⟨gb, 1, none⟩ = some (.string ⟨#[]⟩) := HBB.out _ HBr.out 1 _ rfl
    have gb2 : wr.cell? ⟨gb, 2, none⟩ = some (.string ⟨#[]⟩) := HBB.out _ HBr.out 2 _ rfl
    have gb3 : wr.cell? ⟨gb, 3, none⟩ = some (.string s) := HBB.out _ HBr.out 3 _ rfl
    have gb4 : wr.cell? ⟨gb, 4, none⟩ = some (.int .i64 fl) := HBB.out _ HBr.out 4 _ rfl
    have gb5 : wr.cell? ⟨gb, 5, none⟩ = some (.int .i64 1) := HBB.out _ HBr.out 5 _ rfl
    rcases hj with rfl | rfl
    · go_upto_region 6 with (fail)
      have ga0' : ∀ o, (wr.alloc o).cell? ⟨ga, 0, none⟩ = some (.int .i64 14) := fun o => ((below_alloc (Below.refl wr.heap.size wr) o).cell (World.block_lt_of_cell? wr _ ga0)).trans ga0
      have ga0'' : ∀ o o', ((wr.alloc o).alloc o').cell? ⟨ga, 0, none⟩ = some (.int .i64 14) := fun o o' => ((below_alloc (below_alloc (Below.refl wr.heap.size wr) o) o').cell (World.block_lt_of_cell? wr _ ga0)).trans ga0
      have ga1' : ∀ o, (wr.alloc o).cell? ⟨ga, 1, none⟩ = some (.string ⟨#[]⟩) := fun o => ((below_alloc (Below.refl wr.heap.size wr) o).cell (World.block_lt_of_cell? wr _ ga1)).trans ga1
      have ga1'' : ∀ o o', ((wr.alloc o).alloc o').cell? ⟨ga, 1, none⟩ = some (.string ⟨#[]⟩) := fun o o' => ((below_alloc (below_alloc (Below.refl wr.heap.size wr) o) o').cell (World.block_lt_of_cell? wr _ ga1)).trans ga1
      have ga2' : ∀ o, (wr.alloc o).cell? ⟨ga, 2, none⟩ = some (.string ⟨#[]⟩) := fun o => ((below_alloc (Below.refl wr.heap.size wr) o).cell (World.block_lt_of_cell? wr _ ga2)).trans ga2
      have ga2'' : ∀ o o', ((wr.alloc o).alloc o').cell? ⟨ga, 2, none⟩ = some (.string ⟨#[]⟩) := fun o o' => ((below_alloc (below_alloc (Below.refl wr.heap.size wr) o) o').cell (World.block_lt_of_cell? wr _ ga2)).trans ga2
      have ga3' : ∀ o, (wr.alloc o).cell? ⟨ga, 3, none⟩ = some (.string s) := fun o => ((below_alloc (Below.refl wr.heap.size wr) o).cell (World.block_lt_of_cell? wr _ ga3)).trans ga3
      have ga3'' : ∀ o o', ((wr.alloc o).alloc o').cell? ⟨ga, 3, none⟩ = some (.string s) := fun o o' => ((below_alloc (below_alloc (Below.refl wr.heap.size wr) o) o').cell (World.block_lt_of_cell? wr _ ga3)).trans ga3
      have ga4' : ∀ o, (wr.alloc o).cell? ⟨ga, 4, none⟩ = some (.int .i64 0) := fun o => ((below_alloc (Below.refl wr.heap.size wr) o).cell (World.block_lt_of_cell? wr _ ga4)).trans ga4
      have ga4'' : ∀ o o', ((wr.alloc o).alloc o').cell? ⟨ga, 4, none⟩ = some (.int .i64 0) := fun o o' => ((below_alloc (below_alloc (Below.refl wr.heap.size wr) o) o').cell (World.block_lt_of_cell? wr _ ga4)).trans ga4
      have ga5' : ∀ o, (wr.alloc o).cell? ⟨ga, 5, none⟩ = some (.int .i64 1) := fun o => ((below_alloc (Below.refl wr.heap.size wr) o).cell (World.block_lt_of_cell? wr _ ga5)).trans ga5
      have ga5'' : ∀ o o', ((wr.alloc o).alloc o').cell? ⟨ga, 5, none⟩ = some (.int .i64 1) := fun o o' => ((below_alloc (below_alloc (Below.refl wr.heap.size wr) o) o').cell (World.block_lt_of_cell? wr _ ga5)).trans ga5
      have gb0' : ∀ o, (wr.alloc o).cell? ⟨gb, 0, none⟩ = some (.int .i64 14) := fun o => ((below_alloc (Below.refl wr.heap.size wr) o).cell (World.block_lt_of_cell? wr _ gb0)).trans gb0
      have gb0'' : ∀ o o', ((wr.alloc o).alloc o').cell? ⟨gb, 0, none⟩ = some (.int .i64 14) := fun o o' => ((below_alloc (below_alloc (Below.refl wr.heap.size wr) o) o').cell (World.block_lt_of_cell? wr _ gb0)).trans gb0
      have gb1' : ∀ o, (wr.alloc o).cell? ⟨gb, 1, none⟩ = some (.string ⟨#[]⟩) := fun o => ((below_alloc (Below.refl wr.heap.size wr) o).cell (World.block_lt_of_cell? wr _ gb1)).trans gb1
      have gb1'' : ∀ o o', ((wr.alloc o).alloc o').cell? ⟨gb, 1, none⟩ = some (.string ⟨#[]⟩) := fun o o' => ((below_alloc (below_alloc (Below.refl wr.heap.size wr) o) o').cell (World.block_lt_of_cell? wr _ gb1)).trans gb1
      have gb2' : ∀ o, (wr.alloc o).cell? ⟨gb, 2, none⟩ = some (.string ⟨#[]⟩) := fun o => ((below_alloc (Below.refl wr.heap.size wr) o).cell (World.block_lt_of_cell? wr _ gb2)).trans gb2
      have gb2'' : ∀ o o', ((wr.alloc o).alloc o').cell? ⟨gb, 2, none⟩ = some (.string ⟨#[]⟩) := fun o o' => ((below_alloc (below_alloc (Below.refl wr.heap.size wr) o) o').cell (World.block_lt_of_cell? wr _ gb2)).trans gb2
      have gb3' : ∀ o, (wr.alloc o).cell? ⟨gb, 3, none⟩ = some (.string s) := fun o => ((below_alloc (Below.refl wr.heap.size wr) o).cell (World.block_lt_of_cell? wr _ gb3)).trans gb3
      have gb3'' : ∀ o o', ((wr.alloc o).alloc o').cell? ⟨gb, 3, none⟩ = some (.string s) := fun o o' => ((below_alloc (below_alloc (Below.refl wr.heap.size wr) o) o').cell (World.block_lt_of_cell? wr _ gb3)).trans gb3
      have gb4' : ∀ o, (wr.alloc o).cell? ⟨gb, 4, none⟩ = some (.int .i64 fl) := fun o => ((below_alloc (Below.refl wr.heap.size wr) o).cell (World.block_lt_of_cell? wr _ gb4)).trans gb4
      have gb4'' : ∀ o o', ((wr.alloc o).alloc o').cell? ⟨gb, 4, none⟩ = some (.int .i64 fl) := fun o o' => ((below_alloc (below_alloc (Below.refl wr.heap.size wr) o) o').cell (World.block_lt_of_cell? wr _ gb4)).trans gb4
      have gb5' : ∀ o, (wr.alloc o).cell? ⟨gb, 5, none⟩ = some (.int .i64 1) := fun o => ((below_alloc (Below.refl wr.heap.size wr) o).cell (World.block_lt_of_cell? wr _ gb5)).trans gb5
      have gb5'' : ∀ o o', ((wr.alloc o).alloc o').cell? ⟨gb, 5, none⟩ = some (.int .i64 1) := fun o o' => ((below_alloc (below_alloc (Below.refl wr.heap.size wr) o) o').cell (World.block_lt_of_cell? wr _ gb5)).trans gb5
      go_cut [6, 7] (fun v6 v7 wc => ∃ g6 g7 : Nat, v6 = .pointer (some ⟨g6, 0, none⟩) ∧ v7 = .pointer (some ⟨g7, 0, none⟩) ∧ Aside0 (g6 ≠ g7 ∧ w.heap.size ≤ g6 ∧ w.heap.size ≤ g7) ∧ Aside0 (wc.heap[g6]? = some (.cells #[.int .i64 14, .string ⟨#[]⟩, .string ⟨#[]⟩, .string s, .int .i64 0, .int .i64 1] 25 (0, 0))) ∧ Aside0 (wc.heap[g7]? = some (.cells #[.int .i64 14, .string ⟨#[]⟩, .string ⟨#[]⟩, .string s, .int .i64 fl, .int .i64 1] 25 (0, 0))) ∧ Aside0 (Below w.heap.size w wc))
      case first =>
        have hle : w.heap.size ≤ wr.heap.size := HBr.out.size
        have T1 := Aside0.mk (fun x y : Obj => (blk_below (heap_alloc_new wr x) (below_alloc (Below.refl _ _) y) : ((wr.alloc x).alloc y).heap[wr.heap.size]? = some x))
        have T2 := Aside0.mk (fun x y : Obj => (show ((wr.alloc x).alloc y).heap[wr.heap.size + 1]? = some y by have h := heap_alloc_new (wr.alloc x) y; rw [World.size_alloc] at h; exact h))
        have T3 := Aside0.mk (fun x y : Obj => (below_alloc (below_alloc HBr.out x) y : Below w.heap.size w ((wr.alloc x).alloc y)))
        go_region_law (fail)
        all_goals (try go_wp2)
        all_goals go_meet
        all_goals first
          | exact ⟨wr.heap.size, wr.heap.size + 1, rfl, rfl, ⟨by omega, hle, by omega⟩, ⟨blk_below (T1.out _ _) (below_drew1 (Below.refl _ _))⟩, ⟨blk_below (T2.out _ _) (below_drew1 (Below.refl _ _))⟩, ⟨below_drew1 (T3.out _ _)⟩⟩
          | exact ⟨wr.heap.size + 1, wr.heap.size, rfl, rfl, ⟨by omega, by omega, hle⟩, ⟨blk_below (T2.out _ _) (below_drew1 (Below.refl _ _))⟩, ⟨blk_below (T1.out _ _) (below_drew1 (Below.refl _ _))⟩, ⟨below_drew1 (T3.out _ _)⟩⟩
      case rest =>
        obtain ⟨g6, g7, rfl, rfl, HN, B6, B7, HBc⟩ := hcut
        clear ga0 ga0' ga0'' ga1 ga1' ga1'' ga2 ga2' ga2'' ga3 ga3' ga3'' ga4 ga4' ga4'' ga5 ga5' ga5'' gb0 gb0' gb0'' gb1 gb1' gb1'' gb2 gb2' gb2'' gb3 gb3' gb3'' gb4 gb4' gb4'' gb5 gb5' gb5''
        have y60 : wc.cell? ⟨g6, 0, none⟩ = some (.int .i64 14) := (blk_cell B6.out 0).trans rfl
        have yf60 := blk_frozen B6.out 0
        have y61 : wc.cell? ⟨g6, 1, none⟩ = some (.string ⟨#[]⟩) := (blk_cell B6.out 1).trans rfl
        have yf61 := blk_frozen B6.out 1
        have y62 : wc.cell? ⟨g6, 2, none⟩ = some (.string ⟨#[]⟩) := (blk_cell B6.out 2).trans rfl
        have yf62 := blk_frozen B6.out 2
        have y63 : wc.cell? ⟨g6, 3, none⟩ = some (.string s) := (blk_cell B6.out 3).trans rfl
        have yf63 := blk_frozen B6.out 3
        have y64 : wc.cell? ⟨g6, 4, none⟩ = some (.int .i64 0) := (blk_cell B6.out 4).trans rfl
        have yf64 := blk_frozen B6.out 4
        have y65 : wc.cell? ⟨g6, 5, none⟩ = some (.int .i64 1) := (blk_cell B6.out 5).trans rfl
        have yf65 := blk_frozen B6.out 5
        have y70 : wc.cell? ⟨g7, 0, none⟩ = some (.int .i64 14) := (blk_cell B7.out 0).trans rfl
        have yf70 := blk_frozen B7.out 0
        have y71 : wc.cell? ⟨g7, 1, none⟩ = some (.string ⟨#[]⟩) := (blk_cell B7.out 1).trans rfl
        have yf71 := blk_frozen B7.out 1
        have y72 : wc.cell? ⟨g7, 2, none⟩ = some (.string ⟨#[]⟩) := (blk_cell B7.out 2).trans rfl
        have yf72 := blk_frozen B7.out 2
        have y73 : wc.cell? ⟨g7, 3, none⟩ = some (.string s) := (blk_cell B7.out 3).trans rfl
        have yf73 := blk_frozen B7.out 3
        have y74 : wc.cell? ⟨g7, 4, none⟩ = some (.int .i64 fl) := (blk_cell B7.out 4).trans rfl
        have yf74 := blk_frozen B7.out 4
        have y75 : wc.cell? ⟨g7, 5, none⟩ = some (.int .i64 1) := (blk_cell B7.out 5).trans rfl
        have yf75 := blk_frozen B7.out 5
        have n1 := HN.out.1
        have n2 : g7 ≠ g6 := fun e => HN.out.1 e.symm
        go_wp2
        go_roundw
        case rel => exact ⟨1, rfl, .inr rfl, ⟨(HBc.out.setCell (p := ⟨g6, 4, none⟩) HN.out.2.1 _).setCell (p := ⟨g7, 4, none⟩) HN.out.2.2 _⟩⟩
        case measure => simp [intOf]
    · go_wp2
      go_ret
      exact ⟨rfl, HBr.out⟩
end Go.Proofs.YtfblohdfmaankaaGreatDoor.PFnTextWritten
namespace Go.Proofs.YtfblohdfmaankaaGreatDoor.PFnTextWritten
open Go.RowKit Go.Proofs.YtfblohdfmaankaaGreatDoor.PblockStringValue Go.Proofs.YtfblohdfmaankaaGreatDoorW.PrintWords Go.Proofs.YtfblohdfmaankaaGreatDoorW.PrintLast Go.Proofs.YtfblohdfmaankaaGreatDoorW.PrintMore
set_option linter.unusedVariables false
set_option linter.unusedSimpArgs false
theorem bt_get (t : ByteArray) (i : Nat) (b : UInt8) (h : t.data.toList[i]? = some b) : i < t.size ∧ bt t (i : Nat) = (b.toNat : Int) := by
  obtain ⟨hi, hb⟩ := List.getElem?_eq_some_iff.1 h
  have hs : i < t.size := by simpa using hi
  refine ⟨hs, ?_⟩
  unfold bt
  rw [dif_pos (show ((i : Nat) : Int).toNat < t.size by omega), ← hb]
  simp only [Int.toNat_natCast]
  rfl
theorem self_arr (s : ByteArray) : (⟨(dr s 0).toArray⟩ : ByteArray) = s := by
  apply ByteArray.ext
  simp [dr]
/-- What ParseValue hands back. -/
def Got (s : ByteArray) (t : ByteArray) : Prop := ∀ w, Glob w → Calls Tryz.prog 6 #[.string t] w fun e w' => (∃ gd cap : Nat, e = .returned (.tuple #[.slice (some ⟨gd, 0, none⟩) 1 cap, .bool true]) ∧ Cl w' gd [.int .i64 14, .string ⟨#[]⟩, .string ⟨#[]⟩, .string s, .int .i64 0, .int .i64 1]) ∧ Below w.heap.size w w'
theorem got_of {s t : ByteArray} (ht : t.size ≤ 2000000) (h1 : 1 ≤ t.size) {k : Int} (hk : k = 18 ∨ k = 19)
    (hC0 : ∀ W g b cap, Src W g b cap t → Calls Tryz.prog 62 #[.pointer (some ⟨g, 0, none⟩), .int .i64 0] W fun e W' => e = .returned (.tuple #[.agg #[.int .i64 k, .int .i64 0, .int .i64 t.size, .string s], .nilIface]) ∧ Below W.heap.size W W') : Got s t := fun w hG =>
  (ipv_walk ht h1 hk hC0 hG).mono fun e w' q => by
    obtain ⟨⟨gd, cap, cur, q1, q2, q3⟩, q4⟩ := q
    refine ⟨⟨gd, cap, q1, fun i v hv => ?_⟩, q4⟩
    rw [blk_cell q2 i]
    have hi : i < 6 := (List.getElem?_eq_some_iff.1 hv).1
    rw [← q3, List.getElem?_take, if_pos hi] at hv
    simpa using hv
theorem quote_got (s : ByteArray) (hs : s.size ≤ 2000) (h : Tx s 0) : ∃ t, (∀ k, 4017 ≤ k → spec_Quote.f k s = some t) ∧ Got s t := by
  obtain ⟨_, r, hq, hl, hrec⟩ := quote_tx s hs 0 h
  have htd : ((⟨#[34]⟩ : ByteArray) ++ ⟨r.toArray⟩).data.toList = 34 :: r := by simp
  have hts : ((⟨#[34]⟩ : ByteArray) ++ ⟨r.toArray⟩).size = r.length + 1 := by
    have h := congrArg List.length htd
    rw [Array.length_toList, List.length_cons] at h
    exact h
  refine ⟨(⟨#[34]⟩ : ByteArray) ++ ⟨r.toArray⟩, fun k hk => ?_, ?_⟩
  · have := hrec k (⟨#[34]⟩ : ByteArray) (by omega) (by show 1 + _ ≤ _; omega)
    exact this
  generalize ((⟨#[34]⟩ : ByteArray) ++ ⟨r.toArray⟩) = t at htd hts
  have hd1 : dr t 1 = r := by unfold dr; rw [htd]; rfl
  have h0 : bt t 0 = 34 := (bt_get t 0 34 (by rw [htd]; rfl)).2
  have hrl := qt_len hq
  have hr1 : 1 ≤ r.length := by omega
  rw [← hd1] at hq
  have hx : ∃ c d k m : Int, rn t 1 = (c, k) ∧ rn t 2 = (d, m) ∧ ((c == 34) = false ∨ (c = 34 ∧ (d == 34) = false)) := by
    obtain ⟨d, m, h2⟩ : ∃ d m, rn t 2 = (d, m) := ⟨_, _, rfl⟩
    rcases qt_step t 1 _ hq with ⟨_, hend, hr⟩ | ⟨c, k, x', hr, _, hc, _⟩ | ⟨b, x', _, hr, _⟩ | ⟨a, b, c, d', x', _, _, hr, _⟩
    · refine ⟨34, -1, 1, 65533, hr, ?_, .inr ⟨rfl, by decide⟩⟩
      unfold rn; rw [if_pos (by omega)]
    · exact ⟨c, d, k, m, hr, h2, .inl (by rw [beq_eq_false_iff_ne]; exact hc.2.1)⟩
    · exact ⟨92, d, 1, m, hr, h2, .inl (by decide)⟩
    · exact ⟨92, d, 1, m, hr, h2, .inl (by decide)⟩
  obtain ⟨c, d, k, m, hr1', hr2', hcd⟩ := hx
  refine got_of (by omega) (by omega) (.inl rfl) (fun W g b cap hS => ?_)
  refine readToken_str hS (by omega) h0 c d k m hr1' hr2' hcd s (fun w hw => ?_)
  have hw2 := readString_walk hw _ hq
  rw [self_arr s] at hw2
  exact hw2
theorem bx_all (s : ByteArray) (i : Nat) (h : Bx s i) : ∀ j : Nat, i ≤ j → j < s.size → ¬ Q3 s j ∧ (32 ≤ bt s (j : Nat) ∨ bt s (j : Nat) = 9 ∨ bt s (j : Nat) = 10) := by
  induction h with
  | done => intro j h1 h2; omega
  | @step i m c hi hp hm hc hq _ ih =>
    intro j h1 h2
    by_cases hj : i + m ≤ j
    · exact ih j hj h2
    have high : 128 ≤ bt s (j : Nat) → ¬ Q3 s j ∧ (32 ≤ bt s (j : Nat) ∨ bt s (j : Nat) = 9 ∨ bt s (j : Nat) = 10) := fun hb => ⟨fun hQ => by have := hQ.2.1; omega, .inl (by omega)⟩
    rcases hp with ⟨_, h0⟩ | ⟨hn, hcb, hlt⟩ | ⟨hn, hsz, ⟨g0, g1⟩, _⟩ | ⟨hn, hsz, ⟨g0, g1, g2⟩, _⟩ | ⟨hn, hsz, ⟨g0, g1, g2, g3⟩, _⟩
    · omega
    · obtain rfl : j = i := by omega
      refine ⟨hq, ?_⟩
      rcases hc with h | h | h
      · exact .inr (.inl (by omega))
      · exact .inr (.inr (by omega))
      · exact .inl (by omega)
    · rcases (show j = i ∨ j = i + 1 by omega) with rfl | rfl
      · exact high g0
      · exact high g1
    · rcases (show j = i ∨ j = i + 1 ∨ j = i + 2 by omega) with rfl | rfl | rfl
      · exact high g0
      · exact high g1
      · exact high g2
    · rcases (show j = i ∨ j = i + 1 ∨ j = i + 2 ∨ j = i + 3 by omega) with rfl | rfl | rfl | rfl
      · exact high g0
      · exact high g1
      · exact high g2
      · exact high g3
/-- The raw text that blockable asks about. -/
def raw (s : ByteArray) : ByteArray := ((⟨#[10]⟩ : ByteArray) ++ s) ++ (⟨#[10]⟩ : ByteArray)
theorem block_got (s : ByteArray) (hs : s.size ≤ 2000) (h : Bx s 0) (k0 : Nat) (hval : lexer_blockStringValue.f k0 (raw s) = some s) : ∃ t, (∀ k, 2001 ≤ k → spec_Block.f k s = some t) ∧ Got s t := by
  have hall := fun j hj => bx_all s 0 h j (Nat.zero_le _) hj
  have hnq : NoQ s := fun i hi => by
    obtain ⟨b, hb1, hb2⟩ := starts_q s hs i hi
    cases b with
    | false => exact hb1
    | true => exact absurd (hb2.1 rfl) (hall i hi).1
  refine ⟨((⟨#[34, 34, 34, 10]⟩ : ByteArray) ++ s) ++ (⟨#[10, 34, 34, 34]⟩ : ByteArray), fun k hk => block_f s hs hnq k (by omega), ?_⟩
  have htd : (((⟨#[34, 34, 34, 10]⟩ : ByteArray) ++ s) ++ (⟨#[10, 34, 34, 34]⟩ : ByteArray)).data.toList = 34 :: 34 :: 34 :: 10 :: (s.data.toList ++ [10, 34, 34, 34]) := by simp
  have hts : (((⟨#[34, 34, 34, 10]⟩ : ByteArray) ++ s) ++ (⟨#[10, 34, 34, 34]⟩ : ByteArray)).size = s.size + 8 := by
    rw [ByteArray.size_append, ByteArray.size_append]
    show 4 + s.size + 4 = _
    omega
  generalize (((⟨#[34, 34, 34, 10]⟩ : ByteArray) ++ s) ++ (⟨#[10, 34, 34, 34]⟩ : ByteArray)) = t at htd hts
  have hsl : s.data.toList.length = s.size := by simp
  have low : ∀ (i : Nat) (b : UInt8), t.data.toList[i]? = some b → bt t (i : Nat) = (b.toNat : Int) := fun i b hb => (bt_get t i b hb).2
  have b0 : bt t ((0 : Nat) : Int) = 34 := low 0 34 (by rw [htd]; rfl)
  have b1 : bt t ((1 : Nat) : Int) = 34 := low 1 34 (by rw [htd]; rfl)
  have b2 : bt t ((2 : Nat) : Int) = 34 := low 2 34 (by rw [htd]; rfl)
  have b3 : bt t ((3 : Nat) : Int) = 10 := low 3 10 (by rw [htd]; rfl)
  have mid : ∀ j : Nat, j < s.size → bt t ((4 + j : Nat) : Int) = bt s (j : Nat) := fun j hj => by
    have hjl : j < s.data.toList.length := by rw [hsl]; exact hj
    have e1 : s.data.toList[j]? = some (s.data.toList[j]) := List.getElem?_eq_getElem hjl
    have e2 : t.data.toList[4 + j]? = some (s.data.toList[j]) := by
      rw [htd, show 4 + j = j + 1 + 1 + 1 + 1 by omega, List.getElem?_cons_succ, List.getElem?_cons_succ, List.getElem?_cons_succ, List.getElem?_cons_succ, List.getElem?_append_left hjl, e1]
    rw [low _ _ e2, (bt_get s j _ e1).2]
  have tail : ∀ (q : Nat) (b : UInt8), ([10, 34, 34, 34] : List UInt8)[q]? = some b → bt t ((4 + s.size + q : Nat) : Int) = (b.toNat : Int) := fun q b hb => by
    refine low _ _ ?_
    rw [htd, show 4 + s.size + q = s.size + q + 1 + 1 + 1 + 1 by omega, List.getElem?_cons_succ, List.getElem?_cons_succ, List.getElem?_cons_succ, List.getElem?_cons_succ, List.getElem?_append_right (by rw [hsl]; omega), hsl, show s.size + q - s.size = q by omega, hb]
  have e10 : bt t ((4 + s.size : Nat) : Int) = 10 := tail 0 10 rfl
  have hb : Bq t (5 + s.size) := by
    refine ⟨⟨by omega, by omega⟩, ⟨?_, ?_, ?_⟩, ?_⟩
    · have := tail 1 34 rfl; rw [show 5 + s.size = 4 + s.size + 1 by omega]; exact this
    · have := tail 2 34 rfl; rw [show 5 + s.size + 1 = 4 + s.size + 2 by omega]; exact this
    · have := tail 3 34 rfl; rw [show 5 + s.size + 2 = 4 + s.size + 3 by omega]; exact this
    · intro p hp3 hpe
      by_cases hp : p = 3
      · subst hp
        exact ⟨.inr (.inr b3), fun h => by rw [b3] at h; omega, fun h => by rw [b3] at h; omega⟩
      by_cases hp' : p = 4 + s.size
      · subst hp'
        exact ⟨.inr (.inr e10), fun h => by rw [e10] at h; omega, fun h => by rw [e10] at h; omega⟩
      obtain ⟨j, rfl⟩ : ∃ j, p = 4 + j := ⟨p - 4, by omega⟩
      have hj : j < s.size := by omega
      have step : ∀ q : Nat, q ≤ s.size → bt t ((4 + q : Nat) : Int) = 34 → q < s.size ∧ bt s (q : Nat) = 34 := fun q hq hb => by
        by_cases hql : q < s.size
        · exact ⟨hql, by rw [← mid q hql]; exact hb⟩
        · obtain rfl : q = s.size := by omega
          rw [e10] at hb; omega
      refine ⟨by rw [mid j hj]; exact (hall j hj).2, fun h0 h12 => ?_, fun h0 h123 => ?_⟩
      · obtain ⟨q1, q2⟩ := step (j + 1) (by omega) h12.1
        obtain ⟨q3, q4⟩ := step (j + 2) (by omega) h12.2
        rw [mid j hj] at h0
        exact (hall j hj).1 ⟨by omega, h0, q2, q4⟩
      · obtain ⟨q1, q2⟩ := step (j + 1) (by omega) h123.1
        obtain ⟨q3, q4⟩ := step (j + 2) (by omega) h123.2.1
        obtain ⟨q5, q6⟩ := step (j + 3) (by omega) h123.2.2
        exact (hall (j + 1) q1).1 ⟨by omega, q2, by rw [show j + 1 + 1 = j + 2 by omega]; exact q4, by rw [show j + 1 + 2 = j + 3 by omega]; exact q6⟩
  have hraw : (⟨((dr t 3).take (5 + s.size - 3)).toArray⟩ : ByteArray) = raw s := by
    apply ByteArray.ext
    apply Array.ext'
    unfold dr raw
    rw [htd, show 5 + s.size - 3 = s.size + 1 + 1 by omega]
    simp only [List.drop_succ_cons, List.drop_zero, List.take_succ_cons]
    have e : (s.data.toList ++ [10, 34, 34, 34]).take (s.size + 1) = s.data.toList ++ [10] := by
      rw [List.take_append, hsl, show s.size + 1 - s.size = 1 by omega, List.take_of_length_le (by omega)]
      rfl
    rw [e]
    simp
  refine got_of (by omega) (by omega) (.inr rfl) (fun W g b cap hS => ?_)
  refine readToken_blk hS (by omega) b0 34 34 1 1 (rn_low t 1 34 (by omega) b1 (by decide)) (rn_low t 2 34 (by omega) b2 (by decide)) ⟨rfl, rfl⟩ s (fun w hw => ?_)
  refine readBlock_walk hw (5 + s.size) hb s (fun w => ?_)
  rw [hraw]
  exact lexer_blockStringValue.calls k0 (raw s) s w hval
end Go.Proofs.YtfblohdfmaankaaGreatDoor.PFnTextWritten
namespace Go.Proofs.YtfblohdfmaankaaGreatDoor.PFnTextWritten
open Go.RowKit Go.Proofs.YtfblohdfmaankaaGreatDoor.PblockStringValue Go.Proofs.YtfblohdfmaankaaGreatDoorW.PrintWords Go.Proofs.YtfblohdfmaankaaGreatDoorW.PrintLast Go.Proofs.YtfblohdfmaankaaGreatDoorW.PrintMore
set_option linter.unusedVariables false
set_option linter.unusedSimpArgs false
theorem made_f (s : ByteArray) (fl : Int) : spec_Made.f 1 14 ⟨#[]⟩ ⟨#[]⟩ s fl 0 [] = some [nd s fl] := by rfl
theorem made_walk (s : ByteArray) (fl : Int) (w : World) : Calls Tryz.prog 4 #[.agg #[.int .i64 14, .string ⟨#[]⟩, .string ⟨#[]⟩, .string s, .int .i64 fl, .int .i64 0], .slice none 0 0] w fun e w' => (∃ g c : Nat, e = .returned (.slice (some ⟨g, 0, none⟩) 1 c) ∧ 1 ≤ c ∧ One w' g (nd s fl)) ∧ Below w.heap.size w w' :=
  (spec_Made.calls 1 14 ⟨#[]⟩ ⟨#[]⟩ s fl 0 none 0 [] [nd s fl] w (Kd.C_nil _ _) (Nat.le_refl _) (made_f s fl)).mono fun e w' q => by
    obtain ⟨v0, q1, q2, q3⟩ := q
    obtain ⟨g, cap, e1, _⟩ := Kd.R_form q2 (by simp)
    subst e1
    obtain ⟨_, h2, h3⟩ := Kd.R_reads' q2
    exact ⟨⟨g, cap, q1, h2, h3⟩, q3⟩
/-- What is known of a text: whether it may stand as a string, and as a block string, and how it is read then. -/
theorem text_facts (s : ByteArray) (hs : s.size ≤ 2000) : ∃ (bt' bb : Bool) (k : Nat), spec_textable.f k s = some bt' ∧ spec_blockable.f k s = some bb ∧
    (bt' = true → ∃ t, spec_Quote.f k s = some t ∧ Got s t) ∧ (bb = true → ∃ t, spec_Block.f k s = some t ∧ Got s t) := by
  obtain ⟨bt', h1, h2⟩ := textable_tx s hs
  obtain ⟨p, a, r, h3, h4⟩ := raw_law (raw s) (by unfold raw; rw [ByteArray.size_append, ByteArray.size_append]; show 1 + s.size + 1 ≤ _; omega)
  obtain ⟨bb, h5, h6⟩ := blockable_l s hs 40000 (if r.toList = s.toList then p else false) (fun k hk => by
    obtain ⟨g1, g2, _⟩ := h3 k hk
    show (spec_BlockValue.f k (raw s)).bind _ = _
    rw [g1]
    show (if r.toList = s.toList then (spec_plainBlock.f k (raw s)).bind _ else _) = _
    rw [g2]
    split <;> rfl) 2000 0 (by omega) (by omega)
  refine ⟨bt', bb, 50000, h1 _ (by omega), h5 _ (by omega), fun h => ?_, fun h => ?_⟩
  · obtain ⟨t, g1, g2⟩ := quote_got s hs (h2 h)
    exact ⟨t, g1 _ (by omega), g2⟩
  · obtain ⟨g1, g2⟩ := h6 h
    by_cases hr : r.toList = s.toList
    · rw [if_pos hr] at g1
      have ha : a = s := by
        have := (h4 g1).trans hr
        rw [ByteArray.toList_eq, ByteArray.toList_eq] at this
        exact ByteArray.ext (Array.ext' this)
      subst ha
      obtain ⟨t, x1, x2⟩ := block_got a hs g2 40000 (h3 40000 (by omega)).2.2
      exact ⟨t, x1 _ (by omega), x2⟩
    · rw [if_neg hr] at g1; cases g1
set_option maxHeartbeats 16000000 in
set_option maxRecDepth 100000 in
theorem law_walk (s : ByteArray) (w : World) (hG : Glob w) : Calls Tryz.prog 3 #[.string s] w fun e w' => e = .returned (.bool true) ∧ Below w.heap.size w w' := by
  by_cases h1 : s.size ≤ 2000
  · obtain ⟨bq, bb, k, t1, t2, t3, t4⟩ := text_facts s h1
    have HG := Aside0.mk hG
    have HB := Aside0.mk (Below.refl w.heap.size w)
    have q1 : decide ((2147483647 : Int) < (s.size : Int)) = false := decide_eq_false (by omega)
    have q2 : decide ((2000 : Int) < (s.size : Int)) = false := decide_eq_false (by omega)
    have q3 : (2147483647 < s.size) = False := eq_false (by omega)
    have q4 : (2000 < s.size) = False := eq_false (by omega)
    have L0 := Aside0.mk (fun (w : World) (g c : Nat) (h : One w g (nd s 0)) (hc : 1 ≤ c) => literal_walk h hc h1 (fun w => formed_text s 1 k bq t1 w))
    have L1 := Aside0.mk (fun (w : World) (g c : Nat) (h : One w g (nd s 1)) (hc : 1 ≤ c) => literal_walk h hc h1 (fun w => formed_block s 1 k bb t2 w))
    have T3 := Aside0.mk t3
    have T4 := Aside0.mk t4
    clear t1 t2 t3 t4 h1 hG
    have hQ : bq = true → ∃ t, Aside0 (spec_Quote.f k s = some t) ∧ Aside0 (Got s t) := fun h => by obtain ⟨t, a, b⟩ := T3.out h; exact ⟨t, ⟨a⟩, ⟨b⟩⟩
    have hK : bb = true → ∃ t, Aside0 (spec_Block.f k s = some t) ∧ Aside0 (Got s t) := fun h => by obtain ⟨t, a, b⟩ := T4.out h; exact ⟨t, ⟨a⟩, ⟨b⟩⟩
    cases bq
    · cases bb
      · clear hQ hK
        have M1 := Aside0.mk True.intro
        have M2 := Aside0.mk True.intro
        have M5 := Aside0.mk True.intro
        have M6 := Aside0.mk True.intro
        go_enter Tryz.func3, Tryz.ntmps3
        go_wp2_with (first
          | (clear M1; go_at_call 4; refine (made_walk s 0 _).mono ?_; rintro e w1 ⟨⟨g0, c0, rfl, h1, h2⟩, hb⟩; have G0 := Aside0.mk (And.intro h1 h2); clear h1 h2; have n0_ := Aside0.mk (below_step HB.out hb); clear HB hb; have HB := n0_; clear n0_)
          | (clear M2; go_at_call 5; refine (L0.out _ g0 c0 G0.out.2 G0.out.1).mono ?_; rintro e w2 ⟨rfl, hb⟩; have n0_ := Aside0.mk (below_step HB.out hb); have nG0_ := Aside0.mk (And.intro G0.out.1 (G0.out.2.below hb)); clear HB G0; have HB := n0_; have G0 := nG0_; clear n0_ nG0_; clear hb)
          | (clear M5; go_at_call 4; refine (made_walk s 1 _).mono ?_; rintro e w1 ⟨⟨g1, c1, rfl, h1, h2⟩, hb⟩; have G1 := Aside0.mk (And.intro h1 h2); clear h1 h2; have n0_ := Aside0.mk (below_step HB.out hb); clear HB hb; have HB := n0_; clear n0_)
          | (clear M6; go_at_call 5; refine (L1.out _ g1 c1 G1.out.2 G1.out.1).mono ?_; rintro e w2 ⟨rfl, hb⟩; have n0_ := Aside0.mk (below_step HB.out hb); have nG1_ := Aside0.mk (And.intro G1.out.1 (G1.out.2.below hb)); clear HB G1; have HB := n0_; have G1 := nG1_; clear n0_ nG1_; clear hb))
        go_ret
        exact ⟨by first | rfl | trivial, HB.out⟩
      · obtain ⟨t1, Q1, P1⟩ := hK rfl
        clear hQ hK
        have M1 := Aside0.mk True.intro
        have M2 := Aside0.mk True.intro
        have M5 := Aside0.mk True.intro
        have M6 := Aside0.mk True.intro
        have M7 := Aside0.mk True.intro
        have M8 := Aside0.mk True.intro
        go_enter Tryz.func3, Tryz.ntmps3
        go_wp2_with (first
          | (clear M1; go_at_call 4; refine (made_walk s 0 _).mono ?_; rintro e w1 ⟨⟨g0, c0, rfl, h1, h2⟩, hb⟩; have G0 := Aside0.mk (And.intro h1 h2); clear h1 h2; have n0_ := Aside0.mk (below_step HB.out hb); clear HB hb; have HB := n0_; clear n0_)
          | (clear M2; go_at_call 5; refine (L0.out _ g0 c0 G0.out.2 G0.out.1).mono ?_; rintro e w2 ⟨rfl, hb⟩; have n0_ := Aside0.mk (below_step HB.out hb); have nG0_ := Aside0.mk (And.intro G0.out.1 (G0.out.2.below hb)); clear HB G0; have HB := n0_; have G0 := nG0_; clear n0_ nG0_; clear hb)
          | (clear M5; go_at_call 4; refine (made_walk s 1 _).mono ?_; rintro e w1 ⟨⟨g1, c1, rfl, h1, h2⟩, hb⟩; have G1 := Aside0.mk (And.intro h1 h2); clear h1 h2; have n0_ := Aside0.mk (below_step HB.out hb); clear HB hb; have HB := n0_; clear n0_)
          | (clear M6; go_at_call 5; refine (L1.out _ g1 c1 G1.out.2 G1.out.1).mono ?_; rintro e w2 ⟨rfl, hb⟩; have n0_ := Aside0.mk (below_step HB.out hb); have nG1_ := Aside0.mk (And.intro G1.out.1 (G1.out.2.below hb)); clear HB G1; have HB := n0_; have G1 := nG1_; clear n0_ nG1_; clear hb)
          | (go_at_call 9; refine (spec_Block.calls k s t1 _ Q1.out).mono ?_; rintro e w3 ⟨rfl, hd⟩; have hb := Drawn0.below hd; clear hd; have n0_ := Aside0.mk (below_step HB.out hb); have nG1_ := Aside0.mk (And.intro G1.out.1 (G1.out.2.below hb)); clear HB G1; have HB := n0_; have G1 := nG1_; clear n0_ nG1_; clear hb)
          | (clear M7; go_at_call 6; refine (P1.out _ (Glob.below HG.out HB.out)).mono ?_; rintro e w4 ⟨⟨gd, cd, rfl, hcl⟩, hb⟩; have CD := Aside0.mk hcl; clear hcl; have n0_ := Aside0.mk (below_step HB.out hb); have nG1_ := Aside0.mk (And.intro G1.out.1 (G1.out.2.below hb)); clear HB G1; have HB := n0_; have G1 := nG1_; clear n0_ nG1_; clear hb)
          | (clear M8; go_at_call 8; refine (same_walk CD.out G1.out.2.cl).mono ?_; rintro e w5 ⟨rfl, hb⟩; have n0_ := Aside0.mk (below_step HB.out hb); clear HB hb CD; have HB := n0_; clear n0_))
        go_ret
        exact ⟨by first | rfl | trivial, HB.out⟩
    · cases bb
      · obtain ⟨t0, Q0, P0⟩ := hQ rfl
        clear hQ hK
        have M1 := Aside0.mk True.intro
        have M2 := Aside0.mk True.intro
        have M3 := Aside0.mk True.intro
        have M4 := Aside0.mk True.intro
        have M5 := Aside0.mk True.intro
        have M6 := Aside0.mk True.intro
        go_enter Tryz.func3, Tryz.ntmps3
        go_wp2_with (first
          | (clear M1; go_at_call 4; refine (made_walk s 0 _).mono ?_; rintro e w1 ⟨⟨g0, c0, rfl, h1, h2⟩, hb⟩; have G0 := Aside0.mk (And.intro h1 h2); clear h1 h2; have n0_ := Aside0.mk (below_step HB.out hb); clear HB hb; have HB := n0_; clear n0_)
          | (clear M2; go_at_call 5; refine (L0.out _ g0 c0 G0.out.2 G0.out.1).mono ?_; rintro e w2 ⟨rfl, hb⟩; have n0_ := Aside0.mk (below_step HB.out hb); have nG0_ := Aside0.mk (And.intro G0.out.1 (G0.out.2.below hb)); clear HB G0; have HB := n0_; have G0 := nG0_; clear n0_ nG0_; clear hb)
          | (go_at_call 7; refine (spec_Quote.calls k s t0 _ Q0.out).mono ?_; rintro e w3 ⟨rfl, hd⟩; have hb := Drawn0.below hd; clear hd; have n0_ := Aside0.mk (below_step HB.out hb); have nG0_ := Aside0.mk (And.intro G0.out.1 (G0.out.2.below hb)); clear HB G0; have HB := n0_; have G0 := nG0_; clear n0_ nG0_; clear hb)
          | (clear M3; go_at_call 6; refine (P0.out _ (Glob.below HG.out HB.out)).mono ?_; rintro e w4 ⟨⟨gd, cd, rfl, hcl⟩, hb⟩; have CD := Aside0.mk hcl; clear hcl; have n0_ := Aside0.mk (below_step HB.out hb); have nG0_ := Aside0.mk (And.intro G0.out.1 (G0.out.2.below hb)); clear HB G0; have HB := n0_; have G0 := nG0_; clear n0_ nG0_; clear hb)
          | (clear M4; go_at_call 8; refine (same_walk CD.out G0.out.2.cl).mono ?_; rintro e w5 ⟨rfl, hb⟩; have n0_ := Aside0.mk (below_step HB.out hb); clear HB hb CD; have HB := n0_; clear n0_)
          | (clear M5; go_at_call 4; refine (made_walk s 1 _).mono ?_; rintro e w1 ⟨⟨g1, c1, rfl, h1, h2⟩, hb⟩; have G1 := Aside0.mk (And.intro h1 h2); clear h1 h2; have n0_ := Aside0.mk (below_step HB.out hb); clear HB hb; have HB := n0_; clear n0_)
          | (clear M6; go_at_call 5; refine (L1.out _ g1 c1 G1.out.2 G1.out.1).mono ?_; rintro e w2 ⟨rfl, hb⟩; have n0_ := Aside0.mk (below_step HB.out hb); have nG1_ := Aside0.mk (And.intro G1.out.1 (G1.out.2.below hb)); clear HB G1; have HB := n0_; have G1 := nG1_; clear n0_ nG1_; clear hb))
        go_ret
        exact ⟨by first | rfl | trivial, HB.out⟩
      · obtain ⟨t0, Q0, P0⟩ := hQ rfl
        obtain ⟨t1, Q1, P1⟩ := hK rfl
        clear hQ hK
        have M1 := Aside0.mk True.intro
        have M2 := Aside0.mk True.intro
        have M3 := Aside0.mk True.intro
        have M4 := Aside0.mk True.intro
        have M5 := Aside0.mk True.intro
        have M6 := Aside0.mk True.intro
        have M7 := Aside0.mk True.intro
        have M8 := Aside0.mk True.intro
        go_enter Tryz.func3, Tryz.ntmps3
        go_wp2_with (first
          | (clear M1; go_at_call 4; refine (made_walk s 0 _).mono ?_; rintro e w1 ⟨⟨g0, c0, rfl, h1, h2⟩, hb⟩; have G0 := Aside0.mk (And.intro h1 h2); clear h1 h2; have n0_ := Aside0.mk (below_step HB.out hb); clear HB hb; have HB := n0_; clear n0_)
          | (clear M2; go_at_call 5; refine (L0.out _ g0 c0 G0.out.2 G0.out.1).mono ?_; rintro e w2 ⟨rfl, hb⟩; have n0_ := Aside0.mk (below_step HB.out hb); have nG0_ := Aside0.mk (And.intro G0.out.1 (G0.out.2.below hb)); clear HB G0; have HB := n0_; have G0 := nG0_; clear n0_ nG0_; clear hb)
          | (go_at_call 7; refine (spec_Quote.calls k s t0 _ Q0.out).mono ?_; rintro e w3 ⟨rfl, hd⟩; have hb := Drawn0.below hd; clear hd; have n0_ := Aside0.mk (below_step HB.out hb); have nG0_ := Aside0.mk (And.intro G0.out.1 (G0.out.2.below hb)); clear HB G0; have HB := n0_; have G0 := nG0_; clear n0_ nG0_; clear hb)
          | (clear M3; go_at_call 6; refine (P0.out _ (Glob.below HG.out HB.out)).mono ?_; rintro e w4 ⟨⟨gd, cd, rfl, hcl⟩, hb⟩; have CD := Aside0.mk hcl; clear hcl; have n0_ := Aside0.mk (below_step HB.out hb); have nG0_ := Aside0.mk (And.intro G0.out.1 (G0.out.2.below hb)); clear HB G0; have HB := n0_; have G0 := nG0_; clear n0_ nG0_; clear hb)
          | (clear M4; go_at_call 8; refine (same_walk CD.out G0.out.2.cl).mono ?_; rintro e w5 ⟨rfl, hb⟩; have n0_ := Aside0.mk (below_step HB.out hb); clear HB hb CD; have HB := n0_; clear n0_)
          | (clear M5; go_at_call 4; refine (made_walk s 1 _).mono ?_; rintro e w1 ⟨⟨g1, c1, rfl, h1, h2⟩, hb⟩; have G1 := Aside0.mk (And.intro h1 h2); clear h1 h2; have n0_ := Aside0.mk (below_step HB.out hb); clear HB hb; have HB := n0_; clear n0_)
          | (clear M6; go_at_call 5; refine (L1.out _ g1 c1 G1.out.2 G1.out.1).mono ?_; rintro e w2 ⟨rfl, hb⟩; have n0_ := Aside0.mk (below_step HB.out hb); have nG1_ := Aside0.mk (And.intro G1.out.1 (G1.out.2.below hb)); clear HB G1; have HB := n0_; have G1 := nG1_; clear n0_ nG1_; clear hb)
          | (go_at_call 9; refine (spec_Block.calls k s t1 _ Q1.out).mono ?_; rintro e w3 ⟨rfl, hd⟩; have hb := Drawn0.below hd; clear hd; have n0_ := Aside0.mk (below_step HB.out hb); have nG1_ := Aside0.mk (And.intro G1.out.1 (G1.out.2.below hb)); clear HB G1; have HB := n0_; have G1 := nG1_; clear n0_ nG1_; clear hb)
          | (clear M7; go_at_call 6; refine (P1.out _ (Glob.below HG.out HB.out)).mono ?_; rintro e w4 ⟨⟨gd, cd, rfl, hcl⟩, hb⟩; have CD := Aside0.mk hcl; clear hcl; have n0_ := Aside0.mk (below_step HB.out hb); have nG1_ := Aside0.mk (And.intro G1.out.1 (G1.out.2.below hb)); clear HB G1; have HB := n0_; have G1 := nG1_; clear n0_ nG1_; clear hb)
          | (clear M8; go_at_call 8; refine (same_walk CD.out G1.out.2.cl).mono ?_; rintro e w5 ⟨rfl, hb⟩; have n0_ := Aside0.mk (below_step HB.out hb); clear HB hb CD; have HB := n0_; clear n0_))
        go_ret
        exact ⟨by first | rfl | trivial, HB.out⟩
  · by_cases h2 : s.size ≤ 2147483647
    · have q1 : decide ((2147483647 : Int) < (s.size : Int)) = false := decide_eq_false (by omega)
      have q2 : decide ((2000 : Int) < (s.size : Int)) = true := decide_eq_true (by omega)
      have q3 : (2147483647 < s.size) = False := eq_false (by omega)
      have q4 : (2000 < s.size) = True := eq_true (by omega)
      clear h1 h2
      go_enter Tryz.func3, Tryz.ntmps3
      go_wp2
      go_ret
      exact ⟨rfl, Below.refl _ _⟩
    · have q1 : decide ((2147483647 : Int) < (s.size : Int)) = true := decide_eq_true (by omega)
      have q3 : (2147483647 < s.size) = True := eq_true (by omega)
      clear h1 h2
      go_enter Tryz.func3, Tryz.ntmps3
      go_wp2
      go_ret
      exact ⟨rfl, Below.refl _ _⟩
end Go.Proofs.YtfblohdfmaankaaGreatDoor.PFnTextWritten
