/- FnReadNumber: the package's errors, walked: a syntax error is a pointer that is not nil. Condition: a source in the world, a place within and no line end ahead of it. -/
import Derived.Test.YtmlochnckplalaaGreatDoorLoc
namespace Go.Proofs.YtmlochnckplalaaGreatDoor.PFnReadNumber
open Go.RowKit Go.Proofs.YtmlochnckplalaaGreatDoorW.PrintWords Go.Proofs.YtmlochnckplalaaGreatDoorW.PrintLast Go.Proofs.YtmlochnckplalaaGreatDoorW.PrintMore
set_option linter.unusedVariables false
set_option linter.unusedSimpArgs false
abbrev synB : ByteArray := ⟨#[83, 121, 110, 116, 97, 120, 32, 69, 114, 114, 111, 114]⟩
theorem info80 : (Tryz.prog.info? 80).map (fun i => (i.zero, i.size, i.bytes)) = some (some (.agg #[.int .i64 0, .int .i64 0]), 2, 16) := by kernel_rfl
def k80 : Kd (Int × Int) := Kd.pair (Kd.int .i64) (Kd.int .i64)
theorem k80_mk (w : World) (base : Nat) (ok : Nat → Prop) (x : Int × Int) : k80.M w base ok x [.int .i64 x.1, .int .i64 x.2] := ⟨[.int .i64 x.1], [.int .i64 x.2], rfl, rfl, rfl⟩
def lft : Value → Nat
  | .int _ a => 2 - a.toNat
  | _ => 0
set_option maxHeartbeats 8000000 in
set_option maxRecDepth 100000 in
theorem newError_walk {w : World} {g b cap : Nat} {s : ByteArray} (h : Src w g b cap s) (p : Nat) (hps : p ≤ s.size) (hp : NoNl s p) (nA : Option Addr) (pb : Nat) (hpb : w.cell? ⟨pb, 0, none⟩ = some (.int .i64 p)) :
    Calls Tryz.prog 24 #[.string synB, .slice nA 0 0, .string ⟨#[]⟩, .pointer (some ⟨g, 0, none⟩), .slice (some ⟨pb, 0, none⟩) 1 1, .slice none 0 0, .nilIface] w fun e w' => (∃ gq : Nat, e = .returned (.pointer (some ⟨gq, 0, none⟩))) ∧ Below w.heap.size w w' := by
  have HB := Aside0.mk (Below.refl w.heap.size w)
  have HS := Aside0.mk h
  have HP := Aside0.mk hp
  have HPS := Aside0.mk hps
  have HPB := Aside0.mk hpb
  clear h hp hps hpb
  go_enter Tryz.func24, Tryz.ntmps24
  go_wp2_with (first
    | ((with_reducible refine gate_dst (N := 85) rfl ?_); refine Kd.S_lit k80 w.heap.size 80 ?hg (N := 85) ?hd (xs := ([] : List (Int × Int))) (inner := []) (ok := fun _ => True) (okp := fun _ => True) ?hr ?hp (fun _ hk => hk) trivial HB.out (Nat.le_refl _) (by simp) ?_; (case hd => rfl); (case hg => rfl); (case hr => first | (go_simp; done) | (go_simp; rfl)); (case hp => exact Reps.none _ _); intro v1 w1 ho hb hg_ hnew_; have HO := Aside0.mk ho; have HB1 := Aside0.mk hb; clear ho hb hg_ hnew_; obtain ⟨A0, c0, e0⟩ := Kd.S_slice HO.out; subst e0; have hpc : w1.cell? ⟨pb, 0, none⟩ = some (.int .i64 p) := (HB1.out.cell (World.block_lt_of_cell? w _ HPB.out)).trans HPB.out))
  go_loopw [19, 88] (fun v19 v88 wr => (v19 = .slice A0 0 c0 ∧ v88 = .int .i64 0 ∧ w1 = wr) ∨ (∃ (A : Option Addr) (n c : Nat), v19 = .slice A n c ∧ v88 = .int .i64 1 ∧ Aside0 (Below w.heap.size w wr))) (fun _ v88 _ => lft v88)
  case atStart => exact .inl ⟨rfl, rfl, rfl⟩
  case round =>
    rcases hrel with ⟨rfl, rfl, rfl⟩ | ⟨A, n, c, rfl, rfl, HBr⟩
    · go_wp2_with (first
        | (go_at_call 26; refine (loc_walk (HS.out.below HB1.out) p HPS.out HP.out).mono ?_; rintro e w3 ⟨⟨l, cc, rfl⟩, hB⟩; have HO3 := Aside0.mk (Kd.S_below HO.out hB); have HB3 := Aside0.mk (below_step HB1.out hB); clear hB)
        | ((with_reducible refine gate_dst (N := 22) rfl ?_); refine box_event ?hg (N := 22) ?hd (cs := #[.int .i64 0, .int .i64 0]) (t := 80) ?hr ?_; (case hd => rfl); (case hg => rfl); (case hr => first | (go_simp; done) | (go_simp; rfl)); intro gb hg w4 hbox hb; have GE := Aside0.mk ((by rw [hg]; exact below_size HB3.out : w.heap.size ≤ gb)); have HO4 := Aside0.mk (Kd.S_below (Kd.S_elderB HO3.out gb (by omega)) hb); have HB4 := Aside0.mk (below_step HB3.out hb); have BK := Aside0.mk hbox; clear hb hbox hg; have hcz0 : w4.cell? ⟨gb, 0, none⟩ = some (.int .i64 0) := (blk_cell BK.out 0).trans rfl; have hcz1 : w4.cell? ⟨gb, 1, none⟩ = some (.int .i64 0) := (blk_cell BK.out 1).trans rfl; have hfz0 := blk_frozen BK.out 0; have hfz1 := blk_frozen BK.out 1)
        | ((with_reducible refine gate_builtin (b := .append) (xs := #[.tmp 95, .tmp 97]) rfl ?_); ((try (refine gate_guard (by rfl) ?_; dsimp only)); at_builtin; refine Kd.S_append k80 (w0 := w) w.heap.size rfl (.tmp 95) (.tmp 97) 78 80 (.agg #[.int .i64 0, .int .i64 0]) 16 rfl Tryz.underlying78 info80 rfl (by decide) (by omega) (.slice A0 0 c0) [] (l, cc) [.int .i64 l, .int .i64 cc] (fun _ => True) (fun _ => False) rfl ?hx (k80_mk _ _ _ _) (fun _ hk => hk.elim) (fun _ _ => trivial) ?aO ?aB ?aS (by simp) ?_; (case hx => show Value.slice (some ⟨w4.heap.size, 0, none⟩) 1 1 = _; simp); (case aO => exact Kd.S_mono (Kd.S_far (Kd.S_far HO4.out (fun k hk => hk.2) _) (fun k hk => hk.2) _) (fun k hk => ⟨trivial, fun e => e.elim⟩)); (case aB => exact below_set (below_set HB4.out GE.out) GE.out); (case aS => exact (below_set (below_set HB4.out GE.out) GE.out).size); intro v5 w5 ho hb hg hat; have HB5 := Aside0.mk hb; obtain ⟨A5, c5, e5⟩ := Kd.S_slice ho; subst e5; clear ho hb hg hat)))
      go_roundw
      case rel => exact .inr ⟨_, _, _, rfl, rfl, HB5⟩
      case measure => decide
    · go_wp2_with (first
        | ((with_reducible refine gate_dst (N := 109) rfl ?_); refine box_event ?hg (N := 109) ?hd (cs := #[.string synB, .string synB, .slice nA 0 0, .pointer (some ⟨g, 0, none⟩), .slice (some ⟨pb, 0, none⟩) 1 1, .slice A n c, .nilIface, .slice none 0 0]) (t := 83) ?hr ?_; (case hd => rfl); (case hg => rfl); (case hr => first | (go_simp; done) | (go_simp; rfl)); intro gb hg w4 hbox hb; have HB4 := Aside0.mk (below_step HBr.out hb); clear hb hbox hg))
      go_ret
      exact ⟨⟨gb, rfl⟩, HB4.out⟩
theorem newErr_walk {w : World} {g b cap : Nat} {s : ByteArray} (h : Src w g b cap s) (p : Nat) (hps : p ≤ s.size) (hp : NoNl s p) (nA : Option Addr) (pb : Nat) (hpb : w.cell? ⟨pb, 0, none⟩ = some (.int .i64 p)) :
    Calls Tryz.prog 23 #[.string synB, .slice nA 0 0, .string ⟨#[]⟩, .pointer (some ⟨g, 0, none⟩), .slice (some ⟨pb, 0, none⟩) 1 1, .nilIface] w fun e w' => (∃ gq : Nat, e = .returned (.pointer (some ⟨gq, 0, none⟩))) ∧ Below w.heap.size w w' := by
  have c24 := newError_walk h p hps hp nA pb hpb
  clear h hps hp hpb
  go_enter Tryz.func23, Tryz.ntmps23
  go_wp2_with (first | (go_at_call 24; refine c24.mono ?_; rintro e w' ⟨⟨gq, rfl⟩, hB⟩; have hB := Aside0.mk hB))
  go_ret
  exact ⟨⟨gq, rfl⟩, hB.out⟩
set_option maxRecDepth 100000 in
theorem synErr_walk {w : World} {g b cap : Nat} {s : ByteArray} (h : Src w g b cap s) (p : Nat) (hps : p ≤ s.size) (hp : NoNl s p) (m : ByteArray) :
    Calls Tryz.prog 19 #[.pointer (some ⟨g, 0, none⟩), .int .i64 p, .string m] w fun e w' => (∃ gq : Nat, e = .returned (.pointer (some ⟨gq, 0, none⟩))) ∧ Below w.heap.size w w' := by
  have HS := Aside0.mk h
  have HP := Aside0.mk hp
  have HPS := Aside0.mk hps
  clear h hp hps
  go_enter Tryz.func19, Tryz.ntmps19
  go_wp2_with (first | (go_at_call 23; (refine (newErr_walk (HS.out.below (below_alloc (below_alloc (Below.refl _ _) _) _)) p HPS.out HP.out _ _ ?hc).mono ?_; (case hc => simp); rintro e w' ⟨⟨gq, rfl⟩, hB⟩; have HB := Aside0.mk (below_step (below_alloc (below_alloc (Below.refl _ _) _) _) hB); clear hB)))
  go_ret
  exact ⟨⟨gq, rfl⟩, HB.out⟩
end Go.Proofs.YtmlochnckplalaaGreatDoor.PFnReadNumber
