/- FnReadNumber: the doors of the package and of the reference, and the law itself, walked in the program: it answers true. Condition: Go's tables of UTF-8 lie in the world. -/
import Derived.Test.YtmlochnckplalaaGreatDoorRnm
import Derived.Laws.AppendOwn
namespace Go.Proofs.YtmlochnckplalaaGreatDoor.PFnReadNumber
open Go.RowKit Go.Proofs.YtmlochnckplalaaGreatDoorW.PrintWords Go.Proofs.YtmlochnckplalaaGreatDoorW.PrintLast Go.Proofs.YtmlochnckplalaaGreatDoorW.PrintMore
set_option linter.unusedVariables false
set_option linter.unusedSimpArgs false
theorem src_made {w2 w3 : World} {g : Nat} {s : ByteArray} (hs : s.size ≤ 2000) (hG : Glob w2) (hbox : w3.heap[g]? = some (.cells #[.slice (some ⟨w2.heap.size, 0, none⟩) s.size (grownCap w2 s.size 0 5), .string ⟨#[]⟩] 50 (0, 0))) (hb : Below (Go.Lib.bytesWorld w2 5 s).heap.size (Go.Lib.bytesWorld w2 5 s) w3) : Src w3 g w2.heap.size (grownCap w2 s.size 0 5) s := by
  refine ⟨(blk_cell hbox 0).trans rfl, fun j hj => ?_, grownCap_ge _ _ _ _, hs, ?_⟩
  · have h1 : (Go.Lib.bytesWorld w2 5 s).cell? ⟨w2.heap.size, j, none⟩ = some (.int .u8 (bt s j)) := by
      rw [Go.Lib.bytesWorld_cell w2 5 s j hj]
      congr 2
      unfold bt
      rw [dif_pos (show (j : Int).toNat < s.size by omega)]
      simp only [Int.toNat_natCast]
      rw [List.getD_eq_getElem?_getD, List.getElem?_eq_getElem (by simpa using hj)]
      rfl
    rw [hb.cell (World.block_lt_of_cell? _ _ h1)]; exact h1
  · exact Glob.below (tabs_of hG (fun a ha => Go.Lib.bytesWorld_old w2 5 s a ha)) hb
theorem num_le (s : ByteArray) (k : Int) (t : Nat) (h : num s = some (k, t)) : (k = 16 ∨ k = 17) ∧ t ≤ s.size := by
  have D : ∀ i : Nat, dg s i ≠ i → dg s i ≤ s.size := by
    intro i hi
    have : isD (nx s i) = true := by
      cases hx : isD (nx s i) with
      | true => rfl
      | false => exact absurd (dg_no s i hx) hi
    exact dg_le s i (by have := nx_in s i (by intro e; rw [e] at this; cases this); omega)
  have E : ∀ K p, (K = 16 ∨ K = 17) → p ≤ s.size → expo s K p = some (k, t) → (k = 16 ∨ k = 17) ∧ t ≤ s.size := by
    intro K p hK hp h
    unfold expo at h
    repeat' split at h
    all_goals first
      | (cases h; done)
      | (rename_i hne; simp only [Option.some.injEq, Prod.mk.injEq] at h; obtain ⟨rfl, rfl⟩ := h; first | exact ⟨.inr rfl, D _ hne⟩ | exact ⟨hK, hp⟩)
  have F : ∀ p, p ≤ s.size → frac s p = some (k, t) → (k = 16 ∨ k = 17) ∧ t ≤ s.size := by
    intro p hp h
    unfold frac at h
    repeat' split at h
    · cases h
    · rename_i hne; exact E _ _ (.inr rfl) (D _ hne) h
    · exact E _ _ (.inl rfl) hp h
  unfold num at h
  generalize (if nx s 0 = 45 then 1 else 0) = a at h
  unfold num1 at h
  split at h
  · cases h
  · rename_i hne
    exact F _ (D _ (fun e => hne (.inl e))) h
set_option maxHeartbeats 8000000 in
set_option maxRecDepth 100000 in
theorem lexRN_walk (s : ByteArray) (w : World) (hT : Glob w) (hs : s.size ≤ 2000) :
    Calls Tryz.prog 10 #[.string s] w fun e w' => ((num s = none ∧ ∃ gq : Nat, e = .returned (.tuple #[.agg #[.int .i64 0, .int .i64 0, .int .i64 0, .string ⟨#[]⟩], .iface 57 (.pointer (some ⟨gq, 0, none⟩))])) ∨ (∃ (k : Int) (t : Nat), num s = some (k, t) ∧ t ≤ s.size ∧ e = .returned (.tuple #[.agg #[.int .i64 k, .int .i64 0, .int .i64 t, .string (s.extract 0 t)], .nilIface]))) ∧ Below w.heap.size w w' := by
  have hcv : ∀ w' : World, _ := fun w' => Go.Lib.run_convert_string_bytes (P := Tryz.prog) w' 9 48 5 s (u := .string) (by kernel_rfl) (by kernel_rfl) (by kernel_rfl)
  have HT := Aside0.mk hT
  have HSZ := Aside0.mk hs
  have HB := Aside0.mk (Below.refl w.heap.size w)
  obtain ⟨c0, k0, hr0⟩ : ∃ c k : Int, rn s 0 = (c, k) := ⟨_, _, rfl⟩
  have HR := Aside0.mk hr0
  clear hT hs hr0
  go_enter Tryz.func10, Tryz.ntmps10
  go_wp2_with (first
    | ((with_reducible refine gate_dst (N := 2) rfl ?_); refine box_event ?hg (N := 2) ?hd (cs := #[.int .i64 0, .int .i64 0, .int .i64 0, .string ⟨#[]⟩]) (t := 38) ?hr ?_; (case hd => rfl); (case hg => rfl); (case hr => first | (go_simp; done) | (go_simp; rfl)); intro gb hg w2 hbox hb; have n0_ := Aside0.mk (below_step HB.out hb); have GE := Aside0.mk ((by rw [hg]; exact below_size HB.out : w.heap.size ≤ gb)); clear HB; have HB := n0_; have BK := Aside0.mk hbox; clear n0_ hb hbox hg)
    | ((with_reducible refine gate_dst (N := 10) rfl ?_); refine box_event ?hg (N := 10) ?hd (cs := #[.slice (some ⟨w2.heap.size, 0, none⟩) s.size (grownCap w2 s.size 0 5), .string ⟨#[]⟩]) (t := 50) ?hr ?_; (case hd => rfl); (case hg => rfl); (case hr => first | (go_simp; done) | (go_simp; rfl)); intro gs hg w3 hbox hb; have HS := Aside0.mk (src_made HSZ.out (Glob.below HT.out HB.out) hbox hb); have n1_ := Aside0.mk (blk_below (blk_below BK.out (bytes_below (Below.refl w2.heap.size w2) (Nat.le_refl _) 5 s)) hb); have n0_ := Aside0.mk (below_step (below_step HB.out (bytes_below (Below.refl w2.heap.size w2) (Nat.le_refl _) 5 s)) hb); clear HB BK; have HB := n0_; have BK := n1_; clear n0_ n1_ hb hbox hg; have hc0 := HS.out.body)
    | (go_at_call 15; refine (rn_call HS.out 0 (Nat.zero_le _) c0 k0 HR.out 0 rfl).mono ?_; rintro e w4 ⟨rfl, hB⟩; have HS4 := Aside0.mk (HS.out.below hB); have n0_ := Aside0.mk (below_step HB.out hB); have n1_ := Aside0.mk (blk_below BK.out hB); clear HB BK; have HB := n0_; have BK := n1_; clear n0_ n1_ hB)
    | (go_at_call 16; refine (readNumber_walk HS4.out c0 k0 HR.out).mono ?_; rintro e w5 ⟨hres, hB⟩; have n0_ := Aside0.mk (below_step HB.out hB); have n1_ := Aside0.mk (blk_below BK.out hB); clear HB BK; have HB := n0_; have BK := n1_; clear n0_ n1_ hB; have hz0 : w5.cell? ⟨gb, 0, none⟩ = some (.int .i64 0) := (blk_cell BK.out 0).trans rfl; have hz1 : w5.cell? ⟨gb, 1, none⟩ = some (.int .i64 0) := (blk_cell BK.out 1).trans rfl; have hz2 : w5.cell? ⟨gb, 2, none⟩ = some (.int .i64 0) := (blk_cell BK.out 2).trans rfl; have hz3 : w5.cell? ⟨gb, 3, none⟩ = some (.string ⟨#[]⟩) := (blk_cell BK.out 3).trans rfl; have hf0 := blk_frozen BK.out 0; have hf1 := blk_frozen BK.out 1; have hf2 := blk_frozen BK.out 2; have hf3 := blk_frozen BK.out 3; rcases hres with ⟨hnum, gq, rfl⟩ | ⟨k, t, hnum, ht, rfl⟩ <;> have HNUM := Aside0.mk hnum))
  · refine bodyPost_ret (results_ct rfl _ _ gb 38 #[.int .i64 0, .int .i64 0, .int .i64 0, .string ⟨#[]⟩] (0, 0) _ rfl (by refine blk_put (cs := #[.int .i64 0, .int .i64 0, .int .i64 0, .string ⟨#[]⟩]) ?_ 3 _ rfl; refine blk_put (cs := #[.int .i64 0, .int .i64 0, .int .i64 0, .string ⟨#[]⟩]) ?_ 2 _ rfl; refine blk_put (cs := #[.int .i64 0, .int .i64 0, .int .i64 0, .string ⟨#[]⟩]) ?_ 1 _ rfl; refine blk_put (cs := #[.int .i64 0, .int .i64 0, .int .i64 0, .string ⟨#[]⟩]) ?_ 0 _ rfl; exact BK.out) Tryz.underlying38 rfl (by kernel_rfl)) rfl ?_
    exact ⟨.inl ⟨HNUM.out, gq, rfl⟩, (below_set (below_set (below_set (below_set HB.out GE.out) GE.out) GE.out) GE.out)⟩
  · refine bodyPost_ret (results_ct rfl _ _ gb 38 #[.int .i64 k, .int .i64 0, .int .i64 t, .string (s.extract 0 t)] (0, 0) _ rfl (by refine blk_put (cs := #[.int .i64 k, .int .i64 0, .int .i64 t, .string ⟨#[]⟩]) ?_ 3 _ rfl; refine blk_put (cs := #[.int .i64 k, .int .i64 0, .int .i64 0, .string ⟨#[]⟩]) ?_ 2 _ rfl; refine blk_put (cs := #[.int .i64 k, .int .i64 0, .int .i64 0, .string ⟨#[]⟩]) ?_ 1 _ rfl; refine blk_put (cs := #[.int .i64 0, .int .i64 0, .int .i64 0, .string ⟨#[]⟩]) ?_ 0 _ rfl; exact BK.out) Tryz.underlying38 rfl (by kernel_rfl)) rfl ?_
    exact ⟨.inr ⟨k, t, HNUM.out, ht, rfl⟩, (below_set (below_set (below_set (below_set HB.out GE.out) GE.out) GE.out) GE.out)⟩
set_option maxHeartbeats 8000000 in
set_option maxRecDepth 100000 in
theorem implRN_walk (s : ByteArray) (w : World) (hT : Glob w) (hs : s.size ≤ 2000) :
    Calls Tryz.prog 6 #[.string s] w fun e w' => ((num s = none ∧ e = .returned (.tuple #[.agg #[.int .i64 0, .string ⟨#[]⟩, .int .i64 0, .int .i64 0], .bool false])) ∨ (∃ (k : Int) (t : Nat), num s = some (k, t) ∧ t ≤ s.size ∧ e = .returned (.tuple #[.agg #[.int .i64 k, .string (s.extract 0 t), .int .i64 0, .int .i64 t], .bool true]))) ∧ Below w.heap.size w w' := by
  have HT := Aside0.mk hT
  have HSZ := Aside0.mk hs
  have HB := Aside0.mk (Below.refl w.heap.size w)
  clear hT hs
  go_enter Tryz.func6, Tryz.ntmps6
  go_upto_region 2 with (first
    | ((with_reducible refine gate_dst (N := 2) rfl ?_); refine box_event ?hg (N := 2) ?hd (cs := #[.int .i64 0, .string ⟨#[]⟩, .int .i64 0, .int .i64 0]) (t := 24) ?hr ?_; (case hd => rfl); (case hg => rfl); (case hr => first | (go_simp; done) | (go_simp; rfl)); intro gb hg w2 hbox hb; have n0_ := Aside0.mk (below_step HB.out hb); have GE := Aside0.mk ((by rw [hg]; exact below_size HB.out : w.heap.size ≤ gb)); clear HB; have HB := n0_; have BK := Aside0.mk hbox; clear n0_ hb hbox hg)
    | ((with_reducible refine gate_dst (N := 4) rfl ?_); refine box_event ?hg (N := 4) ?hd (cs := #[.int .i64 0, .int .i64 0, .int .i64 0, .string ⟨#[]⟩]) (t := 38) ?hr ?_; (case hd => rfl); (case hg => rfl); (case hr => first | (go_simp; done) | (go_simp; rfl)); intro gt hg w4 hbox hb; have n0_ := Aside0.mk (below_step HB.out hb); have GT := Aside0.mk ((by rw [hg]; exact below_size HB.out : w.heap.size ≤ gt)); have NE := Aside0.mk ((by rw [hg]; exact Nat.ne_of_lt (blk_lt BK.out)) : gb ≠ gt); have n1_ := Aside0.mk (blk_below BK.out hb); clear HB BK; have HB := n0_; have BK := n1_; have BT := Aside0.mk hbox; clear n0_ n1_ hb hbox hg; have hne := NE.out; have hne2 : gt ≠ gb := fun e => NE.out e.symm; have htz0 : w4.cell? ⟨gt, 0, none⟩ = some (.int .i64 0) := (blk_cell BT.out 0).trans rfl; have htz1 : w4.cell? ⟨gt, 1, none⟩ = some (.int .i64 0) := (blk_cell BT.out 1).trans rfl; have htz2 : w4.cell? ⟨gt, 2, none⟩ = some (.int .i64 0) := (blk_cell BT.out 2).trans rfl; have htz3 : w4.cell? ⟨gt, 3, none⟩ = some (.string ⟨#[]⟩) := (blk_cell BT.out 3).trans rfl; have htf0 := blk_frozen BT.out 0; have htf1 := blk_frozen BT.out 1; have htf2 := blk_frozen BT.out 2; have htf3 := blk_frozen BT.out 3; have hbz0 : w4.cell? ⟨gb, 0, none⟩ = some (.int .i64 0) := (blk_cell BK.out 0).trans rfl; have hbz1 : w4.cell? ⟨gb, 1, none⟩ = some (.string ⟨#[]⟩) := (blk_cell BK.out 1).trans rfl; have hbz2 : w4.cell? ⟨gb, 2, none⟩ = some (.int .i64 0) := (blk_cell BK.out 2).trans rfl; have hbz3 : w4.cell? ⟨gb, 3, none⟩ = some (.int .i64 0) := (blk_cell BK.out 3).trans rfl; have hbf0 := blk_frozen BK.out 0; have hbf1 := blk_frozen BK.out 1; have hbf2 := blk_frozen BK.out 2; have hbf3 := blk_frozen BK.out 3)
    | (go_at_call 10; refine (lexRN_walk s _ (Glob.below HT.out HB.out) HSZ.out).mono ?_; rintro e w3 ⟨hres, hB⟩; have n0_ := Aside0.mk (below_step HB.out hB); have n1_ := Aside0.mk (blk_below BK.out hB); clear HB BK; have HB := n0_; have BK := n1_; clear n0_ n1_ hB; rcases hres with ⟨hnum, gq, rfl⟩ | ⟨k, t, hnum, ht, rfl⟩ <;> (have HNUM := Aside0.mk hnum; clear hnum)))
  · go_wp2
    refine bodyPost_ret (results_ct rfl _ _ gb 24 #[.int .i64 0, .string ⟨#[]⟩, .int .i64 0, .int .i64 0] (0, 0) _ rfl (by refine blk_put (cs := #[.int .i64 0, .string ⟨#[]⟩, .int .i64 0, .int .i64 0]) ?_ 3 _ rfl; refine blk_put (cs := #[.int .i64 0, .string ⟨#[]⟩, .int .i64 0, .int .i64 0]) ?_ 2 _ rfl; refine blk_put (cs := #[.int .i64 0, .string ⟨#[]⟩, .int .i64 0, .int .i64 0]) ?_ 1 _ rfl; refine blk_put (cs := #[.int .i64 0, .string ⟨#[]⟩, .int .i64 0, .int .i64 0]) ?_ 0 _ rfl; refine blk_far ?_ NE.out _; refine blk_far ?_ NE.out _; refine blk_far ?_ NE.out _; refine blk_far ?_ NE.out _; exact BK.out) Tryz.underlying24 rfl (by kernel_rfl)) rfl ?_
    exact ⟨.inl ⟨HNUM.out, rfl⟩, (below_set (below_set (below_set (below_set (below_set (below_set (below_set (below_set HB.out GT.out) GT.out) GT.out) GT.out) GE.out) GE.out) GE.out) GE.out)⟩
  · go_wp2_with (first | (go_at_call 11; refine (impl_token.calls k 0 (t : Int) (s.extract 0 t) k (s.extract 0 t) 0 (t : Int) _ rfl).mono ?_; rintro e w6 ⟨rfl, hB⟩; have n0_ := Aside0.mk (below_step (below_set (below_set (below_set (below_set HB.out GT.out) GT.out) GT.out) GT.out) hB); have n1_ := Aside0.mk (blk_below (blk_far (p := ⟨gt, _, none⟩) (blk_far (p := ⟨gt, _, none⟩) (blk_far (p := ⟨gt, _, none⟩) (blk_far (p := ⟨gt, _, none⟩) BK.out NE.out _) NE.out _) NE.out _) NE.out _) hB); clear HB BK; have HB := n0_; have BK := n1_; clear n0_ n1_ hB; have hcz0 : w6.cell? ⟨gb, 0, none⟩ = some (.int .i64 0) := (blk_cell BK.out 0).trans rfl; have hcz1 : w6.cell? ⟨gb, 1, none⟩ = some (.string ⟨#[]⟩) := (blk_cell BK.out 1).trans rfl; have hcz2 : w6.cell? ⟨gb, 2, none⟩ = some (.int .i64 0) := (blk_cell BK.out 2).trans rfl; have hcz3 : w6.cell? ⟨gb, 3, none⟩ = some (.int .i64 0) := (blk_cell BK.out 3).trans rfl; have hcf0 := blk_frozen BK.out 0; have hcf1 := blk_frozen BK.out 1; have hcf2 := blk_frozen BK.out 2; have hcf3 := blk_frozen BK.out 3))
    refine bodyPost_ret (results_ct rfl _ _ gb 24 #[.int .i64 k, .string (s.extract 0 t), .int .i64 0, .int .i64 t] (0, 0) _ rfl (by refine blk_put (cs := #[.int .i64 k, .string (s.extract 0 t), .int .i64 0, .int .i64 0]) ?_ 3 _ rfl; refine blk_put (cs := #[.int .i64 k, .string (s.extract 0 t), .int .i64 0, .int .i64 0]) ?_ 2 _ rfl; refine blk_put (cs := #[.int .i64 k, .string ⟨#[]⟩, .int .i64 0, .int .i64 0]) ?_ 1 _ rfl; refine blk_put (cs := #[.int .i64 0, .string ⟨#[]⟩, .int .i64 0, .int .i64 0]) ?_ 0 _ rfl; exact BK.out) Tryz.underlying24 rfl (by kernel_rfl)) rfl ?_
    exact ⟨.inr ⟨k, t, HNUM.out, ht, rfl⟩, (below_set (below_set (below_set (below_set HB.out GE.out) GE.out) GE.out) GE.out)⟩
set_option maxHeartbeats 8000000 in
set_option maxRecDepth 100000 in
theorem specRN_walk (s : ByteArray) (w : World) (hs : s.size ≤ 2000) :
    Calls Tryz.prog 5 #[.string s] w fun e w' => ((num s = none ∧ e = .returned (.tuple #[.agg #[.int .i64 0, .string ⟨#[]⟩, .int .i64 0, .int .i64 0], .bool false, .bool true])) ∨ (∃ (k : Int) (t : Nat), num s = some (k, t) ∧ t ≤ s.size ∧ e = .returned (.tuple #[.agg #[.int .i64 k, .string (s.extract 0 t), .int .i64 0, .int .i64 t], .bool true, .bool true]))) ∧ Below w.heap.size w w' := by
  have HB := Aside0.mk (Below.refl w.heap.size w)
  have hf := num_f s hs 0 [] false false
  cases hn : num s with
  | none =>
    rw [hn] at hf
    have HF := Aside0.mk hf
    clear hf hn hs
    go_enter Tryz.func5, Tryz.ntmps5
    go_wp2_with (first | ((with_reducible refine gate_dst (N := 2) rfl ?_); refine box_event ?hg (N := 2) ?hd (cs := #[.int .i64 0, .string ⟨#[]⟩, .int .i64 0, .int .i64 0]) (t := 24) ?hr ?_; (case hd => rfl); (case hg => rfl); (case hr => first | (go_simp; done) | (go_simp; rfl)); intro gb hg w2 hbox hb; have n0_ := Aside0.mk (below_step HB.out hb); have GE := Aside0.mk ((by rw [hg]; exact below_size HB.out : w.heap.size ≤ gb)); clear HB; have HB := n0_; have BK := Aside0.mk hbox; clear n0_ hb hbox hg) | ((with_reducible refine gate_dst (N := 10) rfl ?_); refine box_event ?hg (N := 10) ?hd (cs := #[.string s, .int .i64 0, .slice none 0 0, .bool false, .bool false]) (t := 33) ?hr ?_; (case hd => rfl); (case hg => rfl); (case hr => first | (go_simp; done) | (go_simp; rfl)); intro gl hg w3 hbox hb; have HI := Aside0.mk (show IsS33 w2 w3 gl s 0 [] false false from ⟨none, 0, hbox, Nat.le_of_eq hg.symm, Kd.C_nil _ _⟩); have HB3 := Aside0.mk hb; clear hb hbox hg) | (go_at_call 9; refine (spec_lexer_numeral.calls 2020 gl s 0 [] false false 0 (0) (0) s 0 false false w2 w3 HI.out HB3.out HF.out).mono ?_; rintro e w4 ⟨rfl, hI4, hB, hK4⟩; clear hI4 hK4; have n0_ := Aside0.mk (below_step HB.out hB); have n1_ := Aside0.mk (blk_below BK.out hB); clear HB BK; have HB := n0_; have BK := n1_; clear n0_ n1_ hB; have hbz0 : w4.cell? ⟨gb, 0, none⟩ = some (.int .i64 0) := (blk_cell BK.out 0).trans rfl; have hbz1 : w4.cell? ⟨gb, 1, none⟩ = some (.string ⟨#[]⟩) := (blk_cell BK.out 1).trans rfl; have hbz2 : w4.cell? ⟨gb, 2, none⟩ = some (.int .i64 0) := (blk_cell BK.out 2).trans rfl; have hbz3 : w4.cell? ⟨gb, 3, none⟩ = some (.int .i64 0) := (blk_cell BK.out 3).trans rfl; have hbf0 := blk_frozen BK.out 0; have hbf1 := blk_frozen BK.out 1; have hbf2 := blk_frozen BK.out 2; have hbf3 := blk_frozen BK.out 3))
    refine bodyPost_ret (results_ctt rfl _ _ gb 24 #[.int .i64 0, .string ⟨#[]⟩, .int .i64 0, .int .i64 0] (0, 0) _ rfl (by refine blk_put (cs := #[.int .i64 0, .string ⟨#[]⟩, .int .i64 0, .int .i64 0]) ?_ 3 _ rfl; refine blk_put (cs := #[.int .i64 0, .string ⟨#[]⟩, .int .i64 0, .int .i64 0]) ?_ 2 _ rfl; refine blk_put (cs := #[.int .i64 0, .string ⟨#[]⟩, .int .i64 0, .int .i64 0]) ?_ 1 _ rfl; refine blk_put (cs := #[.int .i64 0, .string ⟨#[]⟩, .int .i64 0, .int .i64 0]) ?_ 0 _ rfl; exact BK.out) Tryz.underlying24 rfl (by kernel_rfl)) rfl ?_
    exact ⟨.inl ⟨by first | rfl | trivial, rfl⟩, (below_set (below_set (below_set (below_set HB.out GE.out) GE.out) GE.out) GE.out)⟩
  | some kt =>
    obtain ⟨k, t⟩ := kt
    rw [hn] at hf
    have HF := Aside0.mk hf
    obtain ⟨hk, ht⟩ := num_le s k t hn
    have HTT := Aside0.mk ht
    have e0 : (k == 0) = false := beq_eq_false_iff_ne.mpr (by omega)
    clear hf hn hs hk
    go_enter Tryz.func5, Tryz.ntmps5
    go_wp2_with (first | ((with_reducible refine gate_dst (N := 2) rfl ?_); refine box_event ?hg (N := 2) ?hd (cs := #[.int .i64 0, .string ⟨#[]⟩, .int .i64 0, .int .i64 0]) (t := 24) ?hr ?_; (case hd => rfl); (case hg => rfl); (case hr => first | (go_simp; done) | (go_simp; rfl)); intro gb hg w2 hbox hb; have n0_ := Aside0.mk (below_step HB.out hb); have GE := Aside0.mk ((by rw [hg]; exact below_size HB.out : w.heap.size ≤ gb)); clear HB; have HB := n0_; have BK := Aside0.mk hbox; clear n0_ hb hbox hg) | ((with_reducible refine gate_dst (N := 10) rfl ?_); refine box_event ?hg (N := 10) ?hd (cs := #[.string s, .int .i64 0, .slice none 0 0, .bool false, .bool false]) (t := 33) ?hr ?_; (case hd => rfl); (case hg => rfl); (case hr => first | (go_simp; done) | (go_simp; rfl)); intro gl hg w3 hbox hb; have HI := Aside0.mk (show IsS33 w2 w3 gl s 0 [] false false from ⟨none, 0, hbox, Nat.le_of_eq hg.symm, Kd.C_nil _ _⟩); have HB3 := Aside0.mk hb; clear hb hbox hg) | (go_at_call 9; refine (spec_lexer_numeral.calls 2020 gl s 0 [] false false 0 (k) ((t : Int)) s 0 false false w2 w3 HI.out HB3.out HF.out).mono ?_; rintro e w4 ⟨rfl, hI4, hB, hK4⟩; clear hI4 hK4; have n0_ := Aside0.mk (below_step HB.out hB); have n1_ := Aside0.mk (blk_below BK.out hB); clear HB BK; have HB := n0_; have BK := n1_; clear n0_ n1_ hB; have hbz0 : w4.cell? ⟨gb, 0, none⟩ = some (.int .i64 0) := (blk_cell BK.out 0).trans rfl; have hbz1 : w4.cell? ⟨gb, 1, none⟩ = some (.string ⟨#[]⟩) := (blk_cell BK.out 1).trans rfl; have hbz2 : w4.cell? ⟨gb, 2, none⟩ = some (.int .i64 0) := (blk_cell BK.out 2).trans rfl; have hbz3 : w4.cell? ⟨gb, 3, none⟩ = some (.int .i64 0) := (blk_cell BK.out 3).trans rfl; have hbf0 := blk_frozen BK.out 0; have hbf1 := blk_frozen BK.out 1; have hbf2 := blk_frozen BK.out 2; have hbf3 := blk_frozen BK.out 3))
    refine bodyPost_ret (results_ctt rfl _ _ gb 24 #[.int .i64 k, .string (s.extract 0 t), .int .i64 0, .int .i64 t] (0, 0) _ rfl (by refine blk_put (cs := #[.int .i64 k, .string (s.extract 0 t), .int .i64 0, .int .i64 0]) ?_ 3 _ rfl; refine blk_put (cs := #[.int .i64 k, .string (s.extract 0 t), .int .i64 0, .int .i64 0]) ?_ 2 _ rfl; refine blk_put (cs := #[.int .i64 k, .string ⟨#[]⟩, .int .i64 0, .int .i64 0]) ?_ 1 _ rfl; refine blk_put (cs := #[.int .i64 0, .string ⟨#[]⟩, .int .i64 0, .int .i64 0]) ?_ 0 _ rfl; exact BK.out) Tryz.underlying24 rfl (by kernel_rfl)) rfl ?_
    exact ⟨.inr ⟨k, t, by first | rfl | trivial, HTT.out, rfl⟩, (below_set (below_set (below_set (below_set HB.out GE.out) GE.out) GE.out) GE.out)⟩
end Go.Proofs.YtmlochnckplalaaGreatDoor.PFnReadNumber
