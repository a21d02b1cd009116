/- A part of the proof of the theorem of this claim: Mkp, Rdv, Srd, Sut. No condition of its own. -/
import Derived.Test.YthgcghpcikbnkaaGreatDoorA30
import Derived.Test.YthgcghpcikbnkaaGreatDoorA20
import Derived.Test.YthgcghpcikbnkaaGreatDoorA21
import Derived.Test.YthgcghpcikbnkaaGreatDoorA24
import Derived.Test.YthgcghpcikbnkaaGreatDoorA13
set_option maxHeartbeats 16000000
set_option maxRecDepth 100000
namespace Go.Proofs.YthgcghpcikbnkaaGreatDoor.R
open Go.RowKit Go.Proofs.YthgcghpcikbnkaaGreatDoorW.PrintWords Go.Proofs.YthgcghpcikbnkaaGreatDoorW.PrintLast Go.Proofs.YthgcghpcikbnkaaGreatDoorW.PrintMore
set_option linter.unusedVariables false
set_option linter.unusedSimpArgs false
theorem lex_walk2 {w : World} (g : Nat) :
 Calls Tryz.prog 78 #[.pointer (some ⟨g, 0, none⟩)] w fun e w' => (∃ c s : Nat, e = .returned (lexf c s) ∧ s < c ∧ w.heap.size ≤ c ∧ w.heap.size ≤ s ∧ w'.heap[c]? = some (.cells #[.int .i64 0] 3 (0, 0)) ∧ w'.heap[s]? = some (.cells #[.pointer (some ⟨g, 0, none⟩)] 66 (0, 0))) ∧ Below w.heap.size w w' := by
 go_enter Tryz.func78, Tryz.ntmps78
 go_wp2
 go_ret
 refine ⟨⟨w.heap.size + 1, w.heap.size, rfl, by omega, by omega, by omega, ?_, ?_⟩, below_alloc (below_alloc (Below.refl _ _) _) _⟩
 ·have h := heap_alloc_new (w.alloc (.cells #[.pointer (some ⟨g, 0, none⟩)] 66)) (.cells #[.int .i64 0] 3 (0, 0))
  rw [World.size_alloc] at h
  exact h
 ·exact blk_below (heap_alloc_new w _) (below_alloc (Below.refl _ _) _)
theorem makeParser_ok {w : World} {g : Nat} {k a z : Int} {v : ByteArray}
 (hC : ∀ W, Below w.heap.size w W → Calls Tryz.prog 99 #[.pointer (some ⟨g, 0, none⟩), .int .i64 0] W fun e W' => e = .returned (.tuple #[.agg #[.int .i64 k, .int .i64 a, .int .i64 z, .string v], .nilIface]) ∧ Below W.heap.size W W') :
 Calls Tryz.prog 46 #[.pointer (some ⟨g, 0, none⟩), .agg #[.bool false, .bool false]] w fun e w' => (∃ gp gc gs : Nat, e = .returned (.tuple #[.pointer (some ⟨gp, 0, none⟩), .nilIface]) ∧ Psr w' w.heap.size gp gc gs g 0 z k a z v ∧ gs < gc ∧ gc < gp) ∧ Below w.heap.size w w' := by
 have HC := mkA hC
 have HB := mkA (Below.refl w.heap.size w)
 clear hC
 go_enter Tryz.func46, Tryz.ntmps46
 go_wp2_with (first
  | ((with_reducible refine gate_dst (N := 3) rfl ?_); refine box_event ?hg (N := 3) ?hd (cs := #[.bool false, .bool false]) (t := 68) ?hr ?_; (case hd => rfl); (case hg => rfl); (case hr => first | (go_simp; done) | (go_simp; rfl)); intro go hg w2 hbox hb; have n0_ := mkA (below_step HB.out hb); clear HB; have HB := n0_; have BO := mkA hbox; clear n0_ hb hbox hg)
  | (go_at_call 78; (with_reducible refine (lex_walk2 _).mono ?_); rintro e w3 ⟨⟨gc, gs, rfl, n1, n2, n3, n4, n5⟩, hB⟩; unfold lexf; have BC := mkA n4; have BS := mkA n5; have NLT := mkA n1; have NN := mkA (Nat.ne_of_gt n1); have LC := mkA (Nat.le_trans (below_size HB.out) n2); have LS := mkA (Nat.le_trans (below_size HB.out) n3); have n0_ := mkA (below_step HB.out hB); have n1_ := mkA (blk_below BO.out hB); have n2_ := mkA (show go ≠ gc from Nat.ne_of_lt (Nat.lt_of_lt_of_le (blk_lt BO.out) n2)); clear HB BO hB n1 n2 n3 n4 n5; have HB := n0_; have BO := n1_; have OC := n2_; clear n0_ n1_ n2_)
  | (go_at_call 98; (with_reducible refine (lexfn_walk (B := w.heap.size) LC.out (below_size HB.out) BC.out BS.out NN.out (.inl ⟨rfl, rfl⟩) (fun W hW => HC.out W (below_step HB.out hW))).mono ?_); rintro e w4 ⟨rfl, h1, h2, h3⟩; have n0_ := mkA (HB.out.trans h2); have n1_ := mkA (h3.blk BO.out OC.out (by simp)); have n2_ := mkA h1; have n3_ := mkA (h3.blk BS.out (Ne.symm NN.out) (by simp)); clear HB BO BC BS h1 h2 h3; have HB := n0_; have BO := n1_; have BC := n2_; have BS := n3_; clear n0_ n1_ n2_ n3_; have o0 : w4.cell? ⟨go, 0, none⟩ = some (.bool false) := (blk_cell BO.out 0).trans rfl; have o1 : w4.cell? ⟨go, 1, none⟩ = some (.bool false) := (blk_cell BO.out 1).trans rfl)
  | ((with_reducible refine gate_dst (N := 7) rfl ?_); refine box_event ?hg (N := 7) ?hd (cs := #[.int .i64 0, .int .i64 0, .int .i64 0, .string ⟨#[]⟩]) (t := 63) ?hr ?_; (case hd => rfl); (case hg => rfl); (case hr => first | (go_simp; done) | (go_simp; rfl)); intro gt hg w5 hbox hb; have n0_ := mkA (below_step HB.out hb); have GT := mkA ((by rw [hg]; exact below_size HB.out : w.heap.size ≤ gt)); have n1_ := mkA (blk_below BC.out hb); have n2_ := mkA (blk_below BO.out hb); have n3_ := mkA (blk_below BS.out hb); have TC := mkA (show gc ≠ gt from by rw [hg]; exact Nat.ne_of_lt (blk_lt BC.out)); have TS := mkA (show gs ≠ gt from by rw [hg]; exact Nat.ne_of_lt (blk_lt BS.out)); have TO := mkA (show go ≠ gt from by rw [hg]; exact Nat.ne_of_lt (blk_lt BO.out)); clear HB BC BO BS; have HB := n0_; have BC := n1_; have BO := n2_; have BS := n3_; have BT := mkA hbox; clear n0_ n1_ n2_ n3_ hb hbox hg; have hne1 := TO.out; have hne2 : gt ≠ go := fun e => TO.out e.symm; have o0 : w5.cell? ⟨go, 0, none⟩ = some (.bool false) := (blk_cell BO.out 0).trans rfl; have o1 : w5.cell? ⟨go, 1, none⟩ = some (.bool false) := (blk_cell BO.out 1).trans rfl; obtain ⟨tz0, tz1, tz2, tz3, tf0, tf1, tf2, tf3⟩ := tkz BT.out)
  | ((with_reducible refine gate_dst (N := 26) rfl ?_); refine box_event ?hg (N := 26) ?hd (cs := #[lexf gc gs, .pointer (some ⟨g, 0, none⟩), .bool false, .bool false, .int .i64 0, .int .i64 k, .int .i64 a, .int .i64 z, .string v]) (t := 70) ?hr ?_; (case hd => rfl); (case hg => rfl); (case hr => first | (go_simp; done) | (go_simp; rfl)); intro gp hg w6 hbox hb; have HQ := mkA hb; have BP := mkA hbox; have GP := mkA hg; clear hb hbox hg))
 have bc := blk_below (blk_far (p := ⟨gt, 3, none⟩) (blk_far (p := ⟨gt, 2, none⟩) (blk_far (p := ⟨gt, 1, none⟩) (blk_far (p := ⟨gt, 0, none⟩) BC.out TC.out (.int .i64 k)) TC.out (.int .i64 a)) TC.out (.int .i64 z)) TC.out (.string v)) HQ.out
 have bs := blk_below (blk_far (p := ⟨gt, 3, none⟩) (blk_far (p := ⟨gt, 2, none⟩) (blk_far (p := ⟨gt, 1, none⟩) (blk_far (p := ⟨gt, 0, none⟩) BS.out TS.out (.int .i64 k)) TS.out (.int .i64 a)) TS.out (.int .i64 z)) TS.out (.string v)) HQ.out
 have hb := below_set (j := 3) (v := .string v) (below_set (j := 2) (v := .int .i64 z) (below_set (j := 1) (v := .int .i64 a) (below_set (j := 0) (v := .int .i64 k) HB.out GT.out) GT.out) GT.out) GT.out
 have hp : w.heap.size ≤ gp := by rw [GP.out]; exact below_size hb
 have e1 : gp ≠ gc := fun e => by
  have h1 := blk_lt (blk_far (p := ⟨gt, 3, none⟩) (blk_far (p := ⟨gt, 2, none⟩) (blk_far (p := ⟨gt, 1, none⟩) (blk_far (p := ⟨gt, 0, none⟩) BC.out TC.out (.int .i64 k)) TC.out (.int .i64 a)) TC.out (.int .i64 z)) TC.out (.string v))
  rw [← GP.out, ← e] at h1; exact Nat.lt_irrefl _ h1
 have e2 : gp ≠ gs := fun e => by
  have h1 := blk_lt (blk_far (p := ⟨gt, 3, none⟩) (blk_far (p := ⟨gt, 2, none⟩) (blk_far (p := ⟨gt, 1, none⟩) (blk_far (p := ⟨gt, 0, none⟩) BS.out TS.out (.int .i64 k)) TS.out (.int .i64 a)) TS.out (.int .i64 z)) TS.out (.string v))
  rw [← GP.out, ← e] at h1; exact Nat.lt_irrefl _ h1
 have e3 : gc < gp := by
  have h1 := blk_lt (blk_far (p := ⟨gt, 3, none⟩) (blk_far (p := ⟨gt, 2, none⟩) (blk_far (p := ⟨gt, 1, none⟩) (blk_far (p := ⟨gt, 0, none⟩) BC.out TC.out (.int .i64 k)) TC.out (.int .i64 a)) TC.out (.int .i64 z)) TC.out (.string v))
  rw [← GP.out] at h1; exact h1
 go_ret2
 exact ⟨⟨gp, gc, gs, rfl, ⟨⟨BP.out, bc, bs⟩, ⟨hp, LC.out, LS.out⟩, NN.out, e1, e2⟩, NLT.out, e3⟩, below_step hb HQ.out⟩
theorem makeParser_err {w : World} {g : Nat}
 (hC : ∀ W, Below w.heap.size w W → Calls Tryz.prog 99 #[.pointer (some ⟨g, 0, none⟩), .int .i64 0] W fun e W' => (∃ (k a z : Int) (v : ByteArray) (te : TypeId) (x : Value), e = .returned (.tuple #[.agg #[.int .i64 k, .int .i64 a, .int .i64 z, .string v], .iface te x])) ∧ Below W.heap.size W W') :
 Calls Tryz.prog 46 #[.pointer (some ⟨g, 0, none⟩), .agg #[.bool false, .bool false]] w fun e w' => (∃ (v : Value) (te : TypeId) (x : Value), e = .returned (.tuple #[v, .iface te x])) ∧ Below w.heap.size w w' := by
 have HC := mkA hC
 have HB := mkA (Below.refl w.heap.size w)
 clear hC
 go_enter Tryz.func46, Tryz.ntmps46
 go_wp2_with (first
  | ((with_reducible refine gate_dst (N := 3) rfl ?_); refine box_event ?hg (N := 3) ?hd (cs := #[.bool false, .bool false]) (t := 68) ?hr ?_; (case hd => rfl); (case hg => rfl); (case hr => first | (go_simp; done) | (go_simp; rfl)); intro go hg w2 hbox hb; have n0_ := mkA (below_step HB.out hb); clear HB; have HB := n0_; clear n0_ hb hbox hg)
  | (go_at_call 78; (with_reducible refine (lex_walk2 _).mono ?_); rintro e w3 ⟨⟨gc, gs, rfl, n1, n2, n3, n4, n5⟩, hB⟩; unfold lexf; have BC := mkA n4; have BS := mkA n5; have n0_ := mkA (below_step HB.out hB); clear HB hB n1 n2 n3 n4 n5; have HB := n0_; clear n0_)
  | (go_at_call 98; (with_reducible refine (lexfn_err BC.out BS.out (.inl ⟨rfl, rfl⟩) (fun W hW => HC.out W (below_step HB.out hW))).mono ?_); rintro e w4 ⟨⟨k, a, z, v, te, x, rfl⟩, h2⟩; have n0_ := mkA (below_step HB.out h2); clear HB BC BS h2; have HB := n0_; clear n0_)
  | ((with_reducible refine gate_dst (N := 7) rfl ?_); refine box_event ?hg (N := 7) ?hd (cs := #[.int .i64 0, .int .i64 0, .int .i64 0, .string ⟨#[]⟩]) (t := 63) ?hr ?_; (case hd => rfl); (case hg => rfl); (case hr => first | (go_simp; done) | (go_simp; rfl)); intro gt hg w5 hbox hb; have HB0 := HB; have n0_ := mkA (below_step HB.out hb); clear HB; have HB := n0_; have GT := mkA (show w.heap.size ≤ gt by rw [hg]; exact HB0.out.size); have BT := mkA hbox; clear n0_ hb hbox hg; obtain ⟨tz0, tz1, tz2, tz3, tf0, tf1, tf2, tf3⟩ := tkz BT.out)
  | ((with_reducible refine gate_dst (N := 19) rfl ?_); refine box_event ?hg (N := 19) ?hd (cs := #[.nilFunc, .pointer none, .bool false, .bool false, .int .i64 0, .int .i64 0, .int .i64 0, .int .i64 0, .string ⟨#[]⟩]) (t := 70) ?hr ?_; (case hd => rfl); (case hg => rfl); (case hr => first | (go_simp; done) | (go_simp; rfl)); intro gp hg w6 hbox hb; have n0_ := mkA (below_step (below_set (below_set (below_set (below_set HB.out GT.out) GT.out) GT.out) GT.out) hb); clear HB; have HB := n0_; clear n0_ hb hbox hg))
 go_ret2
 exact ⟨⟨_, te, x, rfl⟩, HB.out⟩
def RTokS (s : ByteArray) : Prop := ∀ (g b cap p : Nat) (l : List Tk), Lexes BVal s p l → ∀ w, Src w g b cap s → Calls Tryz.prog 99 #[ptr g, .int .i64 p] w (RdP w l)
theorem src_made {w w2 w3 : World} {g : Nat} {s v : ByteArray} (hs : s.size ≤ 2000) (hG : Glob w) (hb2 : Below w.heap.size w w2) (hbox : w3.heap[g]? = some (.cells #[.slice (some ⟨w2.heap.size, 0, none⟩) s.size (grownCap w2 s.size 0 5), .string ⟨#[]⟩] 111 (0, 0))) (hb : Below (Go.Lib.bytesWorld w2 5 s).heap.size (Go.Lib.bytesWorld w2 5 s) w3) (hg : w2.heap.size ≤ g) (hg1 : 1 ≤ s.size → w2.heap.size < g) :
 Src (w3.setCell ⟨g, 1, none⟩ (.string v)) g w2.heap.size (grownCap w2 s.size 0 5) s ∧ Below w.heap.size w (w3.setCell ⟨g, 1, none⟩ (.string v)) := by
 have hall : Below w.heap.size w (w3.setCell ⟨g, 1, none⟩ (.string v)) := below_set (below_step (below_step hb2 (bytes_below (Below.refl w2.heap.size w2) (Nat.le_refl _) 5 s)) hb) (Nat.le_trans hb2.size hg)
 refine ⟨⟨(blk_cell (blk_put hbox 1 (.string v) rfl) 0).trans rfl, fun j hj => ?_, grownCap_ge _ _ _ _, hs, Glob.below hG hall⟩, hall⟩
 have h1 : (Go.Lib.bytesWorld w2 5 s).cell? ⟨w2.heap.size, j, none⟩ = some (.int .u8 (bt s j)) := by
  rw [Go.Lib.bytesWorld_cell w2 5 s j hj]
  congr 2
  unfold bt
  rw [dif_pos (show (j : Int).toNat < s.size by omega)]
  simp only [Int.toNat_natCast]
  rw [List.getD_eq_getElem?_getD, List.getElem?_eq_getElem (by simpa using hj)]
  rfl
 have h2 : w3.cell? ⟨w2.heap.size, j, none⟩ = some (.int .u8 (bt s j)) := by
  rw [hb.cell (World.block_lt_of_cell? _ _ h1)]; exact h1
 have h3 := (Below.refl g w3).setCell (p := ⟨g, 1, none⟩) (Nat.le_refl _) (.string v)
 rw [h3.cell (show w2.heap.size < g from hg1 (by omega))]; exact h2
theorem lt_made {w2 : World} {g : Nat} {s : ByteArray} (hg : g = (Go.Lib.bytesWorld w2 5 s).heap.size) (h1 : 1 ≤ s.size) : w2.heap.size < g := by
 rw [hg]
 exact World.block_lt_of_cell? _ _ (Go.Lib.bytesWorld_cell w2 5 s 0 (by omega))
def BegP (w : World) (s : ByteArray) (l : List Tk) (e : Ending) (w' : World) : Prop :=
 Below w.heap.size w w' ∧ match l with
 | [] => ∃ (v : Value) (te : TypeId) (x : Value), e = .returned (.tuple #[v, .iface te x])
 | t :: r => ∃ C : Cx, C.s = s ∧ w.heap.size ≤ C.gc ∧ w.heap.size ≤ C.gp ∧ PS C w' t r ∧ e = .returned (.tuple #[ptr C.gp, .nilIface])
theorem glob_two {w : World} (h : Glob w) : 2 ≤ w.heap.size := by
 have := World.block_lt_of_cell? w _ (h.2 0 (by omega)).1
 exact this
theorem begin_walk {s : ByteArray} (hRT : RTokS s) (hs : s.size ≤ 2000) {w : World} (hG : Glob w) {l : List Tk} (hL : Lexes BVal s 0 l) : Calls Tryz.prog 23 #[.string s] w (BegP w s l) := by
 have hcv : ∀ w' : World, _ := fun w' => Go.Lib.run_convert_string_bytes (P := Tryz.prog) w' 9 109 5 s (u := .string) (by kernel_rfl) (by kernel_rfl) (by kernel_rfl)
 have HRT := mkA hRT
 have HT := mkA hs
 have HG := mkA hG
 have HL := mkA hL
 clear hRT hs hG hL
 cases l with
 | nil =>
   go_enter Tryz.func23, Tryz.ntmps23
   go_wp2_with (first
    | ((with_reducible refine gate_dst (N := 7) rfl ?_); refine box_event ?hg (N := 7) ?hd (cs := #[.slice (some ⟨w.heap.size, 0, none⟩) s.size (grownCap w s.size 0 5), .string ⟨#[]⟩]) (t := 111) ?hr ?_; (case hd => rfl); (case hg => rfl); (case hr => first | (go_simp; done) | (go_simp; rfl)); intro gs hg w3 hbox hb; have HQ := mkA hb; have BS := mkA hbox; have GS := mkA hg; have GE := mkA (show w.heap.size ≤ gs by rw [hg]; exact (bytes_below (Below.refl w.heap.size w) (Nat.le_refl _) 5 s).size); clear hb hbox hg)
    | (go_at_call 47; refine (newSource_walk BS.out).mono ?_; rintro e w4 ⟨rfl, hw⟩; have HM := mkA (src_made (v := ⟨#[71, 114, 97, 112, 104, 81, 76]⟩) HT.out HG.out (Below.refl _ _) BS.out HQ.out GE.out (lt_made GS.out)); rw [← hw] at HM; clear hw HQ BS; have HS4 := mkA HM.out.1; have HB4 := mkA HM.out.2; have GL := mkA (show gs < w4.heap.size from World.block_lt_of_cell? _ _ HS4.out.body); clear HM)
    | (go_at_call 46; refine (makeParser_err (fun W hW => by refine (HRT.out gs w.heap.size (grownCap w s.size 0 5) 0 _ HL.out W (HS4.out.below hW)).mono ?_; rintro e W' ⟨h1, h2⟩; exact ⟨h1, h2⟩)).mono ?_; rintro e w5 ⟨⟨v_, te, x, rfl⟩, hB⟩; have HB5 := mkA hB; clear hB))
   go_ret2
   exact ⟨below_step HB4.out HB5.out, _, te, x, rfl⟩
 | cons t r =>
   go_enter Tryz.func23, Tryz.ntmps23
   go_wp2_with (first
    | ((with_reducible refine gate_dst (N := 7) rfl ?_); refine box_event ?hg (N := 7) ?hd (cs := #[.slice (some ⟨w.heap.size, 0, none⟩) s.size (grownCap w s.size 0 5), .string ⟨#[]⟩]) (t := 111) ?hr ?_; (case hd => rfl); (case hg => rfl); (case hr => first | (go_simp; done) | (go_simp; rfl)); intro gs hg w3 hbox hb; have HQ := mkA hb; have BS := mkA hbox; have GS := mkA hg; have GE := mkA (show w.heap.size ≤ gs by rw [hg]; exact (bytes_below (Below.refl w.heap.size w) (Nat.le_refl _) 5 s).size); clear hb hbox hg)
    | (go_at_call 47; refine (newSource_walk BS.out).mono ?_; rintro e w4 ⟨rfl, hw⟩; have HM := mkA (src_made (v := ⟨#[71, 114, 97, 112, 104, 81, 76]⟩) HT.out HG.out (Below.refl _ _) BS.out HQ.out GE.out (lt_made GS.out)); rw [← hw] at HM; clear hw HQ BS; have HS4 := mkA HM.out.1; have HB4 := mkA HM.out.2; have GL := mkA (show gs < w4.heap.size from World.block_lt_of_cell? _ _ HS4.out.body); clear HM)
    | (go_at_call 46; refine (makeParser_ok (fun W hW => by refine (HRT.out gs w.heap.size (grownCap w s.size 0 5) 0 _ HL.out W (HS4.out.below hW)).mono ?_; rintro e W' ⟨h1, h2⟩; exact ⟨h1, h2⟩)).mono ?_; rintro e w5 ⟨⟨gp, gc, gf, rfl, hP, h5, h6⟩, hB⟩; have HP := mkA hP; have H56 := mkA (And.intro h5 h6); have HB5 := mkA hB; clear hP hB h5 h6))
   go_ret2
   obtain ⟨⟨b1, b2, b3⟩, ⟨l1, l2, l3⟩, n1, n2, n3⟩ := HP.out
   have h2 := glob_two HG.out
   have hw4 := HB4.out.size
   have hgs := GE.out
   have hgl := GL.out
   have hbe := World.block_lt_of_cell? _ _ HS4.out.body
   obtain ⟨f1, f2⟩ := lex_head HL.out
   have h56 := H56.out
   refine ⟨below_step HB4.out HB5.out, ⟨s, gp, gc, gf, gs, w.heap.size, grownCap w s.size 0 5, w5.heap.size⟩, rfl, ?_, ?_, ⟨⟨?_, ?_, h56.1, h56.2, blk_lt b1, ?_, fun p l hl w hw => HRT.out _ _ _ p l hl w hw⟩, ⟨_, b1⟩, ⟨_, b2⟩, b3, HS4.out.below HB5.out, Nat.le_refl _, f1, f2⟩, rfl⟩
   ·show w.heap.size ≤ gc; omega
   ·show w.heap.size ≤ gp; omega
   ·show w.heap.size < gf; omega
   ·show gs < gf; omega
   ·show 2 ≤ gf; omega
def DoorP (w : World) (res : O (List Row × List Tk)) (P : Ok → World → List Row → Value → Prop) (e : Ending) (w' : World) : Prop :=
 Below w.heap.size w w' ∧ match res with
 | .out => True
 | .bad => ∃ (v : Value) (a : Int) (te : TypeId) (x : Value), e = .returned (.tuple #[v, .int .i64 a, .iface te x])
 | .ok (rows, l) => ∃ v : Value, P (from_ w.heap.size) w' rows v ∧ e = .returned (.tuple #[v, .int .i64 (match l with | [] => 0 | t :: _ => t.a), .nilIface])
def front (l : List Tk) (x : O (List Row × List Tk)) : O (List Row × List Tk) := match l with
 | [] => .bad
 | _ :: _ => x
def VdsA (ok : Ok) (w : World) (rows : List Row) (sl : Value) : Prop := SlA ok w 71 (fun v r => VdfA ok w r v) sl rows
theorem VdsA.fr {ok ok' : Ok} {w w' : World} {r : List Row} {p : Value} (h : VdsA ok w r p) (hf : Keeps ok ok' w w') : VdsA ok' w' r p := SlA.fr h hf (fun v r h => h.fr hf)
theorem readVars_walk {s : ByteArray} (hRT : RTokS s) (hs : s.size ≤ 2000) {w : World} (hG : Glob w) {l : List Tk} (hL : Lexes BVal s 0 l) {f : Nat} (hf : f ≤ 1000000) (hne : l ≠ [] → pVars f l ≠ .out) : Calls Tryz.prog 11 #[.string s] w (DoorP w (front l (pVars f l)) VdsA) := by
 have CB := mkA (begin_walk hRT hs hG hL)
 have HF := mkA hf
 clear hRT hs hG hL hf
 cases l with
 | nil =>
   go_enter Tryz.func11, Tryz.ntmps11
   go_wp2_with (first
    | (go_at_call 23; (with_reducible refine CB.out.mono ?_); rintro e w1 ⟨hB, v_, te, x, rfl⟩; have HB := mkA hB; clear hB))
   go_ret3
   exact ⟨HB.out, _, _, te, x, rfl⟩
 | cons t r =>
   have hne := hne (by simp)
   show Calls _ _ _ _ (DoorP w (pVars f (t :: r)) VdsA)
   obtain ⟨RES, hR⟩ : ∃ RES, RES = pVars f (t :: r) := ⟨_, rfl⟩
   rw [← hR] at hne ⊢
   have HR := mkA hR
   have HNE := mkA (show pVars f (t :: r) ≠ .out by rw [← hR]; exact hne)
   clear hR
   cases RES with
   | out => exact absurd rfl hne
   | bad =>
     clear hne
     go_enter Tryz.func11, Tryz.ntmps11
     go_wp2_with (first
      | (go_at_call 23; (with_reducible refine CB.out.mono ?_); rintro e w1 ⟨hB, C, hC, g1, g2, hP, rfl⟩; have HB := mkA hB; have G1 := mkA (And.intro g1 g2); have HP := mkA hP; clear hB g1 g2 hP hC)
      | (go_at_call 24; have c_ := varDefs_walk HF.out HP.out HNE.out; rw [← HR.out] at c_; (with_reducible refine c_.mono ?_); rintro e w2 ⟨hF, hP, v_, te, x, rfl⟩; have HF2 := mkA hF; obtain ⟨pe_, k_, a_, z_, vv_, hpb⟩ := hP; have c6 : w2.cell? ⟨C.gp, 6, none⟩ = some (.int .i64 a_) := (blk_cell hpb 6).trans rfl; clear hF hpb))
     go_quiet (fail)
     go_wp2
     go_ret3
     have hBe := HB.out.trans (HF2.out.below G1.out.2 G1.out.1 HB.out.size)
     exact ⟨pw_below_drewN hBe _, _, _, te, x, rfl⟩
   | ok a_ =>
     obtain ⟨rows, l_⟩ := a_
     clear hne
     go_enter Tryz.func11, Tryz.ntmps11
     go_wp2_with (first
      | (go_at_call 23; (with_reducible refine CB.out.mono ?_); rintro e w1 ⟨hB, C, hC, g1, g2, hP, rfl⟩; have HB := mkA hB; have G1 := mkA (And.intro g1 g2); have HP := mkA hP; clear hB g1 g2 hP hC)
      | (go_at_call 24; have c_ := varDefs_walk HF.out HP.out HNE.out; rw [← HR.out] at c_; (with_reducible refine c_.mono ?_); rintro e w2 ⟨hF, sl_, u, r', hl_, hP, hN, rfl⟩; obtain ⟨A, n, c, rfl⟩ := SlA.shape hN; have HF2 := mkA hF; have HP2 := mkA hP; have HN := mkA hN; have HLL := mkA hl_; have c6 := hP.cells.2.2.1; clear hF hP hN hl_))
     go_quiet (fail)
     go_wp2
     go_ret3
     have hBe := HB.out.trans (HF2.out.below G1.out.2 G1.out.1 HB.out.size)
     have hll := HLL.out
     subst hll
     exact ⟨pw_below_drewN hBe _, _, (VdsA.fr HN.out (fun g o h1 h2 => ⟨Nat.le_trans HB.out.size h1, h2⟩)), rfl⟩
theorem results_tmp4 {fn : Func} {t u v x : Tmp} (h : fn.results = #[.tmp t, .tmp u, .tmp v, .tmp x]) (tmps : Array Value) (P : Program) (w : World) :
 (results fn tmps).run P w = .ok (.tuple #[tmps.getD t undef, tmps.getD u undef, tmps.getD v undef, tmps.getD x undef]) w := by
 simp [results, h]
abbrev tlOf (s : ByteArray) (ok : Bool) : List Tk := if ok = true then [eofT s] else []
theorem tl_of {s : ByteArray} {out : List Tk} (ok : Bool) (h : ∀ x ∈ out, TkOk x) : Tl out (tlOf s ok) := by
 refine ⟨fun t ht => (h t ht).1, fun t ht => (h t ht).2, ?_⟩
 cases ok
 ·exact .inl rfl
 ·exact .inr ⟨_, rfl, rfl, rfl⟩
abbrev s00 : St := ⟨0, 0, false, false⟩
theorem rd_pure {s : ByteArray} {out : List Tk} {ok : Bool} {P : List Tk → O (List Row × List Tk)} {x : RS} (hun : x.2.un = false) (hx : Lv out (tlOf s ok) s00 → Rl out (tlOf s ok) (P (rem out (tlOf s ok) s00)) x 0) :
 ((x.2.bad = true ∨ (ok = false ∧ out.length ≤ x.2.a)) → front (out ++ tlOf s ok) (P (out ++ tlOf s ok)) = .bad) ∧
 ((x.2.bad = false ∧ (ok = true ∨ x.2.a < out.length)) → front (out ++ tlOf s ok) (P (out ++ tlOf s ok)) = .ok (ers x.1, rem out (tlOf s ok) x.2)) := by
 by_cases hl : out ++ tlOf s ok = []
 ·have h1 := List.append_eq_nil_iff.1 hl
  refine ⟨fun _ => by rw [hl]; rfl, fun h => ?_⟩
  rcases h.2 with h2 | h2
  ·rw [h2] at h1; exact absurd h1.2 (by simp)
  ·rw [h1.1] at h2; exact absurd h2 (by simp)
 ·have lv : Lv out (tlOf s ok) s00 := by
   refine ⟨rfl, rfl, Nat.zero_le _, fun e => ?_, by decide, by decide⟩
   rw [e, List.append_nil] at hl
   exact List.length_pos_iff.2 hl
  have hf : front (out ++ tlOf s ok) (P (out ++ tlOf s ok)) = P (out ++ tlOf s ok) := by
   cases hq : out ++ tlOf s ok with
   | nil => exact absurd hq hl
   | cons a b => rfl
  rw [hf]
  have hr : rem out (tlOf s ok) s00 = out ++ tlOf s ok := rfl
  rw [hr] at hx
  rcases hx lv with h | ⟨h1, h2⟩ | ⟨h1, _, h2⟩
  ·rw [hun] at h; cases h
  ·refine ⟨fun _ => h2, fun h => ?_⟩
   rcases h1 with h1 | ⟨h1, h3⟩
   ·rw [h.1] at h1; cases h1
   ·rcases h.2 with h4 | h4
    ·rw [h4] at h1; cases h1
    ·omega
  ·refine ⟨fun h => ?_, fun _ => h2⟩
   rcases h with h | ⟨h3, h4⟩
   ·rw [h1.b] at h; cases h
   ·have := h1.no (by rw [h3]; rfl)
    omega
def ReadP (s : ByteArray) (P : List Tk → O (List Row × List Tk)) (w : World) (e : Ending) (w' : World) : Prop := ∃ (rows : List Row) (A : Option Addr) (n cp : Nat) (next : Int) (ok sure : Bool), e = .returned (.tuple #[.slice A n cp, .int .i64 next, .bool ok, .bool sure]) ∧ Below w.heap.size w w' ∧ (sure = true → ∃ l, Lexes BVal s 0 l ∧ l.length ≤ 2001 ∧ ((ok = false ∧ front l (P l) = .bad) ∨ (ok = true ∧ ∃ rest, n = rows.length ∧ rows.length ≤ 900000 ∧ w'.ownsRow w.heap.size 55 6 (.slice A n cp) n (flat rows) ∧ front l (P l) = .ok (ers rows, rest) ∧ (next < 0 ∨ ∃ t r, rest = t :: r ∧ next = t.a))))
structure RdH (s : ByteArray) (P : List Tk → O (List Row × List Tk)) (w w3 : World) (out : List Tk) (ok sure : Bool) (r : List Row) (s' : St) (A : Option Addr) (cp : Nat) : Prop where
 lx : sure = true → Lexes BVal s 0 (out ++ tlOf s ok)
 ln : out.length ≤ 2000
 hx : Lv out (tlOf s ok) s00 → Rl out (tlOf s ok) (P (rem out (tlOf s ok) s00)) (r, s') 0
 hr : r.length ≤ 900000
 bw : Below w.heap.size w w3
 ow : w3.ownsRow w.heap.size 55 6 (.slice A r.length cp) r.length (flat r)
theorem RdH.no {s : ByteArray} {P : List Tk → O (List Row × List Tk)} {w w3 : World} {out : List Tk} {ok sure su : Bool} {r : List Row} {s' : St} {A : Option Addr} {cp : Nat} (h : RdH s P w w3 out ok sure r s' A cp) (hsu : su = true → sure = true ∧ s'.un = false) (hb : s'.bad = true ∨ (ok = false ∧ out.length ≤ s'.a)) (n : Nat) : ReadP s P w (.returned (.tuple #[.slice none 0 0, .int .i64 0, .bool false, .bool su])) (w3.drewN n) := by
 refine ⟨[], none, 0, 0, 0, false, su, rfl, pw_below_drewN h.bw n, fun e => ?_⟩
 obtain ⟨h1, h2⟩ := hsu e
 refine ⟨_, h.lx h1, ?_, .inl ⟨rfl, (rd_pure (x := (r, s')) h2 h.hx).1 hb⟩⟩
 have := h.ln
 rw [List.length_append]
 cases ok
 ·show out.length + 0 ≤ 2001; omega
 ·show out.length + 1 ≤ 2001; omega
theorem RdH.yes {s : ByteArray} {P : List Tk → O (List Row × List Tk)} {w w3 : World} {out : List Tk} {ok sure su : Bool} {r : List Row} {s' : St} {A : Option Addr} {cp : Nat} (h : RdH s P w w3 out ok sure r s' A cp) (hsu : su = true → sure = true ∧ s'.un = false) (hb : s'.bad = false ∧ (ok = true ∨ s'.a < out.length)) (n : Nat) {next : Int} (hn : next < 0 ∨ ∃ h : s'.a < out.length, next = (out[s'.a]).a) : ReadP s P w (.returned (.tuple #[.slice A r.length cp, .int .i64 next, .bool true, .bool su])) (w3.drewN n) := by
 refine ⟨r, A, r.length, cp, next, true, su, rfl, pw_below_drewN h.bw n, fun e => ?_⟩
 obtain ⟨h1, h2⟩ := hsu e
 refine ⟨_, h.lx h1, ?_, .inr ⟨rfl, _, rfl, h.hr, own_typ h.ow (fun g cs x => x), (rd_pure (x := (r, s')) h2 h.hx).2 hb, ?_⟩⟩
 ·have := h.ln
  rw [List.length_append]
  cases ok
  ·show out.length + 0 ≤ 2001; omega
  ·show out.length + 1 ≤ 2001; omega
 ·rcases hn with hn | ⟨h3, h4⟩
  ·exact .inl hn
  ·refine .inr ⟨out[s'.a], out.drop (s'.a + 1) ++ tlOf s ok, ?_, h4⟩
   show out.drop s'.a ++ tlOf s ok = _
   rw [List.drop_eq_getElem_cons h3]; rfl
theorem readV_walk (HK : BlkH) {s : ByteArray} (hs : s.size ≤ 2000) (w : World) : Calls Tryz.prog 9 #[.string s, .int .i64 6] w (ReadP s (pVars 2010) w) := by
 have HKK := mkA HK
 have HS := mkA hs
 clear HK hs
 go_enter Tryz.func9, Tryz.ntmps9
 go_upto_region 2 with (first
  | (go_at_call 16; (with_reducible refine (lexed_walk HKK.out HS.out _).mono ?_); rintro e w1 ⟨out, A, cp, ok, sure, rfl, h1, h2, h3, h4, h5⟩; have H1 := mkA h1; have H2 := mkA h2; have H3 := mkA h3; have H4 := mkA h4; have H5 := mkA h5; clear h1 h2 h3 h4 h5))
 go_upto_region 3 with (first
  | ((with_reducible refine gate_dst (N := 19) rfl ?_); refine box_event ?hg (N := 19) ?hd (cs := #[.slice A out.length cp, .int .i64 0, .int .i64 0, .int .i64 0, .bool false, .bool false]) (t := 49) ?hr ?_; (case hd => rfl); (case hg => rfl); (case hr => first | (go_simp; done) | (go_simp; rfl)); intro gp hg w2 hbox hb; have HP := mkA (show SP ⟨gp, A, cp, out⟩ w2 s00 from ⟨⟨0, hbox⟩, own_less (own_typ H2.out (fun g cs x => blk_below x hb)) (Nat.zero_le _), Nat.zero_le _, Nat.le_trans H3.out (by decide)⟩); have HB := mkA hb; have HG := mkA hg; clear hg hbox hb))
 obtain ⟨x, x1, x2, x3⟩ := vars_ok (tl_of (s := s) ok H4.out) 2010 s00 (Nat.zero_le _) (by show out.length - 0 + 1 < 2010; have := H3.out; omega)
 obtain ⟨r, s'⟩ := x
 have hrl : r.length ≤ 900000 := by
  have q := vars_p 2010 _ _ x1
  have q2 : r.length + 0 ≤ Pt s' := q
  have q3 : s'.a ≤ out.length := x2.le
  have q4 := H3.out
  unfold Pt at q2
  split at q2 <;> omega
 have HRL := mkA hrl
 have X1 := mkA x1
 have X3 := mkA x3
 clear x1 x2 x3 hrl
 go_upto_region 17 with (first
  | (go_at_call 22; (with_reducible refine (vars_walk (by decide) (by decide) HP.out X1.out HRL.out).mono ?_); rintro e w3 ⟨v, rfl, hN, hP, hF⟩; obtain ⟨A2, c2, rfl⟩ := NdA.shape hN; have HN := mkA hN; have HP3 := mkA hP; have HF := mkA hF; clear hN hP hF))
 have HH := mkA (show RdH s (pVars 2010) w w3 out ok sure r s' A2 c2 from ⟨H5.out, H3.out, X3.out, HRL.out, H1.out.trans ((bel_le HB.out H1.out.size).trans (HF.out.below (by show w.heap.size ≤ gp; rw [HG.out]; exact H1.out.size) (by show w.heap.size ≤ gp; rw [HG.out]; exact H1.out.size) (Nat.le_trans H1.out.size HB.out.size))), own_up HN.out.1 (fun b hb => Nat.le_trans (Nat.le_trans H1.out.size HB.out.size) (HN.out.2 b hb))⟩)
 have c0 := HP3.out.c0
 have c1 := HP3.out.c1.1
 have c4 := HP3.out.c4
 have c5 := HP3.out.c5.1
 have HLE := mkA (show s'.a ≤ out.length from HP3.out.le)
 have HTK := mkA HP3.out
 clear HP X1 X3 HRL H1 H2 H4 H5 HB HG HN HF
 go_cut [7] (fun v7 wc => ∃ su : Bool, v7 = .bool su ∧ w3 = wc ∧ Aside0 (su = true → sure = true ∧ s'.un = false))
 case first =>
  obtain ⟨un, hun⟩ : ∃ un, un = s'.un := ⟨_, rfl⟩
  have c5' : w3.cell? ⟨gp, 5, none⟩ = some (.bool un) := by rw [hun]; exact c5
  have HUN := mkA hun
  clear c5 hun
  cases sure <;> cases un
  all_goals
   go_wp2
   go_meet
   first
    | exact ⟨true, rfl, rfl, ⟨fun _ => ⟨by first | trivial | rfl, by first | exact HUN.out.symm | exact HUN.out | simpa using HUN.out⟩⟩⟩
    | exact ⟨false, rfl, rfl, ⟨fun e => by cases e⟩⟩
 case rest =>
  obtain ⟨su, rfl, rfl, HSU⟩ := hcut
  by_cases hbad : s'.bad = true
  case pos =>
   have HBD := mkA hbad
   rw [hbad] at c4
   clear hbad
   go_wp2
   (try simp only [Exit.inBlock, Exit.then]); refine bodyPost_ret (results_tmp4 rfl _ _ _) rfl ?_
   exact HH.out.no HSU.out (.inl HBD.out) 0
  case neg =>
   have hbad : s'.bad = false := by simpa using hbad
   have HBD := mkA hbad
   rw [hbad] at c4
   clear hbad
   by_cases hl : s'.a < out.length
   case pos =>
    obtain ⟨g, hA, k1_, k2_, t2, k3_⟩ := HTK.out.tok hl
    have HL := mkA hl
    have q1 : ((out.length : Int) ≤ (s'.a : Int)) = False := eq_false (by omega)
    have q2 : (out.length ≤ s'.a) = False := eq_false (by omega)
    have q3 : ((s'.a : Int) < (out.length : Int)) = True := eq_true (by omega)
    have q4 : (s'.a < out.length) = True := eq_true hl
    have hA' : A = some ⟨g, 0, none⟩ := hA
    subst hA'
    have T2 : w3.cell? ⟨g, s'.a * 4 + 2, none⟩ = some (.int .i64 (out[s'.a]'HL.out).a) := t2
    clear hA t2 k1_ k2_ k3_ hl
    go_upto_region 22 with (fail)
    go_quiet (fail)
    go_wp2
    (try simp only [Exit.inBlock, Exit.then]); refine bodyPost_ret (results_tmp4 rfl _ _ _) rfl ?_
    exact HH.out.yes HSU.out ⟨HBD.out, .inr HL.out⟩ _ (.inr ⟨HL.out, rfl⟩)
   case neg =>
    have HL := mkA (Nat.le_of_not_lt hl)
    have q1 : ((out.length : Int) ≤ (s'.a : Int)) = True := eq_true (by omega)
    have q2 : (out.length ≤ s'.a) = True := eq_true (by omega)
    clear hl
    cases ok
    case false =>
     go_wp2
     (try simp only [Exit.inBlock, Exit.then]); refine bodyPost_ret (results_tmp4 rfl _ _ _) rfl ?_
     exact HH.out.no HSU.out (.inr ⟨rfl, HL.out⟩) 0
    case true =>
     go_wp2
     (try simp only [Exit.inBlock, Exit.then]); refine bodyPost_ret (results_tmp4 rfl _ _ _) rfl ?_
     exact HH.out.yes HSU.out ⟨HBD.out, .inl rfl⟩ 0 (.inl (by decide))
def BoQ (w : World) (e : Ending) (w' : World) : Prop := ∃ b : Bool, e = .returned (.bool b) ∧ w' = w
theorem utf8_q (s : ByteArray) (hs : s.size ≤ 2000) (w : World) : Calls Tryz.prog 15 #[.string s] w (BoQ w) := by
 have HS := mkA hs
 clear hs
 go_enter Tryz.func15, Tryz.ntmps15
 go_wp2
 go_loop [3] (fun v3 => ∃ p : Nat, v3 = .int .i64 p ∧ Aside0 (p ≤ s.size)) (fun v3 => s.size - (intOf v3).toNat)
 case atStart => exact ⟨0, rfl, ⟨Nat.zero_le _⟩⟩
 case round =>
  obtain ⟨p, rfl, HR⟩ := hrel
  by_cases hp : p < s.size
  case neg =>
   have q1 : ((p : Int) < (s.size : Int)) = False := eq_false (by omega)
   have q2 : (p < s.size) = False := eq_false hp
   clear hp
   go_wp2
   go_ret
   exact ⟨_, rfl, rfl⟩
  case pos =>
   have q1 : ((p : Int) < (s.size : Int)) = True := eq_true (by omega)
   have q2 : (p < s.size) = True := eq_true hp
   have HPt := mkA (ptF_ok s p)
   have HP0 := mkA (point_d s p hp HS.out w)
   obtain ⟨c, hc⟩ : ∃ c, c = (ptF s p).1 := ⟨_, rfl⟩
   obtain ⟨n, hn⟩ : ∃ n, n = (ptF s p).2 := ⟨_, rfl⟩
   rw [← hc, ← hn] at HPt HP0
   have HPP := mkA hp
   clear hc hn hp
   by_cases hn : n = 0
   case pos =>
    subst hn
    go_wp2_with (first
     | (go_at_call 33; (with_reducible refine HP0.out.mono ?_); rintro e w_ ⟨rfl, hw_⟩; subst w_))
    go_ret
    exact ⟨_, rfl, rfl⟩
   case neg =>
    have p0 : (n == 0) = false := beq_eq_false_iff_ne.mpr hn
    obtain ⟨m, hm, hm1, hm2⟩ : ∃ m : Nat, n = m ∧ 1 ≤ m ∧ p + m ≤ s.size := by
     rcases HPt.out with h | ⟨h, _, _⟩ | ⟨m, h1, h2, h3, _⟩
     ·exact absurd h hn
     ·exact ⟨1, h, Nat.le_refl _, HPP.out⟩
     ·exact ⟨m, h1, by omega, h3⟩
    subst hm
    have W : wrap64 ((p : Int) + (m : Int)) = ((p + m : Nat) : Int) := by have := HS.out; exact (w64 (by omega) (by omega)).trans (by omega)
    obtain ⟨j, hj⟩ : ∃ j : Nat, j = p + m := ⟨_, rfl⟩
    rw [← hj] at W
    have HJ := mkA (show p < j ∧ j ≤ s.size by omega)
    clear hn hm1 hm2 hj
    go_wp2_with (first
     | (go_at_call 33; (with_reducible refine HP0.out.mono ?_); rintro e w_ ⟨rfl, hw_⟩; subst w_))
    go_round
    case rel => exact ⟨j, congrArg (Value.int .i64) W, ⟨HJ.out.2⟩⟩
    case measure => rw [W]; have := HJ.out; simp only [intOf]; omega
theorem short_q (s : ByteArray) (hs : s.size ≤ 2000) (w : World) : Calls Tryz.prog 8 #[.string s] w (BoQ w) := by
 have CU := mkA (utf8_q s hs w)
 have q1 : ((s.size : Int) ≤ 2000) = True := eq_true (by omega)
 have q2 : (s.size ≤ 2000) = True := eq_true hs
 clear hs
 go_enter Tryz.func8, Tryz.ntmps8
 go_wp2_with (first
  | (go_at_call 15; (with_reducible refine CU.out.mono ?_); rintro e w_ ⟨b, rfl, hw_⟩; subst w_))
 go_ret
 exact ⟨_, rfl, rfl⟩
theorem short_no (s : ByteArray) (hs : 2000 < s.size) (w : World) : Calls Tryz.prog 8 #[.string s] w (Qv (.bool false) w) := by
 have q1 : ((s.size : Int) ≤ 2000) = False := eq_false (by omega)
 have q2 : (s.size ≤ 2000) = False := eq_false (by omega)
 clear hs
 go_enter Tryz.func8, Tryz.ntmps8
 go_wp2
 go_ret
 exact ⟨rfl, rfl⟩
end Go.Proofs.YthgcghpcikbnkaaGreatDoor.R
