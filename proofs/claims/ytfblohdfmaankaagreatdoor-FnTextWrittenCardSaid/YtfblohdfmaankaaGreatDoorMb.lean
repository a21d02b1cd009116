/- FnTextWritten: several texts in one, in build order. FnTextWritten: the package's readString, walked at a written string. Condition: a source in the world whose text stands as Quote writes one. | FnTextWritten: the package's readBlockString, walked at a block string without three quotes within. Conditions: a source in the world whose text is of that form; what blockStringValue says of what stands between. | FnTextWritten: readToken at a double quote: the token of a string, or of a block string. Conditions: a source in the world; what readString, readBlockString hand back. | FnTextWritten: Lex, the function that it makes, and makeParser, walked. Conditions: a source in the world; what readToken hands back. -/
import Derived.Test.YtfblohdfmaankaaGreatDoorMa
import Derived.Test.YtfblohdfmaankaaGreatDoorShelf
namespace Go.Proofs.YtfblohdfmaankaaGreatDoor.PFnTextWritten
open Go.RowKit Go.Proofs.YtfblohdfmaankaaGreatDoorW.PrintWords Go.Proofs.YtfblohdfmaankaaGreatDoorW.PrintLast Go.Proofs.YtfblohdfmaankaaGreatDoorW.PrintMore
set_option linter.unusedVariables false
set_option linter.unusedSimpArgs false
theorem buf_below {B b : Nat} {bs : List Value} {w w' : World} (h : Go.Lib.IsBuffer 186 5 B b bs w) (hb : Below w.heap.size w w') : Go.Lib.IsBuffer 186 5 B b bs w' := by
  obtain ⟨hB, v, lr, hbk, hown, hne⟩ := h
  exact ⟨hB, v, lr, blk_below hbk hb, pw_own_below hown hb, hne⟩
theorem buf_new {w : World} {g : Nat} (h : w.heap[g]? = some (.cells #[.slice none 0 0, .int .i64 0, .int .i8 0] 186 (0, 0))) : Go.Lib.IsBuffer 186 5 g g [] w :=
  ⟨Nat.le_refl _, .slice none 0 0, 0, h, World.ownsRow_nil _ _ _ _, by simp [Value.ownBlock]⟩
/-- What is left of a text behind a place. -/
def msr (s : ByteArray) : Value → Nat
  | .int _ a => s.size - a.toNat
  | _ => 0
theorem msr_int (s : ByteArray) (k : IntKind) (a : Int) : msr s (.int k a) = s.size - a.toNat := rfl
theorem qt_len {x r : List UInt8} (h : Qt x r) : x.length < r.length := by
  induction h with
  | done => decide
  | plain _ _ ih => simp only [List.length_cons]; omega
  | esc1 _ _ ih => simp only [List.length_cons]; omega
  | @escu a b c d x r _ _ _ ih =>
    have h4 := (Go.Lib.runeCells_le (ud a b c d)).2
    rw [Go.Lib.runeCells_length] at h4
    simp only [List.length_cons, List.length_append]; omega
theorem write_chunk {w : World} {b gq cp : Nat} {t : ByteArray} {l : List UInt8} (hp : ∀ j : Nat, j < t.size → w.cell? ⟨b, j, none⟩ = some (.int .u8 (bt t j))) (hI : Go.Lib.IsBuffer 186 5 gq gq (Go.Lib.byteCells l) w) (hb : b < gq) (c p : Nat) (hcp : c ≤ p) (hpt : p ≤ t.size) (hl : l.length ≤ 2000000) (ht : t.size ≤ 2000000) :
    Calls Tryz.prog 95 #[.pointer (some ⟨gq, 0, none⟩), .slice (some ⟨b, c, none⟩) (p - c) cp] w fun e w' => e = .returned (.tuple #[.int .i64 ((p - c : Nat) : Int), .nilIface]) ∧ Go.Lib.IsBuffer 186 5 gq gq (Go.Lib.byteCells (l ++ (dr t c).take (p - c))) w' ∧ Below gq w w' := by
  have hn : ((dr t c).take (p - c)).length = p - c := by
    simp only [dr, List.length_take, List.length_drop, Array.length_toList, ByteArray.size_data]; omega
  refine (Tryz.Buffer_Write_k gq gq (Go.Lib.byteCells l) (Go.Lib.byteCells ((dr t c).take (p - c))) ⟨b, c, none⟩ (p - c) cp w hI (Nat.le_of_lt hI.lt) (Go.Lib.byteCells_one _) (by rw [Go.Lib.byteCells_length, hn]) hb (fun j v hv => ?_) (Go.Lib.byteCells_one _) (by rw [Go.Lib.byteCells_length]; omega)).mono fun e w' h => ⟨h.1, by rw [Go.Lib.byteCells_append]; exact h.2.1, h.2.2.1⟩
  rw [Go.Lib.addr_add]
  have hj : j < p - c := by
    have := (List.getElem?_eq_some_iff.1 hv).1
    rw [Go.Lib.byteCells_length, hn] at this; exact this
  rw [hp (c + j) (by omega), ← hv]
  unfold Go.Lib.byteCells
  rw [List.getElem?_map, List.getElem?_take, if_pos hj, dr, List.getElem?_drop]
  have hl2 : c + j < t.data.toList.length := by simp only [Array.length_toList, ByteArray.size_data]; omega
  rw [List.getElem?_eq_getElem hl2]
  unfold bt
  rw [dif_pos (show ((c + j : Nat) : Int).toNat < t.size by omega)]
  simp only [Int.toNat_natCast]
  rfl
theorem dr_take (t : ByteArray) (c p k : Nat) (h : c ≤ p) : (dr t c).take (p + k - c) = (dr t c).take (p - c) ++ (dr t p).take k := by
  unfold dr
  rw [show p + k - c = (p - c) + k by omega, List.take_add, List.drop_drop, show c + (p - c) = p by omega]
theorem write_rune {w : World} {gq : Nat} {l : List UInt8} (hI : Go.Lib.IsBuffer 186 5 gq gq (Go.Lib.byteCells l) w) (r : Int) (hr : 0 ≤ r ∧ r ≤ 65535) (hl : l.length ≤ 4000000) :
    Calls Tryz.prog 98 #[.pointer (some ⟨gq, 0, none⟩), .int .i32 r] w fun e w' => e = .returned (.tuple #[.int .i64 (Go.Lib.runeCells r).length, .nilIface]) ∧ Go.Lib.IsBuffer 186 5 gq gq (Go.Lib.byteCells (l ++ Go.Lib.encodeRune r)) w' ∧ Below gq w w' :=
  (Tryz.Buffer_WriteRune_k gq gq _ r (by omega) (by omega) w hI (Nat.le_of_lt hI.lt) (Go.Lib.byteCells_one _) (by rw [Go.Lib.byteCells_length]; omega)).mono fun e w' h => ⟨h.1, by rw [Go.Lib.byteCells_append, Go.Lib.byteCells_encodeRune]; exact h.2.1, h.2.2.1⟩
theorem w_at {x : Int} {n : Nat} (h : x = n) (hn : n ≤ 4000000) : wrap64 x = (n : Int) := by rw [h]; exact w64 (by omega) (by omega)
theorem enc_q : Go.Lib.encodeRune 34 = [34] := by decide
theorem enc_b : Go.Lib.encodeRune 92 = [92] := by decide
set_option maxHeartbeats 16000000 in
set_option maxRecDepth 100000 in
theorem readString_walk {w : World} {g b cap : Nat} {t : ByteArray} (h : Src w g b cap t) (s : List UInt8) (hx : Qt s (dr t 1)) :
    Calls Tryz.prog 87 #[.pointer (some ⟨g, 0, none⟩), .int .i64 0] w fun e w' => e = .returned (.tuple #[.agg #[.int .i64 18, .int .i64 0, .int .i64 t.size, .string ⟨s.toArray⟩], .nilIface]) ∧ Below w.heap.size w w' := by
  have HS := Aside0.mk h
  have HX := Aside0.mk hx
  have hsm := h.small
  have t1 : 1 ≤ t.size := by have := qt_len hx; simp only [dr, List.length_drop, Array.length_toList, ByteArray.size_data] at this; omega
  have hbg : b < w.heap.size := World.block_lt_of_cell? w _ (h.bytes 0 (by omega))
  have T1 := Aside0.mk t1
  clear h hx t1
  go_enter Tryz.func87, Tryz.ntmps87
  go_wp2_with (first
    | ((with_reducible refine gate_dst (N := 4) rfl ?_); refine box_event ?hg (N := 4) ?hd (cs := #[.int .i64 0, .int .i64 0, .int .i64 0, .string ⟨#[]⟩]) (t := 110) ?hr ?_; (case hd => rfl); (case hg => rfl); (case hr => first | (go_simp; done) | (go_simp; rfl)); intro gb hg w2 hbox hb; have HB := Aside0.mk hb; have GE := Aside0.mk (Nat.le_of_eq hg.symm); have BK := Aside0.mk hbox; clear hb hbox hg; have hc0 := (HS.out.below HB.out).body)
    | ((with_reducible refine gate_dst (N := 12) rfl ?_); refine box_event ?hg (N := 12) ?hd (cs := #[.slice none 0 0, .int .i64 0, .int .i8 0]) (t := 186) ?hr ?_; (case hd => rfl); (case hg => rfl); (case hr => first | (go_simp; done) | (go_simp; rfl)); intro gq hg w3 hbox hb; have HQ := Aside0.mk hb; have GQ := Aside0.mk hg; have BQ := Aside0.mk hbox; clear hb hbox hg))
  have hls : s.length < 2000000 := by
    have := qt_len HX.out
    simp only [dr, List.length_drop, Array.length_toList, ByteArray.size_data] at this
    omega
  have HL := Aside0.mk hls
  have HSM := Aside0.mk hsm
  have HBG := Aside0.mk (show b < gq by have := HB.out.size; have := GQ.out; omega)
  have HQ2 := Aside0.mk (show Below gq w2 w3 by have := HQ.out; rw [← GQ.out] at this; exact this)
  clear hls hsm hbg HQ
  go_simp
  go_loopw [7, 8, 9, 10, 11] (fun v7 v8 v9 v10 v11 wr => ∃ (p c : Nat) (m k n : Int) (l x : List UInt8), v7 = .int .i64 p ∧ v8 = .int .i64 m ∧ v9 = .int .i64 c ∧ v10 = .int .i32 k ∧ v11 = .int .i64 n ∧ Aside0 (Go.Lib.IsBuffer 186 5 gq gq (Go.Lib.byteCells l) wr) ∧ Aside0 (Below gq w2 wr) ∧ Aside0 (c ≤ p ∧ p ≤ t.size) ∧ Aside0 (l ++ (dr t c).take (p - c) ++ x = s ∧ Qt x (dr t p))) (fun v7 _ _ _ _ _ => msr t v7)
  case atStart => exact ⟨1, 1, 1, 0, 0, [], s, rfl, rfl, rfl, rfl, rfl, ⟨buf_new BQ.out⟩, HQ2, ⟨Nat.le_refl _, T1.out⟩, ⟨by simp, HX.out⟩⟩
  case round =>
    obtain ⟨p, c, m, k, n, l, x, rfl, rfl, rfl, rfl, rfl, HU, HW, HP, HR⟩ := hrel
    have HWW := Aside0.mk (show Below w.heap.size w wr by
      have h2 := HW.out; rw [GQ.out] at h2; exact below_step HB.out h2)
    have c83 := runeAt_src (HS.out.below HWW.out) p HP.out.2
    have hll : l.length ≤ 2000000 := by
      have h1 := congrArg List.length HR.out.1
      simp only [List.length_append] at h1
      have := HL.out; omega
    have CW := Aside0.mk (fun (w4 : World) (hV : Below wr.heap.size wr w4) => write_chunk (cp := cap - c) (HS.out.below (below_step HWW.out hV)).bytes (buf_below HU.out hV) HBG.out c p HP.out.1 HP.out.2 hll HSM.out)
    clear hll
    rcases qt_step t p x HR.out.2 with ⟨x0, hend, hr⟩ | ⟨cc, kk, x', hr, hk, hc, hxx, hq⟩ | ⟨bb, x', hb, hr, hr2, hp2, hxx, hq⟩ | ⟨a1, a2, a3, a4, x', hd, hu, hr, hr2, hbs, hp6, hxx, hq⟩
    · rw [hr] at c83
      have e1 : decide ((p : Int) < (t.size : Int)) = true := decide_eq_true (by omega)
      have HE := Aside0.mk hend
      have q1 : (c ≤ p) = True := eq_true HP.out.1
      have q2 : (p ≤ cap) = True := eq_true (Nat.le_trans HP.out.2 HS.out.cap)
      have q3 : (p < t.size) = True := eq_true (by omega)
      have q4 : (cap = c) = False := eq_false (by have := HP.out.1; have := HS.out.cap; omega)
      clear hr hend e1
      go_wp2_with (first
        | (go_at_call 83; refine c83.mono ?_; rintro e w4 ⟨rfl, hB⟩; have HV := Aside0.mk hB; clear hB)
        | (go_at_call 95; (with_reducible refine (CW.out _ HV.out).mono ?_); rintro e w5 ⟨rfl, hI, hB⟩; have HI5 := Aside0.mk hI; have HW5 := Aside0.mk (show Below w2.heap.size w2 w5 by have h1 := (HW.out.trans (HV.out.mono (Nat.le_of_lt HU.out.lt))).trans hB; rw [GQ.out] at h1; exact h1); clear hI hB)
        | (go_at_call 97; (with_reducible refine (Tryz.Buffer_String gq gq _ _ HI5.out).mono ?_); rintro e w6 ⟨rfl, nd, rfl⟩; have HW6 := Aside0.mk (pw_below_drewN HW5.out nd))
        | (go_at_call 82; (with_reducible refine (makeToken_walk 18 0 _ _ _).mono ?_); rintro e w7 ⟨rfl, hB⟩; have HW7 := Aside0.mk (below_step HW6.out hB); clear hB; have BK7 := Aside0.mk (blk_below BK.out HW7.out); have hz0 : w7.cell? ⟨gb, 0, none⟩ = some (.int .i64 0) := (blk_cell BK7.out 0).trans rfl; have hz1 : w7.cell? ⟨gb, 1, none⟩ = some (.int .i64 0) := (blk_cell BK7.out 1).trans rfl; have hz2 : w7.cell? ⟨gb, 2, none⟩ = some (.int .i64 0) := (blk_cell BK7.out 2).trans rfl; have hz3 : w7.cell? ⟨gb, 3, none⟩ = some (.string ⟨#[]⟩) := (blk_cell BK7.out 3).trans rfl; have hf0 := blk_frozen BK7.out 0; have hf1 := blk_frozen BK7.out 1; have hf2 := blk_frozen BK7.out 2; have hf3 := blk_frozen BK7.out 3))
      have es : l ++ (dr t c).take (p - c) = s := by have := HR.out.1; rw [x0, List.append_nil] at this; exact this
      have ew : wrap64 ((p : Int) + 1) = (t.size : Int) := by have := HE.out; have := HSM.out; unfold wrap64; omega
      rw [es, ew]
      refine bodyPost_ret (results_ct rfl _ _ gb 110 #[.int .i64 18, .int .i64 0, .int .i64 t.size, .string ⟨s.toArray⟩] (0, 0) _ rfl (by refine blk_put (cs := #[.int .i64 18, .int .i64 0, .int .i64 t.size, .string ⟨#[]⟩]) ?_ 3 _ rfl; refine blk_put (cs := #[.int .i64 18, .int .i64 0, .int .i64 0, .string ⟨#[]⟩]) ?_ 2 _ rfl; refine blk_put (cs := #[.int .i64 18, .int .i64 0, .int .i64 0, .string ⟨#[]⟩]) ?_ 1 _ rfl; refine blk_put (cs := #[.int .i64 0, .int .i64 0, .int .i64 0, .string ⟨#[]⟩]) ?_ 0 _ rfl; exact BK7.out) Tryz.underlying110 rfl (by kernel_rfl)) rfl ?_
      have hfin := below_step HB.out HW7.out
      exact ⟨rfl, below_set (below_set (below_set (below_set hfin GE.out) GE.out) GE.out) GE.out⟩
    · rw [hr] at c83
      have q0 : (p < t.size) = True := eq_true (by omega)
      have q1 : (cc != 10) = true := by rw [bne_iff_ne]; omega
      have q2 : (cc != 13) = true := by rw [bne_iff_ne]; omega
      have q3 : (cc != 34) = true := by rw [bne_iff_ne]; omega
      have q4 : decide (cc < 32) = false := decide_eq_false (by omega)
      have q5 : (cc == 92) = false := by rw [beq_eq_false_iff_ne]; omega
      have HK := Aside0.mk hk
      have HQ3 := Aside0.mk hq
      have HX3 := Aside0.mk hxx
      clear hr hk hc hq hxx
      go_wp2_with (first
        | (go_at_call 83; refine c83.mono ?_; rintro e w4 ⟨rfl, hB⟩; have HV := Aside0.mk hB; clear hB))
      go_roundw
      case rel => exact ⟨p + kk, c, wrap64 (m + 1), cc, kk, l, x', by have := HK.out; have := HSM.out; first | rfl | (simp [wrap64]; omega), rfl, rfl, rfl, rfl, ⟨buf_below HU.out HV.out⟩, ⟨HW.out.trans (HV.out.mono (Nat.le_of_lt HU.out.lt))⟩, ⟨by have := HP.out.1; omega, HK.out.2⟩, ⟨by rw [dr_take t c p kk HP.out.1, ← HR.out.1, HX3.out]; simp only [List.append_assoc], HQ3.out⟩⟩
      case measure => have := HSM.out; have := HK.out; simp only [msr_int, wrap64]; omega
    · rw [hr] at c83
      obtain ⟨q, hqq⟩ : ∃ q : Nat, q = p + 1 := ⟨_, rfl⟩
      rw [← hqq] at hr2
      have c83b := Aside0.mk (fun (w5 : World) (h5 : Below w.heap.size w w5) => runeAt_src (HS.out.below h5) q (by omega))
      rw [hr2] at c83b
      have q0 : (p < t.size) = True := eq_true (by omega)
      have q1 : (c ≤ p) = True := eq_true HP.out.1
      have q2 : (p ≤ cap) = True := eq_true (Nat.le_trans HP.out.2 HS.out.cap)
      have q4 : (cap = c) = False := eq_false (by have := HP.out.1; have := HS.out.cap; omega)
      have q5 : wrap64 ((p : Int) + 1) = (q : Int) := by have hz := HSM.out; exact (w64 (by omega) (by omega)).trans (by omega)
      have q6 : wrap64 ((q : Int) - 1) = (p : Int) := by have hz := HSM.out; exact (w64 (by omega) (by omega)).trans (by omega)
      have HK := Aside0.mk hp2
      have HQ3 := Aside0.mk hq
      have HX3 := Aside0.mk hxx
      have HQE := Aside0.mk hqq
      clear hr hr2 hq hxx hp2 hqq
      have M1 := Aside0.mk True.intro
      rcases hb with rfl | rfl
      all_goals
        go_wp2_with (first
          | (clear M1; go_at_call 83; refine c83.mono ?_; rintro e w4 ⟨rfl, hB⟩; have HV := Aside0.mk hB; clear hB)
          | (go_at_call 95; (with_reducible refine (CW.out _ HV.out).mono ?_); rintro e w5 ⟨rfl, hI, hB⟩; have HI5 := Aside0.mk hI; have HW5 := Aside0.mk (show Below w2.heap.size w2 w5 by have h1 := (HW.out.trans (HV.out.mono (Nat.le_of_lt HU.out.lt))).trans hB; rw [GQ.out] at h1; exact h1); clear hI hB)
          | (go_at_call 83; (with_reducible refine (c83b.out _ (below_step HB.out HW5.out)).mono ?_); rintro e w6 ⟨rfl, hB⟩; have HI6 := Aside0.mk (buf_below HI5.out hB); have HW6 := Aside0.mk (below_step HW5.out hB); clear hB)
          | (go_at_call 98; (with_reducible refine (write_rune HI6.out _ (by decide) (by have h1 := congrArg List.length HR.out.1; simp only [List.length_append] at h1; have := HL.out; simp only [List.length_append]; omega)).mono ?_); rintro e w7 ⟨rfl, hI, hB⟩; have HI7 := Aside0.mk hI; have HW7 := Aside0.mk (show Below gq w2 w7 by have h1 := HW6.out; rw [← GQ.out] at h1; exact h1.trans hB); clear hI hB))
      all_goals
        go_roundw
        case rel => exact ⟨p + 2, p + 2, wrap64 (wrap64 (m + 1) + 1), _, 1, _, x', by have := HQE.out; have := HSM.out; have := HK.out; first | rfl | (simp [wrap64]; omega), rfl, by have := HQE.out; have := HSM.out; have := HK.out; first | rfl | (simp [wrap64]; omega), rfl, rfl, HI7, HW7, ⟨Nat.le_refl _, HK.out⟩, ⟨by rw [← HR.out.1, HX3.out]; simp only [enc_q, enc_b, Nat.sub_self, List.take_zero, List.append_nil, List.append_assoc, List.singleton_append], HQ3.out⟩⟩
        case measure => have := HQE.out; have := HSM.out; have := HK.out; simp only [msr_int, wrap64]; omega
    · obtain ⟨U, hU⟩ : ∃ U, U = ud a1 a2 a3 a4 := ⟨_, rfl⟩
      rw [← hU] at hu hxx
      have eu : decide (U < 0) = false := decide_eq_false (by omega)
      have HUD := Aside0.mk hu
      have HX3 := Aside0.mk hxx
      have HUE := Aside0.mk hU
      clear hu hU hxx
      have HBS := Aside0.mk hbs
      clear hbs
      rw [hr] at c83
      obtain ⟨q, hqq⟩ : ∃ q : Nat, q = p + 1 := ⟨_, rfl⟩
      obtain ⟨p2, hq2⟩ : ∃ q : Nat, q = p + 2 := ⟨_, rfl⟩
      obtain ⟨p3, hq3⟩ : ∃ q : Nat, q = p + 3 := ⟨_, rfl⟩
      obtain ⟨p4, hq4⟩ : ∃ q : Nat, q = p + 4 := ⟨_, rfl⟩
      obtain ⟨p5, hq5⟩ : ∃ q : Nat, q = p + 5 := ⟨_, rfl⟩
      rw [← hqq] at hr2
      have c83b := Aside0.mk (fun (w5 : World) (h5 : Below w.heap.size w w5) => runeAt_src (HS.out.below h5) q (by omega))
      rw [hr2] at c83b
      have hz := HSM.out
      have QW := Aside0.mk (show wrap64 ((p : Int) + 1) = (q : Int) ∧ wrap64 ((q : Int) - 1) = (p : Int) ∧ wrap64 ((q : Int) + 1) = (p2 : Int) ∧ wrap64 ((q : Int) + 2) = (p3 : Int) ∧ wrap64 ((q : Int) + 3) = (p4 : Int) ∧ wrap64 ((q : Int) + 4) = (p5 : Int) from ⟨w_at (by omega) (by omega), w_at (by omega) (by omega), w_at (by omega) (by omega), w_at (by omega) (by omega), w_at (by omega) (by omega), w_at (by omega) (by omega)⟩)
      clear hz
      have nq0 : (p < t.size) := (by omega)
      have nq1 : (c ≤ p) := HP.out.1
      have nq2 : (p ≤ cap) := (Nat.le_trans HP.out.2 HS.out.cap)
      have nq4 : ¬ (cap = c) := (by have := HP.out.1; have := HS.out.cap; omega)
      have nq11 : ¬ (t.size ≤ p5) := (by omega)
      have nq12 : ((p2 : Int) < (t.size : Int)) := (by omega)
      have nq13 : ((p3 : Int) < (t.size : Int)) := (by omega)
      have nq14 : ((p4 : Int) < (t.size : Int)) := (by omega)
      have nq15 : ((p5 : Int) < (t.size : Int)) := (by omega)
      have nq16 : (0 ≤ (p2 : Int)) := (by omega)
      have nq17 : (0 ≤ (p3 : Int)) := (by omega)
      have nq18 : (0 ≤ (p4 : Int)) := (by omega)
      have nq19 : (0 ≤ (p5 : Int)) := (by omega)
      have wb : ∀ a : UInt8, wrap32 (a.toNat : Int) = (a.toNat : Int) := fun a => by have := a.toNat_lt; unfold wrap32; omega
      have z1 := wb a1
      have z2 := wb a2
      have z3 := wb a3
      have z4 := wb a4
      have CU := Aside0.mk (fun (w8 : World) => (show Calls Tryz.prog 99 #[.int .i32 (a1.toNat : Int), .int .i32 (a2.toNat : Int), .int .i32 (a3.toNat : Int), .int .i32 (a4.toNat : Int)] w8 fun e w' => e = .returned (.int .i32 U) ∧ w' = w8 by rw [HUE.out]; exact uni_walk (a1.toNat : Int) (a2.toNat : Int) (a3.toNat : Int) (a4.toNat : Int) hd.1 hd.2.1 hd.2.2.1 hd.2.2.2 w8))
      have hcc : ∀ w8 : World, Below w.heap.size w w8 → (w8.cell? ⟨b, p2, none⟩ = some (.int .u8 (a1.toNat : Int)) ∧ w8.cell? ⟨b, p3, none⟩ = some (.int .u8 (a2.toNat : Int)) ∧ w8.cell? ⟨b, p4, none⟩ = some (.int .u8 (a3.toNat : Int)) ∧ w8.cell? ⟨b, p5, none⟩ = some (.int .u8 (a4.toNat : Int))) := fun w8 h8 => by
        have hby := (HS.out.below h8).bytes
        have l2 : p2 < t.size := by omega
        have l3 : p3 < t.size := by omega
        have l4 : p4 < t.size := by omega
        have l5 : p5 < t.size := by omega
        have hbs := HBS.out
        rw [← hq2, ← hq3, ← hq4, ← hq5] at hbs
        refine ⟨?_, ?_, ?_, ?_⟩
        · rw [hby p2 l2, hbs.1]
        · rw [hby p3 l3, hbs.2.1]
        · rw [hby p4 l4, hbs.2.2.1]
        · rw [hby p5 l5, hbs.2.2.2]
      have HCC := Aside0.mk hcc
      have HK := Aside0.mk hp6
      have HQ3 := Aside0.mk hq
      have HQE := Aside0.mk (And.intro hqq (And.intro hq2 (And.intro hq3 (And.intro hq4 hq5))))
      clear hr hr2 hq hp6 hqq hq2 hq3 hq4 hq5 hd hcc wb
      have q0 : (p < t.size) = True := eq_true nq0
      have q1 : (c ≤ p) = True := eq_true nq1
      have q2 : (p ≤ cap) = True := eq_true nq2
      have q4 : (cap = c) = False := eq_false nq4
      have q11 : (t.size ≤ p5) = False := eq_false nq11
      have q12 : ((p2 : Int) < (t.size : Int)) = True := eq_true nq12
      have q13 : ((p3 : Int) < (t.size : Int)) = True := eq_true nq13
      have q14 : ((p4 : Int) < (t.size : Int)) = True := eq_true nq14
      have q15 : ((p5 : Int) < (t.size : Int)) = True := eq_true nq15
      have q16 : (0 ≤ (p2 : Int)) = True := eq_true nq16
      have q17 : (0 ≤ (p3 : Int)) = True := eq_true nq17
      have q18 : (0 ≤ (p4 : Int)) = True := eq_true nq18
      have q19 : (0 ≤ (p5 : Int)) = True := eq_true nq19
      clear nq0 nq1 nq2 nq4 nq11 nq12 nq13 nq14 nq15 nq16 nq17 nq18 nq19
      obtain ⟨q5, q6, q7, q8, q9, q10⟩ := QW.out
      have M1 := Aside0.mk True.intro
      go_upto_region 38 with (first
          | (clear M1; go_at_call 83; refine c83.mono ?_; rintro e w4 ⟨rfl, hB⟩; have HV := Aside0.mk hB; clear hB)
          | (go_at_call 95; (with_reducible refine (CW.out _ HV.out).mono ?_); rintro e w5 ⟨rfl, hI, hB⟩; have HI5 := Aside0.mk hI; have HW5 := Aside0.mk (show Below w2.heap.size w2 w5 by have h1 := (HW.out.trans (HV.out.mono (Nat.le_of_lt HU.out.lt))).trans hB; rw [GQ.out] at h1; exact h1); clear hI hB)
          | (go_at_call 83; (with_reducible refine (c83b.out _ (below_step HB.out HW5.out)).mono ?_); rintro e w6 ⟨rfl, hB⟩; have HI6 := Aside0.mk (buf_below HI5.out hB); have HW6 := Aside0.mk (below_step HW5.out hB); clear hB; obtain ⟨k1, k2, k3, k4⟩ := HCC.out _ (below_step HB.out HW6.out)))
      go_quiet (first | (go_at_call 99; refine Calls.quiet_of_same (CU.out _)))
      have CR := Aside0.mk (fun nd : Nat => write_rune (w := w6.drewN nd) HI6.out U HUD.out (by have h1 := congrArg List.length HR.out.1; simp only [List.length_append] at h1; have := HL.out; simp only [List.length_append]; omega))
      go_wp2_with (first
          | (go_at_call 98; (with_reducible refine (CR.out _).mono ?_); rintro e w7 ⟨rfl, hI, hB⟩; have HI7 := Aside0.mk hI; have HW7 := Aside0.mk (show Below gq w2 w7 by have h1 := HW6.out; rw [← GQ.out] at h1; exact (pw_below_drewN h1 _).trans hB); clear hI hB))
      clear q0 q1 q2 q4 q5 q6 q7 q8 q9 q10 q11 q12 q13 q14 q15 q16 q17 q18 q19 z1 z2 z3 z4
      have e6 : wrap64 ((p5 : Int) + 1) = ((p + 6 : Nat) : Int) := by
        have h1 := HQE.out; have h2 := HSM.out; have h3 := HK.out
        exact w_at (by omega) (by omega)
      go_roundw
      case rel => exact ⟨p + 6, p + 6, _, _, 1, _, x', by rw [e6], rfl, by rw [e6], rfl, rfl, HI7, HW7, ⟨Nat.le_refl _, Nat.le_of_lt HK.out⟩, ⟨by rw [← HR.out.1, HX3.out]; simp only [Nat.sub_self, List.take_zero, List.append_nil, List.append_assoc], HQ3.out⟩⟩
      case measure =>
        simp only [msr_int]
        rw [e6]
        clear e6
        have h1 := HQE.out; have h2 := HSM.out; have h3 := HK.out
        omega
end Go.Proofs.YtfblohdfmaankaaGreatDoor.PFnTextWritten
namespace Go.Proofs.YtfblohdfmaankaaGreatDoor.PFnTextWritten
open Go.RowKit Go.Proofs.YtfblohdfmaankaaGreatDoorW.PrintWords Go.Proofs.YtfblohdfmaankaaGreatDoorW.PrintLast Go.Proofs.YtfblohdfmaankaaGreatDoorW.PrintMore
set_option linter.unusedVariables false
set_option linter.unusedSimpArgs false
/-- A block string that ends at a place, without three quotes ahead of it. -/
def Bq (t : ByteArray) (e : Nat) : Prop := (3 ≤ e ∧ e + 3 = t.size) ∧ (bt t (e : Nat) = 34 ∧ bt t ((e + 1 : Nat) : Int) = 34 ∧ bt t ((e + 2 : Nat) : Int) = 34) ∧
  ∀ p : Nat, 3 ≤ p → p < e → (32 ≤ bt t (p : Nat) ∨ bt t (p : Nat) = 9 ∨ bt t (p : Nat) = 10) ∧ (bt t (p : Nat) = 34 → ¬ (bt t ((p + 1 : Nat) : Int) = 34 ∧ bt t ((p + 2 : Nat) : Int) = 34)) ∧ (bt t (p : Nat) = 92 → ¬ (bt t ((p + 1 : Nat) : Int) = 34 ∧ bt t ((p + 2 : Nat) : Int) = 34 ∧ bt t ((p + 3 : Nat) : Int) = 34))
theorem rn_q (t : ByteArray) (p : Nat) (h : p < t.size) : ∃ (c : Int) (k : Nat), rn t p = (c, (k : Int)) ∧ ((bt t p = 34 ∧ c = 34) ∨ (bt t p ≠ 34 ∧ (c == 34) = false)) := by
  by_cases hb : bt t p < 128
  · refine ⟨bt t p, 1, rn_low t p _ h rfl hb, ?_⟩
    by_cases h34 : bt t p = 34
    · exact .inl ⟨h34, h34⟩
    · exact .inr ⟨h34, by rw [beq_eq_false_iff_ne]; exact h34⟩
  · obtain ⟨c, k, h1, h2, _⟩ := rn_high t p h (by omega)
    exact ⟨c, k, h1, .inr ⟨by omega, by rw [beq_eq_false_iff_ne]; omega⟩⟩
/-- What a round of readBlockString meets. -/
theorem bq_step (t : ByteArray) (e p : Nat) (h : Bq t e) (h3 : 3 ≤ p) (hp : p ≤ e) :
    (p = e ∧ rn t p = (34, 1) ∧ rn t (p + 1) = (34, 1) ∧ rn t (p + 2) = (34, 1)) ∨
    (p < e ∧ rn t p = (34, 1) ∧ ∃ (c d : Int) (k m : Nat), rn t (p + 1) = (c, (k : Int)) ∧ rn t (p + 2) = (d, (m : Int)) ∧ ((c == 34) = false ∨ (c = 34 ∧ (d == 34) = false))) ∨
    (p < e ∧ rn t p = (92, 1) ∧ ∃ (c d f : Int) (k m n : Nat), rn t (p + 1) = (c, (k : Int)) ∧ rn t (p + 2) = (d, (m : Int)) ∧ rn t (p + 3) = (f, (n : Int)) ∧ ((c == 34) = false ∨ (c = 34 ∧ (d == 34) = false) ∨ (c = 34 ∧ d = 34 ∧ (f == 34) = false))) ∨
    (∃ (c : Int) (k : Nat), rn t p = (c, (k : Int)) ∧ (1 ≤ k ∧ p + k ≤ e) ∧ (c == 34) = false ∧ (c == 92) = false ∧ (decide (c < 32) = false ∨ c = 9 ∨ c = 10)) := by
  obtain ⟨⟨e3, es⟩, ⟨q0, q1, q2⟩, hall⟩ := h
  by_cases hpe : p = e
  · subst hpe
    exact .inl ⟨rfl, rn_low t p _ (by omega) q0 (by decide), rn_low t (p + 1) _ (by omega) q1 (by decide), rn_low t (p + 2) _ (by omega) q2 (by decide)⟩
  have hlt : p < e := by omega
  obtain ⟨a1, a2, a3⟩ := hall p h3 hlt
  obtain ⟨c1, k1, r1, v1⟩ := rn_q t (p + 1) (by omega)
  obtain ⟨c2, k2, r2, v2⟩ := rn_q t (p + 2) (by omega)
  obtain ⟨c3, k3, r3, v3⟩ := rn_q t (p + 3) (by omega)
  by_cases h34 : bt t (p : Nat) = 34
  · refine .inr (.inl ⟨hlt, rn_low t p _ (by omega) h34 (by decide), c1, c2, k1, k2, r1, r2, ?_⟩)
    rcases v1 with ⟨x1, y1⟩ | ⟨x1, y1⟩
    · rcases v2 with ⟨x2, y2⟩ | ⟨x2, y2⟩
      · exact absurd ⟨x1, x2⟩ (a2 h34)
      · exact .inr ⟨y1, y2⟩
    · exact .inl y1
  by_cases h92 : bt t (p : Nat) = 92
  · refine .inr (.inr (.inl ⟨hlt, rn_low t p _ (by omega) h92 (by decide), c1, c2, c3, k1, k2, k3, r1, r2, r3, ?_⟩))
    rcases v1 with ⟨x1, y1⟩ | ⟨x1, y1⟩
    · rcases v2 with ⟨x2, y2⟩ | ⟨x2, y2⟩
      · rcases v3 with ⟨x3, y3⟩ | ⟨x3, y3⟩
        · exact absurd ⟨x1, x2, x3⟩ (a3 h92)
        · exact .inr (.inr ⟨y1, y2, y3⟩)
      · exact .inr (.inl ⟨y1, y2⟩)
    · exact .inl y1
  refine .inr (.inr (.inr ?_))
  by_cases hb : bt t (p : Nat) < 128
  · refine ⟨bt t p, 1, rn_low t p _ (by omega) rfl hb, ⟨by omega, by omega⟩, by rw [beq_eq_false_iff_ne]; exact h34, by rw [beq_eq_false_iff_ne]; exact h92, ?_⟩
    rcases a1 with a1 | a1 | a1
    · exact .inl (decide_eq_false (by omega))
    · exact .inr (.inl a1)
    · exact .inr (.inr a1)
  · obtain ⟨c, k, z1, z2, z3, z4, z5⟩ := rn_high t p (by omega) (by omega)
    refine ⟨c, k, z1, ⟨z3, ?_⟩, by rw [beq_eq_false_iff_ne]; omega, by rw [beq_eq_false_iff_ne]; omega, .inl (decide_eq_false (by omega))⟩
    refine Nat.le_of_not_lt fun hn => ?_
    have := z5 (e - p) (by omega)
    rw [show p + (e - p) = e by omega, q0] at this
    omega
/-- What is known of a world in which a buffer is being filled. -/
def Stt (w w2 : World) (gq : Nat) (l : List UInt8) (wr : World) : Prop := Go.Lib.IsBuffer 186 5 gq gq (Go.Lib.byteCells l) wr ∧ Below gq w2 wr ∧ Below w.heap.size w wr
theorem Stt.step {w w2 wr w' : World} {gq : Nat} {l : List UInt8} (h : Stt w w2 gq l wr) (hb : Below wr.heap.size wr w') : Stt w w2 gq l w' :=
  ⟨buf_below h.1 hb, h.2.1.trans (hb.mono (Nat.le_of_lt h.1.lt)), below_step h.2.2 hb⟩
set_option maxHeartbeats 16000000 in
set_option maxRecDepth 100000 in
theorem readBlock_walk {w : World} {g b cap : Nat} {t : ByteArray} (h : Src w g b cap t) (e : Nat) (he : Bq t e) (V : ByteArray)
    (hV : ∀ w, Calls Tryz.prog 96 #[.string ⟨((dr t 3).take (e - 3)).toArray⟩] w fun x w' => x = .returned (.string V) ∧ Below w.heap.size w w') :
    Calls Tryz.prog 86 #[.pointer (some ⟨g, 0, none⟩), .int .i64 0] w fun x w' => x = .returned (.tuple #[.agg #[.int .i64 19, .int .i64 0, .int .i64 t.size, .string V], .nilIface]) ∧ Below w.heap.size w w' := by
  have HS := Aside0.mk h
  have HE := Aside0.mk he
  have HV := Aside0.mk hV
  have HSM := Aside0.mk h.small
  have hbg : b < w.heap.size := World.block_lt_of_cell? w _ (h.bytes 0 (by have := he.1; omega))
  clear h he hV
  go_enter Tryz.func86, Tryz.ntmps86
  go_wp2_with (first
    | ((with_reducible refine gate_dst (N := 4) rfl ?_); refine box_event ?hg (N := 4) ?hd (cs := #[.int .i64 0, .int .i64 0, .int .i64 0, .string ⟨#[]⟩]) (t := 110) ?hr ?_; (case hd => rfl); (case hg => rfl); (case hr => first | (go_simp; done) | (go_simp; rfl)); intro gb hg w2 hbox hb; have HB := Aside0.mk hb; have GE := Aside0.mk (Nat.le_of_eq hg.symm); have BK := Aside0.mk hbox; clear hb hbox hg; have hc0 := (HS.out.below HB.out).body)
    | ((with_reducible refine gate_dst (N := 10) rfl ?_); refine box_event ?hg (N := 10) ?hd (cs := #[.slice none 0 0, .int .i64 0, .int .i8 0]) (t := 186) ?hr ?_; (case hd => rfl); (case hg => rfl); (case hr => first | (go_simp; done) | (go_simp; rfl)); intro gq hg w3 hbox hb; have HQ := Aside0.mk hb; have GQ := Aside0.mk hg; have BQ := Aside0.mk hbox; clear hb hbox hg))
  have HBG := Aside0.mk (show b < gq by have := HB.out.size; have := GQ.out; omega)
  have HST := Aside0.mk (show Stt w w2 gq [] w3 from ⟨buf_new BQ.out, by have := HQ.out; rw [← GQ.out] at this; exact this, below_step HB.out HQ.out⟩)
  clear hbg HQ
  go_simp
  go_loopw [7, 8, 9] (fun v7 v8 v9 wr => ∃ (p : Nat) (m : Int), v7 = .int .i64 p ∧ v8 = .int .i64 m ∧ v9 = .int .i64 3 ∧ Aside0 (3 ≤ p ∧ p ≤ e) ∧ Aside0 (Stt w w2 gq [] wr)) (fun v7 _ _ _ => msr t v7)
  case atStart => exact ⟨3, 3, rfl, rfl, rfl, ⟨Nat.le_refl _, HE.out.1.1⟩, HST⟩
  case round =>
    obtain ⟨p, m, rfl, rfl, rfl, HP, HT⟩ := hrel
    obtain ⟨P1, hP1⟩ : ∃ q : Nat, q = p + 1 := ⟨_, rfl⟩
    obtain ⟨P2, hP2⟩ : ∃ q : Nat, q = p + 2 := ⟨_, rfl⟩
    obtain ⟨P3, hP3⟩ : ∃ q : Nat, q = p + 3 := ⟨_, rfl⟩
    have hsz : p + 3 ≤ t.size := by have := HP.out; have := HE.out.1; omega
    have QW := Aside0.mk (show wrap64 ((p : Int) + 1) = (P1 : Int) ∧ wrap64 ((p : Int) + 2) = (P2 : Int) ∧ wrap64 ((p : Int) + 3) = (P3 : Int) from by
      have hz := HSM.out
      exact ⟨w_at (by omega) (by omega), w_at (by omega) (by omega), w_at (by omega) (by omega)⟩)
    have q0 : decide ((t.size : Int) ≤ (p : Int)) = false := decide_eq_false (by omega)
    have q1 : ¬ (t.size ≤ p) := by omega
    have C0 := runeAt_src (HS.out.below HT.out.2.2) p (by omega)
    have C1 := Aside0.mk (fun (w5 : World) (h5 : Stt w w2 gq [] w5) => runeAt_src (HS.out.below h5.2.2) P1 (by omega))
    have C2 := Aside0.mk (fun (w5 : World) (h5 : Stt w w2 gq [] w5) => runeAt_src (HS.out.below h5.2.2) P2 (by omega))
    have C3 := Aside0.mk (fun (w5 : World) (h5 : Stt w w2 gq [] w5) (hp : P3 ≤ t.size) => runeAt_src (HS.out.below h5.2.2) P3 hp)
    have HPP := Aside0.mk (And.intro hP1 (And.intro hP2 hP3))
    have HSZ := Aside0.mk hsz
    have hst := bq_step t e p HE.out HP.out.1 HP.out.2
    rw [← hP1, ← hP2, ← hP3] at hst
    clear hP1 hP2 hP3 hsz
    rcases hst with ⟨hpe, r0, r1, r2⟩ | ⟨hlt, r0, c, d, k1, k2, r1, r2, hcd⟩ | ⟨hlt, r0, c, d, f, k1, k2, k3, r1, r2, r3, hcd⟩ | ⟨c, k, r0, hk, hc34, hc92, hc⟩
    · rw [r0] at C0
      rw [r1] at C1
      rw [r2] at C2
      have HPE := Aside0.mk hpe
      clear r0 r1 r2 C3 hpe
      have q2 : (3 ≤ p) = True := eq_true HP.out.1
      have q5 : ((3 : Int) ≤ (p : Int)) = True := eq_true (by have := HP.out.1; omega)
      have q6 : ((p : Int) < 3) = False := eq_false (by have := HP.out.1; omega)
      have q3 : (p ≤ cap) = True := eq_true (by have := HSZ.out; have := HS.out.cap; omega)
      have q4 : (cap = 3) = False := eq_false (by have := HP.out.1; have := HSZ.out; have := HS.out.cap; omega)
      have CW := Aside0.mk (fun (w6 : World) (h6 : Stt w w2 gq [] w6) => (show Calls Tryz.prog 95 #[.pointer (some ⟨gq, 0, none⟩), .slice (some ⟨b, 3, none⟩) (p - 3) (cap - 3)] w6 fun x w' => x = .returned (.tuple #[.int .i64 ((p - 3 : Nat) : Int), .nilIface]) ∧ Go.Lib.IsBuffer 186 5 gq gq (Go.Lib.byteCells ((dr t 3).take (e - 3))) w' ∧ Below gq w6 w' from by
        have h := write_chunk (cp := cap - 3) (HS.out.below h6.2.2).bytes h6.1 HBG.out 3 p HP.out.1 (by have := HSZ.out; omega) (by decide) HSM.out
        rw [List.nil_append] at h
        rw [← HPE.out]
        exact h))
      obtain ⟨y1, y2, y3⟩ := QW.out
      have M1 := Aside0.mk True.intro
      have M2 := Aside0.mk True.intro
      have M3 := Aside0.mk True.intro
      go_wp2_with (first
        | (clear M1; go_at_call 83; refine C0.mono ?_; rintro x w4 ⟨rfl, hB⟩; have HT4 := Aside0.mk (HT.out.step hB); clear hB)
        | (clear M2; go_at_call 83; (with_reducible refine (C1.out _ HT4.out).mono ?_); rintro x w5 ⟨rfl, hB⟩; have HT5 := Aside0.mk (HT4.out.step hB); clear hB)
        | (clear M3; go_at_call 83; (with_reducible refine (C2.out _ HT5.out).mono ?_); rintro x w6 ⟨rfl, hB⟩; have HT6 := Aside0.mk (HT5.out.step hB); clear hB)
        | (go_at_call 95; (with_reducible refine (CW.out _ HT6.out).mono ?_); rintro x w7 ⟨rfl, hI, hB⟩; have HI7 := Aside0.mk hI; have HW7 := Aside0.mk (show Below w2.heap.size w2 w7 by have h1 := HT6.out.2.1.trans hB; rw [GQ.out] at h1; exact h1); clear hI hB)
        | (go_at_call 97; (with_reducible refine (Tryz.Buffer_String gq gq _ _ HI7.out).mono ?_); rintro x w8 ⟨rfl, nd, rfl⟩; have HW8 := Aside0.mk (pw_below_drewN HW7.out nd))
        | (go_at_call 96; (with_reducible refine (HV.out _).mono ?_); rintro x w9 ⟨rfl, hB⟩; have HW9 := Aside0.mk (below_step HW8.out hB); clear hB)
        | (go_at_call 82; (with_reducible refine (makeToken_walk 19 0 _ _ _).mono ?_); rintro x w10 ⟨rfl, hB⟩; have HW10 := Aside0.mk (below_step HW9.out hB); clear hB; have BK10 := Aside0.mk (blk_below BK.out HW10.out); have hz0 : w10.cell? ⟨gb, 0, none⟩ = some (.int .i64 0) := (blk_cell BK10.out 0).trans rfl; have hz1 : w10.cell? ⟨gb, 1, none⟩ = some (.int .i64 0) := (blk_cell BK10.out 1).trans rfl; have hz2 : w10.cell? ⟨gb, 2, none⟩ = some (.int .i64 0) := (blk_cell BK10.out 2).trans rfl; have hz3 : w10.cell? ⟨gb, 3, none⟩ = some (.string ⟨#[]⟩) := (blk_cell BK10.out 3).trans rfl; have hf0 := blk_frozen BK10.out 0; have hf1 := blk_frozen BK10.out 1; have hf2 := blk_frozen BK10.out 2; have hf3 := blk_frozen BK10.out 3))
      have ew : (P3 : Int) = (t.size : Int) := by
        clear q0 q1 q2 q3 q4 q5 q6 y1 y2 y3
        have h1 := HPE.out; have h2 := HE.out.1; have h3 := HPP.out; omega
      rw [ew]
      refine bodyPost_ret (results_ct rfl _ _ gb 110 #[.int .i64 19, .int .i64 0, .int .i64 t.size, .string V] (0, 0) _ rfl (by refine blk_put (cs := #[.int .i64 19, .int .i64 0, .int .i64 t.size, .string ⟨#[]⟩]) ?_ 3 _ rfl; refine blk_put (cs := #[.int .i64 19, .int .i64 0, .int .i64 0, .string ⟨#[]⟩]) ?_ 2 _ rfl; refine blk_put (cs := #[.int .i64 19, .int .i64 0, .int .i64 0, .string ⟨#[]⟩]) ?_ 1 _ rfl; refine blk_put (cs := #[.int .i64 0, .int .i64 0, .int .i64 0, .string ⟨#[]⟩]) ?_ 0 _ rfl; exact BK10.out) Tryz.underlying110 rfl (by kernel_rfl)) rfl ?_
      have hfin := below_step HB.out HW10.out
      exact ⟨rfl, below_set (below_set (below_set (below_set hfin GE.out) GE.out) GE.out) GE.out⟩
    · rw [r0] at C0
      rw [r1] at C1
      rw [r2] at C2
      have HLT := Aside0.mk hlt
      clear r0 r1 r2 C3 hlt
      obtain ⟨y1, y2, y3⟩ := QW.out
      have M1 := Aside0.mk True.intro
      have M2 := Aside0.mk True.intro
      have M3 := Aside0.mk True.intro
      rcases hcd with h1 | ⟨rfl, h1⟩
      all_goals
        go_wp2_with (first
          | (clear M1; go_at_call 83; refine C0.mono ?_; rintro x w4 ⟨rfl, hB⟩; have HT4 := Aside0.mk (HT.out.step hB); clear hB)
          | (clear M2; go_at_call 83; (with_reducible refine (C1.out _ HT4.out).mono ?_); rintro x w5 ⟨rfl, hB⟩; have HT5 := Aside0.mk (HT4.out.step hB); clear hB)
          | (clear M3; go_at_call 83; (with_reducible refine (C2.out _ HT5.out).mono ?_); rintro x w6 ⟨rfl, hB⟩; have HT6 := Aside0.mk (HT5.out.step hB); clear hB))
        clear q0 q1
        have HTX := HT6
        go_roundw
        case rel => exact ⟨p + 1, _, by rw [y1, HPP.out.1], rfl, rfl, ⟨by have := HP.out.1; omega, HLT.out⟩, HTX⟩
        case measure =>
          simp only [msr_int]
          rw [y1, HPP.out.1]
          clear y1 y2 y3
          have h2 := HSZ.out
          omega
    · rw [r0] at C0
      rw [r1] at C1
      rw [r2] at C2
      have HP3 := Aside0.mk (show P3 ≤ t.size by have := HPP.out.2.2; have := HSZ.out; omega)
      rw [r3] at C3
      have HLT := Aside0.mk hlt
      clear r0 r1 r2 r3 hlt
      obtain ⟨y1, y2, y3⟩ := QW.out
      have M1 := Aside0.mk True.intro
      have M2 := Aside0.mk True.intro
      have M3 := Aside0.mk True.intro
      rcases hcd with h1 | ⟨rfl, h1⟩ | ⟨rfl, rfl, h1⟩
      all_goals
        go_wp2_with (first
          | (clear M1; go_at_call 83; refine C0.mono ?_; rintro x w4 ⟨rfl, hB⟩; have HT4 := Aside0.mk (HT.out.step hB); clear hB)
          | (clear M2; go_at_call 83; (with_reducible refine (C1.out _ HT4.out).mono ?_); rintro x w5 ⟨rfl, hB⟩; have HT5 := Aside0.mk (HT4.out.step hB); clear hB)
          | (clear M3; go_at_call 83; (with_reducible refine (C2.out _ HT5.out).mono ?_); rintro x w6 ⟨rfl, hB⟩; have HT6 := Aside0.mk (HT5.out.step hB); clear hB)
          | (go_at_call 83; (with_reducible refine (C3.out _ HT6.out HP3.out).mono ?_); rintro x w7 ⟨rfl, hB⟩; have HT7 := Aside0.mk (HT6.out.step hB); clear hB))
        clear q0 q1
        have HTX := HT7
        go_roundw
        case rel => exact ⟨p + 1, _, by rw [y1, HPP.out.1], rfl, rfl, ⟨by have := HP.out.1; omega, HLT.out⟩, HTX⟩
        case measure =>
          simp only [msr_int]
          rw [y1, HPP.out.1]
          clear y1 y2 y3
          have h2 := HSZ.out
          omega
    · rw [r0] at C0
      have HK := Aside0.mk hk
      clear r0 hk C1 C2 C3
      have M1 := Aside0.mk True.intro
      rcases hc with hc | rfl | rfl
      all_goals
        go_wp2_with (first
          | (clear M1; go_at_call 83; refine C0.mono ?_; rintro x w4 ⟨rfl, hB⟩; have HT4 := Aside0.mk (HT.out.step hB); clear hB))
        clear q0 q1
        have e6 : wrap64 ((p : Int) + (k : Int)) = ((p + k : Nat) : Int) := by
          have h1 := HK.out; have h2 := HSM.out; have h3 := HE.out.1
          exact w_at (by omega) (by omega)
        go_roundw
        case rel => exact ⟨p + k, _, by rw [e6], rfl, rfl, ⟨by have := HP.out.1; omega, HK.out.2⟩, HT4⟩
        case measure =>
          simp only [msr_int]
          rw [e6]
          clear e6
          have h1 := HK.out; have h2 := HSZ.out
          omega
end Go.Proofs.YtfblohdfmaankaaGreatDoor.PFnTextWritten
namespace Go.Proofs.YtfblohdfmaankaaGreatDoor.PFnTextWritten
open Go.RowKit Go.Proofs.YtfblohdfmaankaaGreatDoorW.PrintWords Go.Proofs.YtfblohdfmaankaaGreatDoorW.PrintLast Go.Proofs.YtfblohdfmaankaaGreatDoorW.PrintMore
set_option linter.unusedVariables false
set_option linter.unusedSimpArgs false
set_option maxHeartbeats 16000000 in
set_option maxRecDepth 100000 in
theorem readToken_str {w : World} {g b cap : Nat} {t : ByteArray} (h : Src w g b cap t) (h2 : 2 ≤ t.size) (h0 : bt t 0 = 34) (c d k m : Int) (r1 : rn t 1 = (c, k)) (r2 : rn t 2 = (d, m)) (hcd : (c == 34) = false ∨ (c = 34 ∧ (d == 34) = false)) (v : ByteArray)
    (hC : ∀ w, Src w g b cap t → Calls Tryz.prog 87 #[.pointer (some ⟨g, 0, none⟩), .int .i64 0] w fun e w' => e = .returned (.tuple #[.agg #[.int .i64 18, .int .i64 0, .int .i64 t.size, .string v], .nilIface]) ∧ Below w.heap.size w w') :
    Calls Tryz.prog 62 #[.pointer (some ⟨g, 0, none⟩), .int .i64 0] w fun e w' => e = .returned (.tuple #[.agg #[.int .i64 18, .int .i64 0, .int .i64 t.size, .string v], .nilIface]) ∧ Below w.heap.size w w' := by
  have HS := Aside0.mk h
  have H0 := Aside0.mk h0
  have HC := Aside0.mk hC
  have q1 : ((t.size : Int) ≤ 0) = False := eq_false (by omega)
  have q2 : decide ((t.size : Int) ≤ 0) = false := decide_eq_false (by omega)
  have q3 : (t.size ≤ 0) = False := eq_false (by omega)
  have q4 : (t.size = 0) = False := eq_false (by omega)
  have HPW := Aside0.mk (fun (w : World) (hs : Src w g b cap t) => paw_quote t b cap w hs.glob hs.small hs.cap hs.bytes (by omega) h0)
  have C0 := Aside0.mk (fun (w : World) (hs : Src w g b cap t) => (show Calls Tryz.prog 83 #[.slice (some ⟨b, 0, none⟩) t.size cap, .int .i64 0] w fun e w' => e = .returned (.tuple #[.int .i32 34, .int .i64 1]) ∧ Below w.heap.size w w' by
    have h := runeAt_src hs 0 (by omega)
    rw [rn_low t 0 34 (by omega) h0 (by decide)] at h
    exact h))
  have C1 := Aside0.mk (fun (w : World) (hs : Src w g b cap t) => (show Calls Tryz.prog 83 #[.slice (some ⟨b, 0, none⟩) t.size cap, .int .i64 1] w fun e w' => e = .returned (.tuple #[.int .i32 c, .int .i64 k]) ∧ Below w.heap.size w w' by
    have h := runeAt_src hs 1 (by omega)
    rw [r1] at h
    exact h))
  have C2 := Aside0.mk (fun (w : World) (hs : Src w g b cap t) => (show Calls Tryz.prog 83 #[.slice (some ⟨b, 0, none⟩) t.size cap, .int .i64 2] w fun e w' => e = .returned (.tuple #[.int .i32 d, .int .i64 m]) ∧ Below w.heap.size w w' by
    have h := runeAt_src hs 2 (by omega)
    rw [r2] at h
    exact h))
  have HB := Aside0.mk (Below.refl w.heap.size w)
  clear h h2 h0 r1 r2 hC
  rcases hcd with hcd | ⟨rfl, hcd⟩
  all_goals
    go_enter Tryz.func62, Tryz.ntmps62
    go_wp2_with (first
      | ((with_reducible refine gate_dst (N := 4) rfl ?_); refine box_event ?hg (N := 4) ?hd (cs := #[.int .i64 0, .int .i64 0, .int .i64 0, .string ⟨#[]⟩]) (t := 110) ?hr ?_; (case hd => rfl); (case hg => rfl); (case hr => first | (go_simp; done) | (go_simp; rfl)); intro gb hg w2 hbox hb; have n0_ := Aside0.mk (below_step HB.out hb); have GE := Aside0.mk ((by rw [hg]; exact below_size HB.out : w.heap.size ≤ gb)); clear HB; have HB := n0_; have BK := Aside0.mk hbox; clear n0_ hb hbox hg; have hc0 := (HS.out.below HB.out).body)
      | (go_at_call 81; (with_reducible refine (HPW.out _ (HS.out.below HB.out)).mono ?_); rintro e w3 ⟨rfl, hB⟩; have n0_ := Aside0.mk (below_step HB.out hB); have n1_ := Aside0.mk (blk_below BK.out hB); clear HB BK hB; have HB := n0_; have BK := n1_; clear n0_ n1_)
      | (go_at_call 83; (with_reducible refine (C0.out _ (HS.out.below HB.out)).mono ?_); rintro e w4 ⟨rfl, hB⟩; have n0_ := Aside0.mk (below_step HB.out hB); have n1_ := Aside0.mk (blk_below BK.out hB); clear HB BK hB; have HB := n0_; have BK := n1_; clear n0_ n1_)
      | ((with_reducible refine gate_dst (N := 18) rfl ?_); refine box_event ?hg (N := 18) ?hd (cs := #[.int .i64 0, .int .i64 0, .int .i64 0, .string ⟨#[]⟩]) (t := 110) ?hr ?_; (case hd => rfl); (case hg => rfl); (case hr => first | (go_simp; done) | (go_simp; rfl)); intro gt hg w5 hbox hb; have n0_ := Aside0.mk (below_step HB.out hb); have GT := Aside0.mk ((by rw [hg]; exact below_size HB.out : w.heap.size ≤ gt)); have NE := Aside0.mk ((by rw [hg]; exact Nat.ne_of_lt (blk_lt BK.out)) : gb ≠ gt); have n1_ := Aside0.mk (blk_below BK.out hb); clear HB BK; have HB := n0_; have BK := n1_; have BT := Aside0.mk hbox; clear n0_ n1_ hb hbox hg; have hne := NE.out; have hne2 : gt ≠ gb := fun e => NE.out e.symm)
      | (go_at_call 83; (with_reducible refine (C1.out _ (HS.out.below HB.out)).mono ?_); rintro e w6 ⟨rfl, hB⟩; have n0_ := Aside0.mk (below_step HB.out hB); have n1_ := Aside0.mk (blk_below BK.out hB); have n2_ := Aside0.mk (blk_below BT.out hB); clear HB BK BT hB; have HB := n0_; have BK := n1_; have BT := n2_; clear n0_ n1_ n2_)
      | (go_at_call 83; (with_reducible refine (C2.out _ (HS.out.below HB.out)).mono ?_); rintro e w7 ⟨rfl, hB⟩; have n0_ := Aside0.mk (below_step HB.out hB); have n1_ := Aside0.mk (blk_below BK.out hB); have n2_ := Aside0.mk (blk_below BT.out hB); clear HB BK BT hB; have HB := n0_; have BK := n1_; have BT := n2_; clear n0_ n1_ n2_)
      | (go_at_call 87; (with_reducible refine (HC.out _ (HS.out.below HB.out)).mono ?_); rintro e w8 ⟨rfl, hB⟩; have n0_ := Aside0.mk (below_step HB.out hB); have n1_ := Aside0.mk (blk_below BK.out hB); have n2_ := Aside0.mk (blk_below BT.out hB); clear HB BK BT hB; have HB := n0_; have BK := n1_; have BT := n2_; clear n0_ n1_ n2_; have hz0 : w8.cell? ⟨gb, 0, none⟩ = some (.int .i64 0) := (blk_cell BK.out 0).trans rfl; have hz1 : w8.cell? ⟨gb, 1, none⟩ = some (.int .i64 0) := (blk_cell BK.out 1).trans rfl; have hz2 : w8.cell? ⟨gb, 2, none⟩ = some (.int .i64 0) := (blk_cell BK.out 2).trans rfl; have hz3 : w8.cell? ⟨gb, 3, none⟩ = some (.string ⟨#[]⟩) := (blk_cell BK.out 3).trans rfl; have hf0 := blk_frozen BK.out 0; have hf1 := blk_frozen BK.out 1; have hf2 := blk_frozen BK.out 2; have hf3 := blk_frozen BK.out 3; have tz0 : w8.cell? ⟨gt, 0, none⟩ = some (.int .i64 0) := (blk_cell BT.out 0).trans rfl; have tz1 : w8.cell? ⟨gt, 1, none⟩ = some (.int .i64 0) := (blk_cell BT.out 1).trans rfl; have tz2 : w8.cell? ⟨gt, 2, none⟩ = some (.int .i64 0) := (blk_cell BT.out 2).trans rfl; have tz3 : w8.cell? ⟨gt, 3, none⟩ = some (.string ⟨#[]⟩) := (blk_cell BT.out 3).trans rfl; have tf0 := blk_frozen BT.out 0; have tf1 := blk_frozen BT.out 1; have tf2 := blk_frozen BT.out 2; have tf3 := blk_frozen BT.out 3))
    refine bodyPost_ret (results_ct rfl _ _ gb 110 #[.int .i64 18, .int .i64 0, .int .i64 t.size, .string v] (0, 0) _ rfl (by refine blk_put (cs := #[.int .i64 18, .int .i64 0, .int .i64 t.size, .string ⟨#[]⟩]) ?_ 3 _ rfl; refine blk_put (cs := #[.int .i64 18, .int .i64 0, .int .i64 0, .string ⟨#[]⟩]) ?_ 2 _ rfl; refine blk_put (cs := #[.int .i64 18, .int .i64 0, .int .i64 0, .string ⟨#[]⟩]) ?_ 1 _ rfl; refine blk_put (cs := #[.int .i64 0, .int .i64 0, .int .i64 0, .string ⟨#[]⟩]) ?_ 0 _ rfl; refine blk_far ?_ NE.out _; refine blk_far ?_ NE.out _; refine blk_far ?_ NE.out _; refine blk_far ?_ NE.out _; exact BK.out) Tryz.underlying110 rfl (by kernel_rfl)) rfl ?_
    exact ⟨rfl, (below_set (below_set (below_set (below_set (below_set (below_set (below_set (below_set HB.out GT.out) GT.out) GT.out) GT.out) GE.out) GE.out) GE.out) GE.out)⟩
set_option maxHeartbeats 16000000 in
set_option maxRecDepth 100000 in
theorem readToken_blk {w : World} {g b cap : Nat} {t : ByteArray} (h : Src w g b cap t) (h2 : 2 ≤ t.size) (h0 : bt t 0 = 34) (c d k m : Int) (r1 : rn t 1 = (c, k)) (r2 : rn t 2 = (d, m)) (hcd : c = 34 ∧ d = 34) (v : ByteArray)
    (hC : ∀ w, Src w g b cap t → Calls Tryz.prog 86 #[.pointer (some ⟨g, 0, none⟩), .int .i64 0] w fun e w' => e = .returned (.tuple #[.agg #[.int .i64 19, .int .i64 0, .int .i64 t.size, .string v], .nilIface]) ∧ Below w.heap.size w w') :
    Calls Tryz.prog 62 #[.pointer (some ⟨g, 0, none⟩), .int .i64 0] w fun e w' => e = .returned (.tuple #[.agg #[.int .i64 19, .int .i64 0, .int .i64 t.size, .string v], .nilIface]) ∧ Below w.heap.size w w' := by
  have HS := Aside0.mk h
  have H0 := Aside0.mk h0
  have HC := Aside0.mk hC
  have q1 : ((t.size : Int) ≤ 0) = False := eq_false (by omega)
  have q2 : decide ((t.size : Int) ≤ 0) = false := decide_eq_false (by omega)
  have q3 : (t.size ≤ 0) = False := eq_false (by omega)
  have q4 : (t.size = 0) = False := eq_false (by omega)
  have HPW := Aside0.mk (fun (w : World) (hs : Src w g b cap t) => paw_quote t b cap w hs.glob hs.small hs.cap hs.bytes (by omega) h0)
  have C0 := Aside0.mk (fun (w : World) (hs : Src w g b cap t) => (show Calls Tryz.prog 83 #[.slice (some ⟨b, 0, none⟩) t.size cap, .int .i64 0] w fun e w' => e = .returned (.tuple #[.int .i32 34, .int .i64 1]) ∧ Below w.heap.size w w' by
    have h := runeAt_src hs 0 (by omega)
    rw [rn_low t 0 34 (by omega) h0 (by decide)] at h
    exact h))
  have C1 := Aside0.mk (fun (w : World) (hs : Src w g b cap t) => (show Calls Tryz.prog 83 #[.slice (some ⟨b, 0, none⟩) t.size cap, .int .i64 1] w fun e w' => e = .returned (.tuple #[.int .i32 c, .int .i64 k]) ∧ Below w.heap.size w w' by
    have h := runeAt_src hs 1 (by omega)
    rw [r1] at h
    exact h))
  have C2 := Aside0.mk (fun (w : World) (hs : Src w g b cap t) => (show Calls Tryz.prog 83 #[.slice (some ⟨b, 0, none⟩) t.size cap, .int .i64 2] w fun e w' => e = .returned (.tuple #[.int .i32 d, .int .i64 m]) ∧ Below w.heap.size w w' by
    have h := runeAt_src hs 2 (by omega)
    rw [r2] at h
    exact h))
  have HB := Aside0.mk (Below.refl w.heap.size w)
  clear h h2 h0 r1 r2 hC
  obtain ⟨rfl, rfl⟩ := hcd
  all_goals
    go_enter Tryz.func62, Tryz.ntmps62
    go_wp2_with (first
      | ((with_reducible refine gate_dst (N := 4) rfl ?_); refine box_event ?hg (N := 4) ?hd (cs := #[.int .i64 0, .int .i64 0, .int .i64 0, .string ⟨#[]⟩]) (t := 110) ?hr ?_; (case hd => rfl); (case hg => rfl); (case hr => first | (go_simp; done) | (go_simp; rfl)); intro gb hg w2 hbox hb; have n0_ := Aside0.mk (below_step HB.out hb); have GE := Aside0.mk ((by rw [hg]; exact below_size HB.out : w.heap.size ≤ gb)); clear HB; have HB := n0_; have BK := Aside0.mk hbox; clear n0_ hb hbox hg; have hc0 := (HS.out.below HB.out).body)
      | (go_at_call 81; (with_reducible refine (HPW.out _ (HS.out.below HB.out)).mono ?_); rintro e w3 ⟨rfl, hB⟩; have n0_ := Aside0.mk (below_step HB.out hB); have n1_ := Aside0.mk (blk_below BK.out hB); clear HB BK hB; have HB := n0_; have BK := n1_; clear n0_ n1_)
      | (go_at_call 83; (with_reducible refine (C0.out _ (HS.out.below HB.out)).mono ?_); rintro e w4 ⟨rfl, hB⟩; have n0_ := Aside0.mk (below_step HB.out hB); have n1_ := Aside0.mk (blk_below BK.out hB); clear HB BK hB; have HB := n0_; have BK := n1_; clear n0_ n1_)
      | ((with_reducible refine gate_dst (N := 18) rfl ?_); refine box_event ?hg (N := 18) ?hd (cs := #[.int .i64 0, .int .i64 0, .int .i64 0, .string ⟨#[]⟩]) (t := 110) ?hr ?_; (case hd => rfl); (case hg => rfl); (case hr => first | (go_simp; done) | (go_simp; rfl)); intro gt hg w5 hbox hb; have n0_ := Aside0.mk (below_step HB.out hb); have GT := Aside0.mk ((by rw [hg]; exact below_size HB.out : w.heap.size ≤ gt)); have NE := Aside0.mk ((by rw [hg]; exact Nat.ne_of_lt (blk_lt BK.out)) : gb ≠ gt); have n1_ := Aside0.mk (blk_below BK.out hb); clear HB BK; have HB := n0_; have BK := n1_; have BT := Aside0.mk hbox; clear n0_ n1_ hb hbox hg; have hne := NE.out; have hne2 : gt ≠ gb := fun e => NE.out e.symm)
      | (go_at_call 83; (with_reducible refine (C1.out _ (HS.out.below HB.out)).mono ?_); rintro e w6 ⟨rfl, hB⟩; have n0_ := Aside0.mk (below_step HB.out hB); have n1_ := Aside0.mk (blk_below BK.out hB); have n2_ := Aside0.mk (blk_below BT.out hB); clear HB BK BT hB; have HB := n0_; have BK := n1_; have BT := n2_; clear n0_ n1_ n2_)
      | (go_at_call 83; (with_reducible refine (C2.out _ (HS.out.below HB.out)).mono ?_); rintro e w7 ⟨rfl, hB⟩; have n0_ := Aside0.mk (below_step HB.out hB); have n1_ := Aside0.mk (blk_below BK.out hB); have n2_ := Aside0.mk (blk_below BT.out hB); clear HB BK BT hB; have HB := n0_; have BK := n1_; have BT := n2_; clear n0_ n1_ n2_)
      | (go_at_call 86; (with_reducible refine (HC.out _ (HS.out.below HB.out)).mono ?_); rintro e w8 ⟨rfl, hB⟩; have n0_ := Aside0.mk (below_step HB.out hB); have n1_ := Aside0.mk (blk_below BK.out hB); have n2_ := Aside0.mk (blk_below BT.out hB); clear HB BK BT hB; have HB := n0_; have BK := n1_; have BT := n2_; clear n0_ n1_ n2_; have hz0 : w8.cell? ⟨gb, 0, none⟩ = some (.int .i64 0) := (blk_cell BK.out 0).trans rfl; have hz1 : w8.cell? ⟨gb, 1, none⟩ = some (.int .i64 0) := (blk_cell BK.out 1).trans rfl; have hz2 : w8.cell? ⟨gb, 2, none⟩ = some (.int .i64 0) := (blk_cell BK.out 2).trans rfl; have hz3 : w8.cell? ⟨gb, 3, none⟩ = some (.string ⟨#[]⟩) := (blk_cell BK.out 3).trans rfl; have hf0 := blk_frozen BK.out 0; have hf1 := blk_frozen BK.out 1; have hf2 := blk_frozen BK.out 2; have hf3 := blk_frozen BK.out 3; have tz0 : w8.cell? ⟨gt, 0, none⟩ = some (.int .i64 0) := (blk_cell BT.out 0).trans rfl; have tz1 : w8.cell? ⟨gt, 1, none⟩ = some (.int .i64 0) := (blk_cell BT.out 1).trans rfl; have tz2 : w8.cell? ⟨gt, 2, none⟩ = some (.int .i64 0) := (blk_cell BT.out 2).trans rfl; have tz3 : w8.cell? ⟨gt, 3, none⟩ = some (.string ⟨#[]⟩) := (blk_cell BT.out 3).trans rfl; have tf0 := blk_frozen BT.out 0; have tf1 := blk_frozen BT.out 1; have tf2 := blk_frozen BT.out 2; have tf3 := blk_frozen BT.out 3))
    refine bodyPost_ret (results_ct rfl _ _ gb 110 #[.int .i64 19, .int .i64 0, .int .i64 t.size, .string v] (0, 0) _ rfl (by refine blk_put (cs := #[.int .i64 19, .int .i64 0, .int .i64 t.size, .string ⟨#[]⟩]) ?_ 3 _ rfl; refine blk_put (cs := #[.int .i64 19, .int .i64 0, .int .i64 0, .string ⟨#[]⟩]) ?_ 2 _ rfl; refine blk_put (cs := #[.int .i64 19, .int .i64 0, .int .i64 0, .string ⟨#[]⟩]) ?_ 1 _ rfl; refine blk_put (cs := #[.int .i64 0, .int .i64 0, .int .i64 0, .string ⟨#[]⟩]) ?_ 0 _ rfl; refine blk_far ?_ NE.out _; refine blk_far ?_ NE.out _; refine blk_far ?_ NE.out _; refine blk_far ?_ NE.out _; exact BK.out) Tryz.underlying110 rfl (by kernel_rfl)) rfl ?_
    exact ⟨rfl, (below_set (below_set (below_set (below_set (below_set (below_set (below_set (below_set HB.out GT.out) GT.out) GT.out) GT.out) GE.out) GE.out) GE.out) GE.out)⟩
end Go.Proofs.YtfblohdfmaankaaGreatDoor.PFnTextWritten
namespace Go.Proofs.YtfblohdfmaankaaGreatDoor.PFnTextWritten
open Go.RowKit Go.Proofs.YtfblohdfmaankaaGreatDoorW.PrintWords Go.Proofs.YtfblohdfmaankaaGreatDoorW.PrintLast Go.Proofs.YtfblohdfmaankaaGreatDoorW.PrintMore
set_option linter.unusedVariables false
set_option linter.unusedSimpArgs false
theorem keep_setf {w w1 : World} {g g' j : Nat} {u : Value} (h : KeepBut w w1 g none) (hg : w.heap.size ≤ g') : KeepBut w (w1.setCell ⟨g', j, none⟩ u) g none :=
  ⟨Nat.le_trans h.1 (Below.refl 0 w1 |>.setCell (p := ⟨g', j, none⟩) (Nat.zero_le _) u).size, fun i hi hne hr => (Below.heap_setCell _ _ _ _ (show i ≠ g' from by omega)).trans (h.2 i hi hne hr)⟩
/-- The function that Lex makes: over a place and a source. -/
def lexf (c s : Nat) : Value := .func (.func 61) #[] #[.pointer (some ⟨c, 0, none⟩), .pointer (some ⟨s, 0, none⟩)]
set_option maxHeartbeats 4000000 in
set_option maxRecDepth 100000 in
theorem lex_walk {w : World} (g : Nat) :
    Calls Tryz.prog 41 #[.pointer (some ⟨g, 0, none⟩)] w fun e w' => (∃ c s : Nat, e = .returned (lexf c s) ∧ c ≠ s ∧ w.heap.size ≤ c ∧ w.heap.size ≤ s ∧ w'.heap[c]? = some (.cells #[.int .i64 0] 3 (0, 0)) ∧ w'.heap[s]? = some (.cells #[.pointer (some ⟨g, 0, none⟩)] 55 (0, 0))) ∧ Below w.heap.size w w' := by
  go_enter Tryz.func41, Tryz.ntmps41
  go_wp2
  go_ret
  refine ⟨⟨w.heap.size + 1, w.heap.size, rfl, by omega, by omega, by omega, ?_, ?_⟩, below_alloc (below_alloc (Below.refl _ _) _) _⟩
  · have h := heap_alloc_new (w.alloc (.cells #[.pointer (some ⟨g, 0, none⟩)] 55)) (.cells #[.int .i64 0] 3 (0, 0))
    rw [World.size_alloc] at h
    exact h
  · exact blk_below (heap_alloc_new w _) (below_alloc (Below.refl _ _) _)
set_option maxHeartbeats 16000000 in
set_option maxRecDepth 100000 in
theorem lexfn_walk {w : World} {gc gs g B : Nat} {pv r pos k a z : Int} {v : ByteArray} (hBc : B ≤ gc) (hBw : B ≤ w.heap.size) (h1 : w.heap[gc]? = some (.cells #[.int .i64 pv] 3 (0, 0))) (h2 : w.heap[gs]? = some (.cells #[.pointer (some ⟨g, 0, none⟩)] 55 (0, 0))) (hne : gc ≠ gs)
    (hr : ((r == 0) = true ∧ pv = pos) ∨ ((r == 0) = false ∧ r = pos))
    (hC : ∀ W, Below w.heap.size w W → Calls Tryz.prog 62 #[.pointer (some ⟨g, 0, none⟩), .int .i64 pos] W fun e W' => e = .returned (.tuple #[.agg #[.int .i64 k, .int .i64 a, .int .i64 z, .string v], .nilIface]) ∧ Below W.heap.size W W') :
    Calls Tryz.prog 61 #[.int .i64 r, .pointer (some ⟨gc, 0, none⟩), .pointer (some ⟨gs, 0, none⟩)] w fun e w' => e = .returned (.tuple #[.agg #[.int .i64 k, .int .i64 a, .int .i64 z, .string v], .nilIface]) ∧ w'.heap[gc]? = some (.cells #[.int .i64 z] 3 (0, 0)) ∧ Below B w w' ∧ KeepBut w w' gc none := by
  have HC := Aside0.mk hC
  have BC := Aside0.mk h1
  have BS := Aside0.mk h2
  have HL := Aside0.mk (And.intro hBc hBw)
  have HB := Aside0.mk (Below.refl w.heap.size w)
  have gcl := Aside0.mk (blk_lt h1)
  have gsl := Aside0.mk (blk_lt h2)
  clear hC h1 h2 hBc hBw
  rcases hr with ⟨q0, hp⟩ | ⟨q0, hp⟩ <;> rw [← hp] at HC <;> clear hp
  all_goals
    go_enter Tryz.func61, Tryz.ntmps61
    go_wp2_with (first
      | ((with_reducible refine gate_dst (N := 4) rfl ?_); refine box_event ?hg (N := 4) ?hd (cs := #[.int .i64 0, .int .i64 0, .int .i64 0, .string ⟨#[]⟩]) (t := 110) ?hr ?_; (case hd => rfl); (case hg => rfl); (case hr => first | (go_simp; done) | (go_simp; rfl)); intro gb hg w2 hbox hb; have n0_ := Aside0.mk (below_step HB.out hb); have GE := Aside0.mk ((by rw [hg]; exact below_size HB.out : w.heap.size ≤ gb)); have n1_ := Aside0.mk (blk_below BC.out hb); have n2_ := Aside0.mk (blk_below BS.out hb); clear HB BC BS; have HB := n0_; have BC := n1_; have BS := n2_; have BK := Aside0.mk hbox; clear n0_ n1_ n2_ hb hbox hg; have hc0 : w2.cell? ⟨gc, 0, none⟩ = some (.int .i64 pv) := (blk_cell BC.out 0).trans rfl; have hs0 : w2.cell? ⟨gs, 0, none⟩ = some (.pointer (some ⟨g, 0, none⟩)) := (blk_cell BS.out 0).trans rfl)
      | (go_at_call 62; (with_reducible refine (HC.out _ HB.out).mono ?_); rintro e w3 ⟨rfl, hB⟩; have n0_ := Aside0.mk (below_step HB.out hB); have n1_ := Aside0.mk (blk_below BC.out hB); have n2_ := Aside0.mk (blk_below BK.out hB); clear HB BC BK hB; have HB := n0_; have BC := n1_; have BK := n2_; clear n0_ n1_ n2_)
      | ((with_reducible refine gate_dst (N := 6) rfl ?_); refine box_event ?hg (N := 6) ?hd (cs := #[.int .i64 0, .int .i64 0, .int .i64 0, .string ⟨#[]⟩]) (t := 110) ?hr ?_; (case hd => rfl); (case hg => rfl); (case hr => first | (go_simp; done) | (go_simp; rfl)); intro gt hg w4 hbox hb; have n0_ := Aside0.mk (below_step HB.out hb); have GT := Aside0.mk ((by rw [hg]; exact below_size HB.out : w.heap.size ≤ gt)); have NE := Aside0.mk ((by rw [hg]; exact Nat.ne_of_lt (blk_lt BK.out)) : gb ≠ gt); have n1_ := Aside0.mk (blk_below BC.out hb); have n2_ := Aside0.mk (blk_below BK.out hb); clear HB BC BK; have HB := n0_; have BC := n1_; have BK := n2_; have BT := Aside0.mk hbox; clear n0_ n1_ n2_ hb hbox hg; have hne1 := NE.out; have hne2 : gt ≠ gb := fun e => NE.out e.symm; have NT := Aside0.mk (show gc ≠ gt by have h1 := gcl.out; have h2 := GT.out; omega); have NC := Aside0.mk (show gb ≠ gc by have h1 := gcl.out; have h2 := GE.out; omega); have hne3 := NT.out; have hne4 : gt ≠ gc := fun e => NT.out e.symm; have hne5 := NC.out; have hne6 : gc ≠ gb := fun e => NC.out e.symm; have c0 : w4.cell? ⟨gc, 0, none⟩ = some (.int .i64 pv) := (blk_cell BC.out 0).trans rfl; have cf := blk_frozen BC.out 0; have hz0 : w4.cell? ⟨gb, 0, none⟩ = some (.int .i64 0) := (blk_cell BK.out 0).trans rfl; have hz1 : w4.cell? ⟨gb, 1, none⟩ = some (.int .i64 0) := (blk_cell BK.out 1).trans rfl; have hz2 : w4.cell? ⟨gb, 2, none⟩ = some (.int .i64 0) := (blk_cell BK.out 2).trans rfl; have hz3 : w4.cell? ⟨gb, 3, none⟩ = some (.string ⟨#[]⟩) := (blk_cell BK.out 3).trans rfl; have hf0 := blk_frozen BK.out 0; have hf1 := blk_frozen BK.out 1; have hf2 := blk_frozen BK.out 2; have hf3 := blk_frozen BK.out 3; have tz0 : w4.cell? ⟨gt, 0, none⟩ = some (.int .i64 0) := (blk_cell BT.out 0).trans rfl; have tz1 : w4.cell? ⟨gt, 1, none⟩ = some (.int .i64 0) := (blk_cell BT.out 1).trans rfl; have tz2 : w4.cell? ⟨gt, 2, none⟩ = some (.int .i64 0) := (blk_cell BT.out 2).trans rfl; have tz3 : w4.cell? ⟨gt, 3, none⟩ = some (.string ⟨#[]⟩) := (blk_cell BT.out 3).trans rfl; have tf0 := blk_frozen BT.out 0; have tf1 := blk_frozen BT.out 1; have tf2 := blk_frozen BT.out 2; have tf3 := blk_frozen BT.out 3))
    refine bodyPost_ret (results_ct rfl _ _ gb 110 #[.int .i64 k, .int .i64 a, .int .i64 z, .string v] (0, 0) _ rfl (by refine blk_put (cs := #[.int .i64 k, .int .i64 a, .int .i64 z, .string ⟨#[]⟩]) ?_ 3 _ rfl; refine blk_put (cs := #[.int .i64 k, .int .i64 a, .int .i64 0, .string ⟨#[]⟩]) ?_ 2 _ rfl; refine blk_put (cs := #[.int .i64 k, .int .i64 0, .int .i64 0, .string ⟨#[]⟩]) ?_ 1 _ rfl; refine blk_put (cs := #[.int .i64 0, .int .i64 0, .int .i64 0, .string ⟨#[]⟩]) ?_ 0 _ rfl; refine blk_far ?_ NC.out _; refine blk_far ?_ NE.out _; refine blk_far ?_ NE.out _; refine blk_far ?_ NE.out _; refine blk_far ?_ NE.out _; exact BK.out) Tryz.underlying110 rfl (by kernel_rfl)) rfl ?_
    refine ⟨rfl, ?_, ?_, ?_⟩
    · refine blk_far ?_ (Ne.symm NC.out) _; refine blk_far ?_ (Ne.symm NC.out) _; refine blk_far ?_ (Ne.symm NC.out) _; refine blk_far ?_ (Ne.symm NC.out) _; refine blk_put (cs := #[.int .i64 pv]) ?_ 0 _ rfl; refine blk_far ?_ NT.out _; refine blk_far ?_ NT.out _; refine blk_far ?_ NT.out _; refine blk_far ?_ NT.out _; exact BC.out
    · have h := HB.out.mono HL.out.2
      have hgb := Nat.le_trans HL.out.2 GE.out
      have hgt := Nat.le_trans HL.out.2 GT.out
      exact ((((((((h.setCell (p := ⟨gt, _, none⟩) hgt _).setCell (p := ⟨gt, _, none⟩) hgt _).setCell (p := ⟨gt, _, none⟩) hgt _).setCell (p := ⟨gt, _, none⟩) hgt _).setCell (p := ⟨gc, _, none⟩) HL.out.1 _).setCell (p := ⟨gb, _, none⟩) hgb _).setCell (p := ⟨gb, _, none⟩) hgb _).setCell (p := ⟨gb, _, none⟩) hgb _).setCell (p := ⟨gb, _, none⟩) hgb _
    · exact keep_setf (keep_setf (keep_setf (keep_setf (KeepBut.set_ (keep_setf (keep_setf (keep_setf (keep_setf (KeepBut.of_below HB.out gc none) GT.out) GT.out) GT.out) GT.out) 0 _) GE.out) GE.out) GE.out) GE.out
/-- A parser at its first token: its struct, the function that it reads tokens by, that function's cells. -/
def Psr (w : World) (B gp gc gs g : Nat) (pe z : Int) (k a y : Int) (v : ByteArray) : Prop := (w.heap[gp]? = some (.cells #[lexf gc gs, .pointer (some ⟨g, 0, none⟩), .bool false, .bool false, .int .i64 pe, .int .i64 k, .int .i64 a, .int .i64 y, .string v] 113 (0, 0)) ∧ w.heap[gc]? = some (.cells #[.int .i64 z] 3 (0, 0)) ∧ w.heap[gs]? = some (.cells #[.pointer (some ⟨g, 0, none⟩)] 55 (0, 0))) ∧ (B ≤ gp ∧ B ≤ gc ∧ B ≤ gs) ∧ gc ≠ gs ∧ gp ≠ gc ∧ gp ≠ gs
set_option maxHeartbeats 16000000 in
set_option maxRecDepth 100000 in
theorem makeParser_walk {w : World} {g : Nat} {k a z : Int} {v : ByteArray}
    (hC : ∀ W, Below w.heap.size w W → Calls Tryz.prog 62 #[.pointer (some ⟨g, 0, none⟩), .int .i64 0] W fun e W' => e = .returned (.tuple #[.agg #[.int .i64 k, .int .i64 a, .int .i64 z, .string v], .nilIface]) ∧ Below W.heap.size W W') :
    Calls Tryz.prog 20 #[.pointer (some ⟨g, 0, none⟩), .agg #[.bool false, .bool false]] w fun e w' => (∃ gp gc gs : Nat, e = .returned (.tuple #[.pointer (some ⟨gp, 0, none⟩), .nilIface]) ∧ Psr w' w.heap.size gp gc gs g 0 z k a z v) ∧ Below w.heap.size w w' := by
  have HC := Aside0.mk hC
  have HB := Aside0.mk (Below.refl w.heap.size w)
  clear hC
  go_enter Tryz.func20, Tryz.ntmps20
  go_wp2_with (first
    | ((with_reducible refine gate_dst (N := 3) rfl ?_); refine box_event ?hg (N := 3) ?hd (cs := #[.bool false, .bool false]) (t := 41) ?hr ?_; (case hd => rfl); (case hg => rfl); (case hr => first | (go_simp; done) | (go_simp; rfl)); intro go hg w2 hbox hb; have n0_ := Aside0.mk (below_step HB.out hb); clear HB; have HB := n0_; have BO := Aside0.mk hbox; clear n0_ hb hbox hg)
    | (go_at_call 41; (with_reducible refine (lex_walk _).mono ?_); rintro e w3 ⟨⟨gc, gs, rfl, n1, n2, n3, n4, n5⟩, hB⟩; unfold lexf; have BC := Aside0.mk n4; have BS := Aside0.mk n5; have NN := Aside0.mk n1; have LC := Aside0.mk (Nat.le_trans (below_size HB.out) n2); have LS := Aside0.mk (Nat.le_trans (below_size HB.out) n3); have n0_ := Aside0.mk (below_step HB.out hB); have n1_ := Aside0.mk (blk_below BO.out hB); have n2_ := Aside0.mk (show go ≠ gc from Nat.ne_of_lt (Nat.lt_of_lt_of_le (blk_lt BO.out) n2)); clear HB BO hB n1 n2 n3 n4 n5; have HB := n0_; have BO := n1_; have OC := n2_; clear n0_ n1_ n2_)
    | (go_at_call 61; (with_reducible refine (lexfn_walk (B := w.heap.size) LC.out (below_size HB.out) BC.out BS.out NN.out (.inl ⟨rfl, rfl⟩) (fun W hW => HC.out W (below_step HB.out hW))).mono ?_); rintro e w4 ⟨rfl, h1, h2, h3⟩; have n0_ := Aside0.mk (HB.out.trans h2); have n1_ := Aside0.mk (h3.blk BO.out OC.out (by simp)); have n2_ := Aside0.mk h1; have n3_ := Aside0.mk (h3.blk BS.out (Ne.symm NN.out) (by simp)); clear HB BO BC BS h1 h2 h3; have HB := n0_; have BO := n1_; have BC := n2_; have BS := n3_; clear n0_ n1_ n2_ n3_; have o0 : w4.cell? ⟨go, 0, none⟩ = some (.bool false) := (blk_cell BO.out 0).trans rfl; have o1 : w4.cell? ⟨go, 1, none⟩ = some (.bool false) := (blk_cell BO.out 1).trans rfl)
    | ((with_reducible refine gate_dst (N := 7) rfl ?_); refine box_event ?hg (N := 7) ?hd (cs := #[.int .i64 0, .int .i64 0, .int .i64 0, .string ⟨#[]⟩]) (t := 110) ?hr ?_; (case hd => rfl); (case hg => rfl); (case hr => first | (go_simp; done) | (go_simp; rfl)); intro gt hg w5 hbox hb; have n0_ := Aside0.mk (below_step HB.out hb); have GT := Aside0.mk ((by rw [hg]; exact below_size HB.out : w.heap.size ≤ gt)); have n1_ := Aside0.mk (blk_below BC.out hb); have n2_ := Aside0.mk (blk_below BO.out hb); have n3_ := Aside0.mk (blk_below BS.out hb); have TC := Aside0.mk (show gc ≠ gt from by rw [hg]; exact Nat.ne_of_lt (blk_lt BC.out)); have TS := Aside0.mk (show gs ≠ gt from by rw [hg]; exact Nat.ne_of_lt (blk_lt BS.out)); have TO := Aside0.mk (show go ≠ gt from by rw [hg]; exact Nat.ne_of_lt (blk_lt BO.out)); clear HB BC BO BS; have HB := n0_; have BC := n1_; have BO := n2_; have BS := n3_; have BT := Aside0.mk hbox; clear n0_ n1_ n2_ n3_ hb hbox hg; have hne1 := TO.out; have hne2 : gt ≠ go := fun e => TO.out e.symm; have o0 : w5.cell? ⟨go, 0, none⟩ = some (.bool false) := (blk_cell BO.out 0).trans rfl; have o1 : w5.cell? ⟨go, 1, none⟩ = some (.bool false) := (blk_cell BO.out 1).trans rfl; have tz0 : w5.cell? ⟨gt, 0, none⟩ = some (.int .i64 0) := (blk_cell BT.out 0).trans rfl; have tz1 : w5.cell? ⟨gt, 1, none⟩ = some (.int .i64 0) := (blk_cell BT.out 1).trans rfl; have tz2 : w5.cell? ⟨gt, 2, none⟩ = some (.int .i64 0) := (blk_cell BT.out 2).trans rfl; have tz3 : w5.cell? ⟨gt, 3, none⟩ = some (.string ⟨#[]⟩) := (blk_cell BT.out 3).trans rfl; have tf0 := blk_frozen BT.out 0; have tf1 := blk_frozen BT.out 1; have tf2 := blk_frozen BT.out 2; have tf3 := blk_frozen BT.out 3)
    | ((with_reducible refine gate_dst (N := 26) rfl ?_); refine box_event ?hg (N := 26) ?hd (cs := #[lexf gc gs, .pointer (some ⟨g, 0, none⟩), .bool false, .bool false, .int .i64 0, .int .i64 k, .int .i64 a, .int .i64 z, .string v]) (t := 113) ?hr ?_; (case hd => rfl); (case hg => rfl); (case hr => first | (go_simp; done) | (go_simp; rfl)); intro gp hg w6 hbox hb; have HQ := Aside0.mk hb; have BP := Aside0.mk hbox; have GP := Aside0.mk hg; clear hb hbox hg))
  have bc := blk_below (blk_far (p := ⟨gt, 3, none⟩) (blk_far (p := ⟨gt, 2, none⟩) (blk_far (p := ⟨gt, 1, none⟩) (blk_far (p := ⟨gt, 0, none⟩) BC.out TC.out (.int .i64 k)) TC.out (.int .i64 a)) TC.out (.int .i64 z)) TC.out (.string v)) HQ.out
  have bs := blk_below (blk_far (p := ⟨gt, 3, none⟩) (blk_far (p := ⟨gt, 2, none⟩) (blk_far (p := ⟨gt, 1, none⟩) (blk_far (p := ⟨gt, 0, none⟩) BS.out TS.out (.int .i64 k)) TS.out (.int .i64 a)) TS.out (.int .i64 z)) TS.out (.string v)) HQ.out
  have hb := below_set (j := 3) (v := .string v) (below_set (j := 2) (v := .int .i64 z) (below_set (j := 1) (v := .int .i64 a) (below_set (j := 0) (v := .int .i64 k) HB.out GT.out) GT.out) GT.out) GT.out
  have hp : w.heap.size ≤ gp := by rw [GP.out]; exact below_size hb
  have e1 : gp ≠ gc := fun e => by
    have h1 := blk_lt (blk_far (p := ⟨gt, 3, none⟩) (blk_far (p := ⟨gt, 2, none⟩) (blk_far (p := ⟨gt, 1, none⟩) (blk_far (p := ⟨gt, 0, none⟩) BC.out TC.out (.int .i64 k)) TC.out (.int .i64 a)) TC.out (.int .i64 z)) TC.out (.string v))
    rw [← GP.out, ← e] at h1; exact Nat.lt_irrefl _ h1
  have e2 : gp ≠ gs := fun e => by
    have h1 := blk_lt (blk_far (p := ⟨gt, 3, none⟩) (blk_far (p := ⟨gt, 2, none⟩) (blk_far (p := ⟨gt, 1, none⟩) (blk_far (p := ⟨gt, 0, none⟩) BS.out TS.out (.int .i64 k)) TS.out (.int .i64 a)) TS.out (.int .i64 z)) TS.out (.string v))
    rw [← GP.out, ← e] at h1; exact Nat.lt_irrefl _ h1
  go_ret2
  exact ⟨⟨gp, gc, gs, rfl, ⟨BP.out, bc, bs⟩, ⟨hp, LC.out, LS.out⟩, NN.out, e1, e2⟩, below_step hb HQ.out⟩
end Go.Proofs.YtfblohdfmaankaaGreatDoor.PFnTextWritten
