/- A part of the proof of the theorem of this claim: Lxn, Lxh, Lxc, Lxs. No condition of its own. -/
import Derived.Laws.Cover4
import Derived.Test.YthgcghpcikbnkaaGreatDoorA13
import Derived.Test.YthgcghpcikbnkaaGreatDoorA7
set_option maxHeartbeats 16000000
set_option maxRecDepth 100000
namespace Go.Proofs.YthgcghpcikbnkaaGreatDoor.R
open Go.RowKit Go.Proofs.YthgcghpcikbnkaaGreatDoorW.PrintWords Go.Proofs.YthgcghpcikbnkaaGreatDoorW.PrintLast Go.Proofs.YthgcghpcikbnkaaGreatDoorW.PrintMore
set_option linter.unusedVariables false
set_option linter.unusedSimpArgs false
def TR (BV : List UInt8 → ByteArray → Prop) (s : ByteArray) (t t' : LS) : Prop :=
 (t.un = true → t'.un = true) ∧ t.a ≤ t'.a ∧ (t'.bad = true ∨ t.a < t'.a) ∧
 (t'.un = true ∨ (t'.bad = true ∧ t'.out = t.out ∧ TokBad s t.a) ∨ (t'.bad = false ∧ ∃ k, Tok BV s t.a k t'.a ∧ t'.out = t.out ++ [k]))
def LP (BV : List UInt8 → ByteArray → Prop) (C : LC) (t : LS) (w : World) (e : Ending) (w' : World) : Prop := e = .returned (.tuple #[]) ∧ ∃ t', LX C w' t' ∧ Below C.B w w' ∧ TR BV C.s t t'
theorem bel_le {B B' : Nat} {w w' : World} (h : Below B w w') (hb : B' ≤ B) : Below B' w w' := ⟨h.os, h.tape, h.output, h.size, fun k hk => h.block k (Nat.lt_of_lt_of_le hk hb)⟩
theorem LX.c {C : LC} {w : World} {t : LS} (h : LX C w t) : w.cell? ⟨C.gx, 0, none⟩ = some (.string C.s) ∧ w.cell? ⟨C.gx, 1, none⟩ = some (.int .i64 t.a) ∧ w.cell? ⟨C.gx, 3, none⟩ = some (.bool t.bad) ∧ w.cell? ⟨C.gx, 4, none⟩ = some (.bool t.un) := by
 obtain ⟨A, cp, hc, _⟩ := h.cell
 exact ⟨(blk_cell hc 0).trans rfl, (blk_cell hc 1).trans rfl, (blk_cell hc 3).trans rfl, (blk_cell hc 4).trans rfl⟩
theorem LX.fz {C : LC} {w : World} {t : LS} (h : LX C w t) (j : Nat) : w.frozen? ⟨C.gx, j, none⟩ = false := by
 obtain ⟨A, cp, hc, _⟩ := h.cell
 exact blk_frozen hc j
theorem LX.un {C : LC} {w : World} {t : LS} (h : LX C w t) (b : Bool) : LX C (w.setCell ⟨C.gx, 4, none⟩ (.bool b)) ⟨t.a, t.out, t.bad, b⟩ ∧ Below C.B w (w.setCell ⟨C.gx, 4, none⟩ (.bool b)) := by
 obtain ⟨A, cp, hc, ho⟩ := h.cell
 exact ⟨⟨⟨A, cp, blk_put (cs := #[.string C.s, .int .i64 t.a, .slice A t.out.length cp, .bool t.bad, .bool t.un]) hc 4 _ rfl, own_typ ho (fun g cs x => blk_far (p := ⟨C.gx, 4, none⟩) x (blk_ne x hc (by decide)) _)⟩, h.le, h.sz, h.ol, h.lo⟩, (Below.refl _ _).setCell (p := ⟨C.gx, 4, none⟩) h.lo _⟩
theorem num_on {s : ByteArray} {a q : Nat} (ha : a < s.size) (hq : a < q) (hd : bt s a = 45 ∨ isD (bt s a) = true) : s.extract a q ≠ bOn := by
 intro e
 have h0 := congrArg (fun x : ByteArray => x.data.toList[0]?) e
 have h1 : (s.extract a q).data.toList[0]? = some (s[a]'ha) := by
  rw [ByteArray.data_extract, Array.toList_extract, List.extract_eq_take_drop]
  rw [List.getElem?_take_of_lt (by omega), List.getElem?_drop, Nat.add_zero]
  exact List.getElem?_eq_getElem (by simpa using ha)
 have h2 : (some (s[a]'ha) : Option UInt8) = some 111 := h1.symm.trans h0
 injection h2 with h2
 have h3 := bt_nat s a ha
 rw [h2] at h3
 have h4 : bt s a = 111 := h3.symm
 rw [h4] at hd
 rcases hd with hd | hd
 ·cases hd
 ·cases hd
theorem number_walk {BV : List UInt8 → ByteArray → Prop} {C : LC} {w : World} {t : LS} (h : LX C w t) (hb : t.bad = false) (ha : t.a < C.s.size) (hd : bt C.s t.a = 45 ∨ isD (bt C.s t.a) = true) : Calls Tryz.prog 72 #[ptr C.gx] w (LP BV C t w) := by
 have hxa : nx C.s t.a = bt C.s t.a := by unfold nx; rw [if_pos ha]
 have N0 := mkA (numeral_q h t.a ha (by rw [hxa]; exact hd))
 have HP := mkA h
 have HD := mkA hd
 have HA := mkA ha
 have HB := mkA hb
 have c1 := h.c.2.1
 have SZ := mkA h.sz
 cases hn : numAt C.s t.a with
 | none =>
   have HN := mkA hn
   clear h hb ha hd hxa hn
   go_enter Tryz.func72, Tryz.ntmps72
   go_wp2_with (first
    | (go_at_call 92; (with_reducible refine N0.out.mono ?_); rintro e w_ ⟨K_, z_, rfl, hw_, hr_⟩; rw [HN.out] at hr_; subst w_; obtain ⟨rfl, rfl⟩ : K_ = 0 ∧ z_ = 0 := (by rcases hr_ with ⟨_, r1, r2⟩ | ⟨q, r1, _⟩; exact ⟨r1, r2⟩; cases r1); clear hr_)
    | (go_at_call 75; (with_reducible refine (lfail_walk HP.out).mono ?_); rintro e w_ ⟨rfl, hP, hF⟩; have HP2 := mkA hP; have HF2 := mkA hF; clear hP hF))
   go_end0
   exact ⟨rfl, _, HP2.out, HF2.out, fun x => x, Nat.le_refl _, .inl rfl, .inr (.inl ⟨rfl, rfl, .numb HA.out HD.out HN.out⟩)⟩
 | some kq =>
   obtain ⟨k, q⟩ := kq
   have HN := mkA hn
   have HK := mkA (num_le _ _ _ _ hn)
   have HG := mkA (num_gt _ _ _ _ hn)
   have hk0 : k ≠ 0 := by rcases HK.out.1 with h | h <;> omega
   have p0 := show (k == 0) = false from beq_eq_false_iff_ne.mpr hk0
   have N1 := mkA (next_q h q)
   obtain ⟨c, hc⟩ : ∃ c, c = nx C.s q := ⟨_, rfl⟩
   rw [← hc] at N1
   have NI := mkA (isBegin_q c w)
   obtain ⟨b, hbb⟩ : ∃ b, b = isB c := ⟨_, rfl⟩
   rw [← hbb] at NI
   have f4 := h.fz 4
   have c4 := h.c.2.2.2
   have c0 := h.c.1
   clear h hb ha hd hxa hn hc hbb hk0
   by_cases hz : (c == 46) = true ∨ b = true
   ·have hz2 : (c == 46) = true ∨ ((c == 46) = false ∧ b = true) := by
     cases h1 : (c == 46)
     ·rw [h1] at hz
      exact .inr ⟨rfl, by simpa using hz⟩
     ·exact .inl rfl
    clear hz
    rcases hz2 with p1 | ⟨p1, rfl⟩
    all_goals
     go_enter Tryz.func72, Tryz.ntmps72
     go_wp2_with (first
      | (go_at_call 92; (with_reducible refine N0.out.mono ?_); rintro e w_ ⟨K_, z_, rfl, hw_, hr_⟩; rw [HN.out] at hr_; subst w_; obtain ⟨rfl, rfl⟩ : K_ = k ∧ z_ = (q : Int) := (by rcases hr_ with ⟨r1, _, _⟩ | ⟨q', r1, r2⟩; cases r1; cases r1; exact ⟨rfl, r2⟩); clear hr_)
      | (go_at_call 70; (with_reducible refine N1.out.mono ?_); rintro e w_ ⟨rfl, hw_⟩; subst w_)
      | (go_at_call 69; (with_reducible refine NI.out.mono ?_); rintro e w_ ⟨rfl, hw_⟩; subst w_)
      | (go_at_call 75; (with_reducible refine (lfail_walk (HP.out.un true).1).mono ?_); rintro e w_ ⟨rfl, hP, hF⟩; have HP2 := mkA hP; have HF2 := mkA ((HP.out.un true).2.trans hF); clear hP hF))
     go_end0
     exact ⟨rfl, _, HP2.out, HF2.out, fun _ => rfl, Nat.le_refl _, .inl rfl, .inl rfl⟩
   ·have p1 : (c == 46) = false := by
     cases h1 : (c == 46)
     ·rfl
     ·exact absurd (.inl h1) hz
    have p2 : b = false := by
     cases b
     ·rfl
     ·exact absurd (.inr rfl) hz
    subst b
    clear hz
    have LO := mkA (show C.B ≤ w.heap.size from Nat.le_trans HP.out.lo (by obtain ⟨A, cp, hc, _⟩ := HP.out.cell; exact Nat.le_of_lt (blk_lt hc)))
    have CP := mkA (fun (u : World) (hu : Below w.heap.size w u) => (add_walk (HP.out.below hu) k q (C.s.extract t.a q) HG.out HK.out.2 ⟨(by have := HK.out.1; show k ≠ 1; omega), fun e => absurd e (num_on HA.out HG.out HD.out)⟩).mono (fun e w' q_ => (show e = .returned (.tuple #[]) ∧ LX C w' ⟨q, t.out ++ [⟨k, t.a, q, C.s.extract t.a q⟩], t.bad, t.un⟩ ∧ Below C.B w w' from ⟨q_.1, q_.2.1, (bel_le hu LO.out).trans q_.2.2⟩)))
    have s1 : ((t.a : Int) ≤ (q : Int)) = True := eq_true (by have := HG.out; omega)
    have s2 : ((q : Int) ≤ (C.s.size : Int)) = True := eq_true (by have := HK.out.2; omega)
    have s3 : (t.a ≤ q) = True := eq_true (Nat.le_of_lt HG.out)
    have s4 : (q ≤ C.s.size) = True := eq_true HK.out.2
    go_enter Tryz.func72, Tryz.ntmps72
    go_upto_region 7 with (first
     | (go_at_call 92; (with_reducible refine N0.out.mono ?_); rintro e w_ ⟨K_, z_, rfl, hw_, hr_⟩; rw [HN.out] at hr_; subst w_; obtain ⟨rfl, rfl⟩ : K_ = k ∧ z_ = (q : Int) := (by rcases hr_ with ⟨r1, _, _⟩ | ⟨q', r1, r2⟩; cases r1; cases r1; exact ⟨rfl, r2⟩); clear hr_)
     | (go_at_call 70; (with_reducible refine N1.out.mono ?_); rintro e w_ ⟨rfl, hw_⟩; subst w_)
     | (go_at_call 69; (with_reducible refine NI.out.mono ?_); rintro e w_ ⟨rfl, hw_⟩; subst w_))
    go_still_tail 13, (by kernel_rfl)
    go_wp2_with (first
     | (go_at_call 67; refine (CP.out _ ?_).mono ?_; (first | exact Below.refl _ _ | exact below_drew1 (Below.refl _ _)); rintro e w5 ⟨rfl, q1, q2⟩; have Q1 := mkA q1; have Q2 := mkA q2; clear q1 q2))
    go_end0
    exact ⟨rfl, _, Q1.out, Q2.out, fun x => x, Nat.le_of_lt HG.out, .inr HG.out, .inr (.inr ⟨HB.out, _, .numb HA.out HD.out HN.out, rfl⟩)⟩
def hxv (c : Int) : Int := if Dg c then hx c else -1
theorem hxv_of {c v : Int} (h1 : Dg c → v = hx c) (h2 : ¬ Dg c → v = -1) : v = hxv c := by
 unfold hxv
 split
 ·exact h1 ‹_›
 ·exact h2 ‹_›
theorem hex_q (c : Int) (h0 : 0 ≤ c) (h9 : c < 256) (w : World) : Calls Tryz.prog 125 #[.int .u8 c] w (Qv (.int .i64 (hxv c)) w) := by
 have w1 : wrap64 (c - 48) = c - 48 := w64 (by omega) (by omega)
 have w2 : wrap64 (c - 97) = c - 97 := w64 (by omega) (by omega)
 have w3 : wrap64 (c - 65) = c - 65 := w64 (by omega) (by omega)
 have w4 : wrap64 (c - 97 + 10) = c - 97 + 10 := w64 (by omega) (by omega)
 have w5 : wrap64 (c - 65 + 10) = c - 65 + 10 := w64 (by omega) (by omega)
 go_enter Tryz.func125, Tryz.ntmps125
 go_wp2
 all_goals go_ret
 all_goals
  refine ret_eq (congrArg (Value.int .i64) ?_)
  refine hxv_of (fun hd => ?_) (fun hd => ?_)
  all_goals (unfold Dg at hd)
  all_goals first
   | omega
   | (unfold hx; (repeat' split) <;> omega)
theorem enc_conv (c : Int) (u : World) (g : Nat) (h : u.cell? ⟨g, 0, none⟩ = some (.int .i32 c)) : (convert 256 9 (.slice (some ⟨g, 0, none⟩) 1 1)).run Tryz.prog u = .ok (.string (runesBytes [c])) u := by
 refine run_convert_runes u 256 9 21 _ 1 1 [c] (Nat.le_refl 1) Tryz.underlying256 Tryz.underlying21 Tryz.underlying9 ?_
 intro j hj
 have e : j = 0 := by simpa using hj
 subst e
 exact h
theorem enc_walk (c : Int) (h0 : 0 ≤ c) (h9 : c < 65536) (w : World) : Calls Tryz.prog 126 #[.int .i64 c] w (fun e w' => e = .returned (.string (runesBytes [c])) ∧ Below w.heap.size w w') := by
 have w1 : wrap32 c = c := by unfold wrap32; omega
 have hcv := fun (u : World) (g : Nat) (h : u.cell? ⟨g, 0, none⟩ = some (.int .i32 c)) => enc_conv c u g h
 go_enter Tryz.func126, Tryz.ntmps126
 go_wp2
 go_ret
 exact ⟨rfl, below_alloc (Below.refl _ _) _⟩
def esI (c : Int) : Option UInt8 := if c = 34 then some 34 else if c = 92 then some 92 else if c = 47 then some 47 else if c = 98 then some 8 else if c = 102 then some 12 else if c = 110 then some 10 else if c = 114 then some 13 else if c = 116 then some 9 else none
def hn (s : ByteArray) (i : Nat) : Nat → Int
 | 0 => 0
 | k + 1 => 16 * hn s i k + hxv (nx s (i + k))
def frB : List Int := [34, 92, 47, 98, 102, 110, 114, 116]
def ErR (s : ByteArray) (i : Nat) (v : ByteArray) (n : Int) (un : Bool) : Prop :=
 (n = 0 ∧ (un = true ∨ (esI (nx s (i + 1)) = none ∧ (nx s (i + 1) ≠ 117 ∨ ∃ k, k < 4 ∧ (∀ j, j < k → 0 ≤ hxv (nx s (i + 2 + j))) ∧ hxv (nx s (i + 2 + k)) < 0)))) ∨
 (n = 2 ∧ ∃ b, esI (nx s (i + 1)) = some b ∧ v = ⟨#[b]⟩) ∨
 (n = 6 ∧ nx s (i + 1) = 117 ∧ (∀ j, j < 4 → 0 ≤ hxv (nx s (i + 2 + j))) ∧ v = runesBytes [hn s (i + 2) 4] ∧ (hn s (i + 2) 4 < 55296 ∨ 57344 ≤ hn s (i + 2) 4))
def ErP (C : LC) (t : LS) (i : Nat) (w : World) (e : Ending) (w' : World) : Prop := ∃ (v : ByteArray) (n : Int) (un : Bool), e = .returned (.tuple #[.string v, .int .i64 n]) ∧ LX C w' ⟨t.a, t.out, t.bad, un⟩ ∧ Below C.B w w' ∧ (t.un = true → un = true) ∧ ErR C.s i v n un
theorem er_two {C : LC} {t : LS} {w : World} {i : Nat} {c : Int} {b : UInt8} {v : ByteArray} (h : LX C w t) (hc : c = nx C.s (i + 1)) (he : esI c = some b) (hv : v = ⟨#[b]⟩) : ErP C t i w (.returned (.tuple #[.string v, .int .i64 2])) w :=
 ⟨v, 2, t.un, rfl, h, Below.refl _ _, fun x => x, .inr (.inl ⟨rfl, b, by rw [← hc]; exact he, hv⟩)⟩
theorem er_no {C : LC} {t : LS} {w : World} {i : Nat} {c : Int} (h : LX C w t) (hc : c = nx C.s (i + 1)) (he : esI c = none) (hu : c ≠ 117) : ErP C t i w (.returned (.tuple #[.string ⟨#[]⟩, .int .i64 0])) w :=
 ⟨_, 0, t.un, rfl, h, Below.refl _ _, fun x => x, .inl ⟨rfl, .inr ⟨by rw [← hc]; exact he, .inl (by rw [← hc]; exact hu)⟩⟩⟩
theorem frb_none {c : Int} (h : ∀ k, k < 8 → frB.getD k 0 ≠ c) : esI c = none := by
 have h0 : 34 ≠ c := h 0 (by decide)
 have h1 : 92 ≠ c := h 1 (by decide)
 have h2 : 47 ≠ c := h 2 (by decide)
 have h3 : 98 ≠ c := h 3 (by decide)
 have h4 : 102 ≠ c := h 4 (by decide)
 have h5 : 110 ≠ c := h 5 (by decide)
 have h6 : 114 ≠ c := h 6 (by decide)
 have h7 : 116 ≠ c := h 7 (by decide)
 unfold esI
 rw [if_neg (by omega), if_neg (by omega), if_neg (by omega), if_neg (by omega), if_neg (by omega), if_neg (by omega), if_neg (by omega), if_neg (by omega)]
theorem hxv_lo (c : Int) : hxv c ≤ 15 ∧ -1 ≤ hxv c := by
 unfold hxv
 split
 ·rename_i hd
  unfold hx
  rcases hd with h | h | h
  ·rw [if_pos (by omega)]; omega
  ·rw [if_neg (by omega), if_neg (by omega)]; omega
  ·rw [if_neg (by omega), if_pos (by omega)]; omega
 ·omega
theorem hn_lo (s : ByteArray) (i k : Nat) (hk : k ≤ 4) (h : ∀ j, j < k → 0 ≤ hxv (nx s (i + j))) : 0 ≤ hn s i k ∧ hn s i k ≤ 65535 := by
 have b := fun j => (hxv_lo (nx s (i + j))).1
 match k, hk, h with
 | 0, _, _ => simp [hn]
 | 1, _, h => have := h 0 (by omega); have := b 0; simp only [hn]; omega
 | 2, _, h => have := h 0 (by omega); have := b 0; have := h 1 (by omega); have := b 1; simp only [hn]; omega
 | 3, _, h => have := h 0 (by omega); have := b 0; have := h 1 (by omega); have := b 1; have := h 2 (by omega); have := b 2; simp only [hn]; omega
 | 4, _, h => have := h 0 (by omega); have := b 0; have := h 1 (by omega); have := b 1; have := h 2 (by omega); have := b 2; have := h 3 (by omega); have := b 3; simp only [hn]; omega
 | (n + 5), hk, _ => exact absurd hk (by omega)
theorem escape_walk {C : LC} {w : World} {t : LS} (h : LX C w t) (i : Nat) (hi : i < C.s.size) : Calls Tryz.prog 95 #[ptr C.gx, .int .i64 i] w (ErP C t i w) := by
 obtain ⟨ta, tq, tb, tu⟩ := t
 have HP := mkA h
 have SZ := mkA h.sz
 have HI := mkA hi
 have N1 := mkA (next_q h (i + 1))
 have W1 : wrap64 ((i : Int) + 1) = ((i + 1 : Nat) : Int) := by have := SZ.out; exact (w64 (by omega) (by omega)).trans (by omega)
 obtain ⟨i1, h1⟩ : ∃ i1 : Int, i1 = ((i + 1 : Nat) : Int) := ⟨_, rfl⟩
 obtain ⟨c, hc⟩ : ∃ c, c = nx C.s (i + 1) := ⟨_, rfl⟩
 rw [← h1] at W1 N1
 rw [← hc] at N1
 have HCC := mkA hc
 clear h hi h1 hc
 go_enter Tryz.func95, Tryz.ntmps95
 go_wp2_with (first
  | (go_at_call 70; (with_reducible refine N1.out.mono ?_); rintro e w_ ⟨rfl, hw_⟩; subst w_))
 go_loop [4, 5, 9] (fun v4 v5 v9 => v4 = .string ⟨#[]⟩ ∧ v5 = .int .i64 0 ∧ ∃ j : Nat, v9 = .int .i64 j ∧ Aside0 (j ≤ 8 ∧ ∀ k, k < j → frB.getD k 0 ≠ c)) (fun _ _ v9 => 8 - (intOf v9).toNat)
 case atStart => exact ⟨rfl, rfl, 0, rfl, ⟨by omega, fun k hk => absurd hk (by omega)⟩⟩
 case round =>
  obtain ⟨rfl, rfl, j, rfl, HR⟩ := hrel
  match j, HR with
  | 0, HR =>
    go_wp2
    all_goals first
     | (go_ret2; rename_i he_ _; exact er_two (b := 34) HP.out HCC.out (by have e_ : c = 34 := (eq_of_beq he_).symm.trans (by decide); rw [e_]; rfl) (by decide))
     | (rename_i he_
        go_round
        case rel => exact ⟨rfl, rfl, 1, rfl, ⟨by omega, fun k hk => by rcases Nat.lt_or_ge k 0 with h | h; exact HR.out.2 k h; have e_ : k = 0 := (by omega); rw [e_]; show (34 : Int) ≠ c; exact fun e_ => (beq_eq_false_iff_ne.mp he_) (Eq.trans (by decide) e_)⟩⟩
        case measure => decide)
  | 1, HR =>
    go_wp2
    all_goals first
     | (go_ret2; rename_i he_ _; exact er_two (b := 92) HP.out HCC.out (by have e_ : c = 92 := (eq_of_beq he_).symm.trans (by decide); rw [e_]; rfl) (by decide))
     | (rename_i he_
        go_round
        case rel => exact ⟨rfl, rfl, 2, rfl, ⟨by omega, fun k hk => by rcases Nat.lt_or_ge k 1 with h | h; exact HR.out.2 k h; have e_ : k = 1 := (by omega); rw [e_]; show (92 : Int) ≠ c; exact fun e_ => (beq_eq_false_iff_ne.mp he_) (Eq.trans (by decide) e_)⟩⟩
        case measure => decide)
  | 2, HR =>
    go_wp2
    all_goals first
     | (go_ret2; rename_i he_ _; exact er_two (b := 47) HP.out HCC.out (by have e_ : c = 47 := (eq_of_beq he_).symm.trans (by decide); rw [e_]; rfl) (by decide))
     | (rename_i he_
        go_round
        case rel => exact ⟨rfl, rfl, 3, rfl, ⟨by omega, fun k hk => by rcases Nat.lt_or_ge k 2 with h | h; exact HR.out.2 k h; have e_ : k = 2 := (by omega); rw [e_]; show (47 : Int) ≠ c; exact fun e_ => (beq_eq_false_iff_ne.mp he_) (Eq.trans (by decide) e_)⟩⟩
        case measure => decide)
  | 3, HR =>
    go_wp2
    all_goals first
     | (go_ret2; rename_i he_ _; exact er_two (b := 8) HP.out HCC.out (by have e_ : c = 98 := (eq_of_beq he_).symm.trans (by decide); rw [e_]; rfl) (by decide))
     | (rename_i he_
        go_round
        case rel => exact ⟨rfl, rfl, 4, rfl, ⟨by omega, fun k hk => by rcases Nat.lt_or_ge k 3 with h | h; exact HR.out.2 k h; have e_ : k = 3 := (by omega); rw [e_]; show (98 : Int) ≠ c; exact fun e_ => (beq_eq_false_iff_ne.mp he_) (Eq.trans (by decide) e_)⟩⟩
        case measure => decide)
  | 4, HR =>
    go_wp2
    all_goals first
     | (go_ret2; rename_i he_ _; exact er_two (b := 12) HP.out HCC.out (by have e_ : c = 102 := (eq_of_beq he_).symm.trans (by decide); rw [e_]; rfl) (by decide))
     | (rename_i he_
        go_round
        case rel => exact ⟨rfl, rfl, 5, rfl, ⟨by omega, fun k hk => by rcases Nat.lt_or_ge k 4 with h | h; exact HR.out.2 k h; have e_ : k = 4 := (by omega); rw [e_]; show (102 : Int) ≠ c; exact fun e_ => (beq_eq_false_iff_ne.mp he_) (Eq.trans (by decide) e_)⟩⟩
        case measure => decide)
  | 5, HR =>
    go_wp2
    all_goals first
     | (go_ret2; rename_i he_ _; exact er_two (b := 10) HP.out HCC.out (by have e_ : c = 110 := (eq_of_beq he_).symm.trans (by decide); rw [e_]; rfl) (by decide))
     | (rename_i he_
        go_round
        case rel => exact ⟨rfl, rfl, 6, rfl, ⟨by omega, fun k hk => by rcases Nat.lt_or_ge k 5 with h | h; exact HR.out.2 k h; have e_ : k = 5 := (by omega); rw [e_]; show (110 : Int) ≠ c; exact fun e_ => (beq_eq_false_iff_ne.mp he_) (Eq.trans (by decide) e_)⟩⟩
        case measure => decide)
  | 6, HR =>
    go_wp2
    all_goals first
     | (go_ret2; rename_i he_ _; exact er_two (b := 13) HP.out HCC.out (by have e_ : c = 114 := (eq_of_beq he_).symm.trans (by decide); rw [e_]; rfl) (by decide))
     | (rename_i he_
        go_round
        case rel => exact ⟨rfl, rfl, 7, rfl, ⟨by omega, fun k hk => by rcases Nat.lt_or_ge k 6 with h | h; exact HR.out.2 k h; have e_ : k = 6 := (by omega); rw [e_]; show (114 : Int) ≠ c; exact fun e_ => (beq_eq_false_iff_ne.mp he_) (Eq.trans (by decide) e_)⟩⟩
        case measure => decide)
  | 7, HR =>
    go_wp2
    all_goals first
     | (go_ret2; rename_i he_ _; exact er_two (b := 9) HP.out HCC.out (by have e_ : c = 116 := (eq_of_beq he_).symm.trans (by decide); rw [e_]; rfl) (by decide))
     | (rename_i he_
        go_round
        case rel => exact ⟨rfl, rfl, 8, rfl, ⟨by omega, fun k hk => by rcases Nat.lt_or_ge k 7 with h | h; exact HR.out.2 k h; have e_ : k = 7 := (by omega); rw [e_]; show (116 : Int) ≠ c; exact fun e_ => (beq_eq_false_iff_ne.mp he_) (Eq.trans (by decide) e_)⟩⟩
        case measure => decide)
  | 8, HR =>
    have HE := mkA (frb_none HR.out.2)
    clear HR W1 N1
    by_cases hu : c = 117
    case neg =>
     have p1 := bnne hu
     have HU := mkA hu
     have p2 := p1.1
     clear p1 hu
     go_wp2
     go_ret2
     exact er_no HP.out HCC.out HE.out HU.out
    case pos =>
     have p2 := (bneq hu).1
     have HU := mkA (HCC.out.symm.trans hu)
     have W2 : wrap64 ((i : Int) + 2) = ((i + 2 : Nat) : Int) := by have := SZ.out; have := HI.out; exact (w64 (by omega) (by omega)).trans (by omega)
     obtain ⟨i2, h2⟩ : ∃ i2 : Nat, i2 = i + 2 := ⟨_, rfl⟩
     rw [← h2] at W2
     have W6 : wrap64 ((i : Int) + 6) = ((i + 6 : Nat) : Int) := by have := SZ.out; have := HI.out; exact (w64 (by omega) (by omega)).trans (by omega)
     obtain ⟨i6, h6⟩ : ∃ i6 : Nat, i6 = i + 6 := ⟨_, rfl⟩
     rw [← h6] at W6
     have H2 := mkA h2
     have H6 := mkA h6
     clear h2 h6 hu
     go_wp2
     go_loop [4, 5, 10, 11] (fun v4 v5 v10 v11 => v4 = .string ⟨#[]⟩ ∧ v5 = .int .i64 0 ∧ ∃ (k p : Nat) (n : Int), v10 = .int .i64 n ∧ v11 = .int .i64 p ∧ Aside0 (k ≤ 4 ∧ p = i + 2 + k ∧ n = hn C.s (i + 2) k ∧ ∀ j, j < k → 0 ≤ hxv (nx C.s (i + 2 + j)))) (fun _ _ _ v11 => i + 6 - (intOf v11).toNat)
     case atStart => exact ⟨rfl, rfl, 0, i2, 0, rfl, by first | rfl | exact congrArg (Value.int .i64) W2, ⟨by omega, H2.out, rfl, fun j hj => absurd hj (by omega)⟩⟩
     case round =>
      obtain ⟨rfl, rfl, k, p, n, rfl, rfl, HK⟩ := hrel
      clear W2
      have c4 := HP.out.c.2.2.2
      have f4 := HP.out.fz 4
      by_cases hk : k < 4
      case pos =>
       have q1 : ((p : Int) < (i6 : Int)) = True := eq_true (by have := HK.out.2.1; have := H6.out; omega)
       have q2 : (p < i6) = True := eq_true (by have := HK.out.2.1; have := H6.out; omega)
       have N2 := mkA (next_q HP.out p)
       have NX := mkA (hex_q (nx C.s p) (nx_lo C.s p).1 (nx_lo C.s p).2 w)
       have HV9 := mkA (show (nx C.s p) = nx C.s (i + 2 + k) by rw [HK.out.2.1])
       obtain ⟨d, hd⟩ : ∃ d, d = nx C.s p := ⟨_, rfl⟩
       rw [← hd] at N2 NX
       obtain ⟨v, hv⟩ : ∃ v, v = hxv d := ⟨_, rfl⟩
       rw [← hv] at NX
       have HV := mkA (show v = hxv (nx C.s (i + 2 + k)) by rw [hv, hd, HV9.out])
       have hnl := hn_lo C.s (i + 2) k HK.out.1 HK.out.2.2.2
       rw [← HK.out.2.2.1] at hnl
       have hvl := hxv_lo d
       rw [← hv] at hvl
       have HHK := mkA hk
       clear hd hv hk
       by_cases hv0 : v < 0
       case pos =>
        have HV0 := mkA hv0
        clear hnl hvl
        cases tu
        all_goals
         go_wp2_with (first
          | (go_at_call 70; (with_reducible refine N2.out.mono ?_); rintro e w_ ⟨rfl, hw_⟩; subst w_)
          | (go_at_call 125; (with_reducible refine NX.out.mono ?_); rintro e w_ ⟨rfl, hw_⟩; subst w_))
         go_ret2
         exact ⟨_, 0, _, rfl, (HP.out.un _).1, (HP.out.un _).2, (by first | exact fun _ => rfl | exact fun x => by cases x), .inl ⟨rfl, .inr ⟨by rw [← HCC.out]; exact HE.out, .inr ⟨k, HHK.out, HK.out.2.2.2, by rw [← HV.out]; exact HV0.out⟩⟩⟩⟩
       case neg =>
        have HV0 := mkA (show 0 ≤ hxv (nx C.s (i + 2 + k)) by rw [← HV.out]; omega)
        have W7 : wrap64 (16 * n) = 16 * n := w64 (by omega) (by omega)
        have W8 : wrap64 (16 * n + v) = 16 * n + v := w64 (by omega) (by omega)
        have W9 : wrap64 ((p : Int) + 1) = ((p + 1 : Nat) : Int) := by have := SZ.out; have := HI.out; have := HK.out.2.1; have := HHK.out; exact (w64 (by omega) (by omega)).trans (by omega)
        obtain ⟨p1, hp1⟩ : ∃ p1 : Nat, p1 = p + 1 := ⟨_, rfl⟩
        rw [← hp1] at W9
        have HP1 := mkA hp1
        clear hp1 hnl hvl
        go_wp2_with (first
         | (go_at_call 70; (with_reducible refine N2.out.mono ?_); rintro e w_ ⟨rfl, hw_⟩; subst w_)
         | (go_at_call 125; (with_reducible refine NX.out.mono ?_); rintro e w_ ⟨rfl, hw_⟩; subst w_))
        go_round
        case rel => exact ⟨rfl, rfl, k + 1, p1, 16 * n + v, by first | rfl | exact congrArg (Value.int .i64) W8, by first | rfl | exact congrArg (Value.int .i64) W9, ⟨HHK.out, by rw [HP1.out, HK.out.2.1]; omega, by rw [HK.out.2.2.1, HV.out]; rfl, fun j hj => by
         by_cases e : j = k
         ·rw [e]; exact HV0.out
         ·exact HK.out.2.2.2 j (by omega)⟩⟩
        case measure =>
         try rw [W9]
         have := HP1.out; have := HK.out.2.1; have := HHK.out
         simp only [intOf]
         omega
      case neg =>
       have e4 : k = 4 := by have := HK.out.1; omega
       subst e4
       have q1 : ((p : Int) < (i6 : Int)) = False := eq_false (by have := HK.out.2.1; have := H6.out; omega)
       have q2 : (p < i6) = False := eq_false (by have := HK.out.2.1; have := H6.out; omega)
       have hnl := hn_lo C.s (i + 2) 4 (by omega) HK.out.2.2.2
       rw [← HK.out.2.2.1] at hnl
       have NE := mkA (fun u : World => enc_walk n hnl.1 (by omega) u)
       have LO := mkA (show C.B ≤ w.heap.size from Nat.le_trans HP.out.lo (by obtain ⟨A, cp, hc, _⟩ := HP.out.cell; exact Nat.le_of_lt (blk_lt hc)))
       have HN := mkA HK.out.2.2.1
       have HD := mkA HK.out.2.2.2
       clear hk HK hnl
       by_cases h55 : 55296 ≤ n <;> by_cases h57 : n < 57344
       case pos =>
        go_wp2
        go_ret2
        exact ⟨_, 0, true, rfl, (HP.out.un true).1, (HP.out.un true).2, fun _ => rfl, .inl ⟨rfl, .inl rfl⟩⟩
       all_goals
        have HS := mkA (show n < 55296 ∨ 57344 ≤ n by omega)
        cases tu
        all_goals
         go_wp2_with (first
          | (go_at_call 126; (with_reducible refine (NE.out _).mono ?_); rintro e w1 ⟨rfl, hb⟩; have HL1 := mkA ((HP.out.un _).1.below hb); have HB1 := mkA ((HP.out.un _).2.trans (bel_le hb (Nat.le_trans LO.out (HP.out.un _).2.size))); clear hb))
         all_goals go_ret2
         all_goals exact ⟨_, 6, _, rfl, HL1.out, HB1.out, (by first | exact fun _ => rfl | exact fun x => by cases x), .inr (.inr ⟨rfl, HU.out, HD.out, by rw [← HN.out], by rw [← HN.out]; exact HS.out⟩)⟩
  | (n + 9), HR => exact absurd HR.out.1 (by omega)
end Go.Proofs.YthgcghpcikbnkaaGreatDoor.R
