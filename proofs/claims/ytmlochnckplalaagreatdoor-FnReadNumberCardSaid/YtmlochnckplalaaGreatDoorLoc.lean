/- FnReadNumber: where line ends are (printed), read of a text without a line end ahead of a place; the package's GetLocation walked. Condition: a source in the world, a place within. -/
import Derived.Test.YtmlochnckplalaaGreatDoorRun
import Derived.Test.YtmlochnckplalaaGreatDoorPFnReadNumberx5
namespace Go.Proofs.YtmlochnckplalaaGreatDoor.PFnReadNumber
open Go.RowKit Go.Proofs.YtmlochnckplalaaGreatDoorW.PrintWords Go.Proofs.YtmlochnckplalaaGreatDoorW.PrintLast Go.Proofs.YtmlochnckplalaaGreatDoorW.PrintMore
set_option linter.unusedVariables false
set_option linter.unusedSimpArgs false
/-- No line end ahead of a place. -/
def NoNl (s : ByteArray) (p : Nat) : Prop := ∀ j : Nat, j < p → bt s j ≠ 10 ∧ bt s j ≠ 13
/-- Line ends, none of them ahead of a place. -/
def Q (p : Nat) (r : List (List Int)) : Prop := ∀ x ∈ r, ∃ a b : Int, x = [a, b] ∧ (p : Int) ≤ a
theorem blen (s : ByteArray) : (bytesOf s).length = s.size := by unfold bytesOf; simp [data_length]
theorem zz_l0 (s : ByteArray) (hs : s.size ≤ 2000) (p : Nat) (hp : NoNl s p) : ∀ (d i k : Nat) (x3 : List (List Int)), s.size - i ≤ d → i ≤ s.size → 2 * d + 2 ≤ k → x3.length ≤ i → Q p x3 →
    ∃ r, location_zzLineEnds.l0 k (bytesOf s) x3 i = some r ∧ Q p r := by
  intro d
  induction d with
  | zero =>
    intro i k x3 hd hi hk hl hq
    obtain ⟨k, rfl⟩ : ∃ m, k = m + 1 := ⟨k - 1, by omega⟩
    simp only [location_zzLineEnds.l0, blen]
    rw [if_neg (by omega)]
    exact ⟨_, rfl, hq⟩
  | succ d ih =>
    intro i k x3 hd hi hk hl hq
    obtain ⟨k, rfl⟩ : ∃ m, k = m + 2 := ⟨k - 2, by omega⟩
    by_cases hlt : i < s.size
    · have hj1 : ∀ b : Bool, (b = true → bt s i = 13) → ∃ r, location_zzLineEnds.j1 (k + 1) (bytesOf s) x3 i b = some r ∧ Q p r := by
        intro b hb
        have add : ∀ z : Int, (bt s i = 13 ∨ bt s i = 10) → Q p (x3 ++ [[(i : Int), z]]) := by
          intro z hz x hx
          rcases List.mem_append.1 hx with hx | hx
          · exact hq x hx
          · obtain rfl := List.mem_singleton.1 hx
            refine ⟨_, _, rfl, ?_⟩
            have := hp i
            omega
        have e1 : wrap64 ((i : Int) + 1) = ((i + 1 : Nat) : Int) := by unfold wrap64; omega
        have e2 : wrap64 (((i + 1 : Nat) : Int) + 1) = ((i + 2 : Nat) : Int) := by unfold wrap64; omega
        simp only [location_zzLineEnds.j1, blen, rd_bytesOf, e1, e2]
        by_cases hbt : b = true
        · rw [if_pos hbt, if_pos (by omega)]
          by_cases h2 : i + 2 ≤ s.size
          · exact ih (i + 2) k _ (by omega) h2 (by omega) (by simp; omega) (add _ (.inl (hb hbt)))
          · obtain ⟨k, rfl⟩ : ∃ m, k = m + 1 := ⟨k - 1, by omega⟩
            simp only [location_zzLineEnds.l0, blen]
            rw [if_neg (by omega)]
            exact ⟨_, rfl, add _ (.inl (hb hbt))⟩
        · rw [if_neg hbt, if_pos (by omega), if_pos (by omega)]
          by_cases h13 : bt s i = 13
          · rw [if_pos h13, if_pos (by omega)]
            exact ih (i + 1) k _ (by omega) (by omega) (by omega) (by simp; omega) (add _ (.inl h13))
          · rw [if_neg h13]
            by_cases h10 : bt s i = 10
            · rw [if_pos h10, if_pos (by omega)]
              exact ih (i + 1) k _ (by omega) (by omega) (by omega) (by simp; omega) (add _ (.inr h10))
            · rw [if_neg h10]
              exact ih (i + 1) k _ (by omega) (by omega) (by omega) (by omega) hq
      rw [show k + 2 = (k + 1) + 1 from rfl]
      simp only [location_zzLineEnds.l0, blen, rd_bytesOf]
      rw [if_pos (by omega), if_pos (by omega)]
      by_cases h13 : bt s i = 13
      · rw [if_pos h13]
        by_cases h2 : wrap64 ((i : Int) + 1) < s.size
        · rw [if_pos h2, if_pos (by unfold wrap64; omega)]
          exact hj1 _ (fun _ => h13)
        · rw [if_neg h2]
          exact hj1 _ (fun h => by cases h)
      · rw [if_neg h13]
        exact hj1 _ (fun h => by cases h)
    · rw [show k + 2 = (k + 1) + 1 from rfl]
      simp only [location_zzLineEnds.l0, blen]
      rw [if_neg (by omega)]
      exact ⟨_, rfl, hq⟩
theorem zz_f (s : ByteArray) (hs : s.size ≤ 2000) (p : Nat) (hp : NoNl s p) : ∃ r, location_zzLineEnds.f 4002 (bytesOf s) = some r ∧ Q p r :=
  zz_l0 s hs p hp s.size 0 4002 [] (by omega) (by omega) (by omega) (by simp) (fun x hx => by cases hx)
theorem Src.row {w : World} {g b cap : Nat} {s : ByteArray} (h : Src w g b cap s) : Kd.C (Kd.int .u8) w (some ⟨b, 0, none⟩) (bytesOf s).length (bytesOf s) := by
  rw [blen]
  refine Kd.C_of_reads (d := (0 : Int)) ⟨blen s, by have := h.small; omega, fun _ => ⟨_, rfl, fun j hj => ?_⟩⟩
  have e : (bytesOf s).getD j 0 = bt s j := rd_bytesOf s j
  rw [e, ← h.bytes j hj]
  exact congrArg w.cell? (by simp [Addr.add]; intro h; exact h.symm)
theorem zz_walk {w : World} {g b cap : Nat} {s : ByteArray} (h : Src w g b cap s) (p : Nat) (hp : NoNl s p) :
    Calls Tryz.prog 27 #[.slice (some ⟨b, 0, none⟩) s.size cap] w fun e w' => (∃ (A : Option Addr) (n c : Nat), e = .returned (.slice A n c) ∧ (n = 0 ∨ ∃ (ad1 ad2 : Addr) (c2 : Nat) (a : Int), 0 < n ∧ A = some ad1 ∧ w'.cell? ad1 = some (.slice (some ad2) 2 c2) ∧ w'.cell? ad2 = some (.int .i64 a) ∧ (p : Int) ≤ a)) ∧ Below w.heap.size w w' := by
  obtain ⟨r, hr, hq⟩ := zz_f s h.small p hp
  have c := location_zzLineEnds.calls 4002 (some ⟨b, 0, none⟩) cap (bytesOf s) r w h.row (by rw [blen]; exact h.cap) hr
  rw [blen] at c
  refine c.mono fun e w' ⟨v, he, hS, hB⟩ => ⟨?_, hB⟩
  obtain ⟨A, c, rfl, hl, hC⟩ := Kd.S_reads hS
  refine ⟨A, r.length, c, he, ?_⟩
  cases r with
  | nil => exact .inl rfl
  | cons x r =>
    obtain ⟨a, b', rfl, ha⟩ := hq x (List.mem_cons_self)
    obtain ⟨ad1, cs, e1, _, ⟨A2, c2, rfl, _, hC2⟩, hcs⟩ := Kd.C_get hC [] 0 (by omega) (by simp)
    obtain ⟨ad2, rfl, h2⟩ := Kd.at_int hC2 0 (by omega) (by simp)
    have h1 : w'.cell? ad1 = _ := hcs 0 _ rfl
    replace h2 : w'.cell? ad2 = _ := h2
    exact .inr ⟨ad1, ad2, c2, a, by simp, e1, h1, h2, ha⟩
set_option maxHeartbeats 8000000 in
set_option maxRecDepth 100000 in
theorem loc_walk {w : World} {g b cap : Nat} {s : ByteArray} (h : Src w g b cap s) (p : Nat) (hps : p ≤ s.size) (hp : NoNl s p) :
    Calls Tryz.prog 26 #[.pointer (some ⟨g, 0, none⟩), .int .i64 p] w fun e w' => (∃ l c : Int, e = .returned (.agg #[.int .i64 l, .int .i64 c])) ∧ Below w.heap.size w w' := by
  have HB := Aside0.mk (Below.refl w.heap.size w)
  have HS := Aside0.mk h
  have HP := Aside0.mk hp
  have hcap : s.size ≤ cap := h.cap
  have HC := Aside0.mk hcap
  clear h hp hps hcap
  go_enter Tryz.func26, Tryz.ntmps26
  go_wp2_with (first
    | ((with_reducible refine gate_dst (N := 4) rfl ?_); refine box_event ?hg (N := 4) ?hd (cs := #[.int .i64 0, .int .i64 0]) (t := 80) ?hr ?_; (case hd => rfl); (case hg => rfl); (case hr => first | (go_simp; done) | (go_simp; rfl)); intro gb hg w2 hbox hb; have hB2 := below_step HB.out hb; have GE := Aside0.mk ((by rw [hg]; exact below_size HB.out : w.heap.size ≤ gb)); have hS2 := HS.out.below hB2; have hc0 : ∀ o : Obj, (w2.alloc o).cell? ⟨g, 0, none⟩ = some (.slice (some ⟨b, 0, none⟩) s.size cap) := fun o => (hS2.below (below_alloc (Below.refl _ _) o)).body; have HB2 := Aside0.mk hB2; have HS2 := Aside0.mk hS2; have BK := Aside0.mk hbox; clear hb hbox hg hB2 hS2)
    | (go_at_call 27; refine (zz_walk (HS2.out.below (below_alloc (Below.refl _ _) _)) p HP.out).mono ?_; rintro e w3 ⟨⟨A, n, c, rfl, hn⟩, hB⟩; have HB3 := Aside0.mk ((below_alloc HB2.out _).trans (hB.mono (by have := HB2.out.size; simp only [World.size_alloc]; omega))); have BK3 := Aside0.mk (blk_below (blk_alloc BK.out _) hB); have HN := Aside0.mk hn; have hc1 : w3.cell? ⟨g, 0, none⟩ = some (.slice (some ⟨b, 0, none⟩) s.size cap) := ((HS2.out.below (below_alloc (Below.refl _ _) _)).below hB).body; clear hB hn hc0; have hcz0 : w3.cell? ⟨gb, 0, none⟩ = some (.int .i64 0) := (blk_cell BK3.out 0).trans rfl; have hcz1 : w3.cell? ⟨gb, 1, none⟩ = some (.int .i64 0) := (blk_cell BK3.out 1).trans rfl; have hfz0 := blk_frozen BK3.out 0; have hfz1 := blk_frozen BK3.out 1))
  rcases HN.out with rfl | ⟨ad1, ad2, c2, a, hn0, rfl, h1, h2, ha⟩
  · go_loopw [6, 7, 26] (fun v6 v7 v26 wr => v6 = .int .i64 1 ∧ v7 = .int .i64 (wrap64 ((p : Int) + 1)) ∧ v26 = .int .i64 0 ∧ w3 = wr) (fun _ _ _ _ => 0)
    case atStart => exact ⟨rfl, rfl, rfl, rfl⟩
    case round =>
      obtain ⟨rfl, rfl, rfl, rfl⟩ := hrel
      go_wp2
      refine bodyPost_ret (results_cell_row rfl _ _ gb 80 #[.int .i64 1, .int .i64 (wrap64 ((p : Int) + 1))] (0, 0) _ rfl (by refine blk_put (cs := #[.int .i64 1, .int .i64 0]) ?_ 1 _ rfl; refine blk_put (cs := #[.int .i64 0, .int .i64 0]) ?_ 0 _ rfl; exact BK3.out) Tryz.underlying80 rfl (by kernel_rfl)) rfl ?_
      exact ⟨⟨_, _, rfl⟩, below_set (below_set HB3.out GE.out) GE.out⟩
  · have q0 : ((0 : Int) < (n : Int)) = True := eq_true (by omega)
    have e0 : decide ((0 : Int) < (n : Int)) = true := decide_eq_true (by omega)
    have ea : decide (a < (p : Int)) = false := decide_eq_false (by omega)
    go_loopw [6, 7, 26] (fun v6 v7 v26 wr => v6 = .int .i64 1 ∧ v7 = .int .i64 (wrap64 ((p : Int) + 1)) ∧ v26 = .int .i64 0 ∧ w3 = wr) (fun _ _ _ _ => 0)
    case atStart => exact ⟨rfl, rfl, rfl, rfl⟩
    case round =>
      obtain ⟨rfl, rfl, rfl, rfl⟩ := hrel
      go_wp2
      refine bodyPost_ret (results_cell_row rfl _ _ gb 80 #[.int .i64 1, .int .i64 (wrap64 ((p : Int) + 1))] (0, 0) _ rfl (by refine blk_put (cs := #[.int .i64 1, .int .i64 0]) ?_ 1 _ rfl; refine blk_put (cs := #[.int .i64 0, .int .i64 0]) ?_ 0 _ rfl; exact BK3.out) Tryz.underlying80 rfl (by kernel_rfl)) rfl ?_
      exact ⟨⟨_, _, rfl⟩, below_set (below_set HB3.out GE.out) GE.out⟩
end Go.Proofs.YtmlochnckplalaaGreatDoor.PFnReadNumber
