/- FnCoerceFloat: the law itself, walked in the program: it answers true. Condition: the value lies in the world. -/
import Derived.Test.YtbegljkhajagbaaGreatDoorSam
import Derived.Test.YtbegljkhajagbaaGreatDoorGrd
namespace Go.Proofs.YtbegljkhajagbaaGreatDoor.PFnCoerceFloat
open Go.RowKit Go.Proofs.YtbegljkhajagbaaGreatDoorW.PrintWords Go.Proofs.YtbegljkhajagbaaGreatDoorW.PrintLast Go.Proofs.YtbegljkhajagbaaGreatDoorW.PrintMore
set_option linter.unusedVariables false
set_option linter.unusedSimpArgs false
attribute [local go_sem] run_store_float
theorem n7_at {w : World} {A : Option Addr} {cap n : Nat} {x : V} {xs : List V} (hn : (x :: xs).length = n) (h : Kd.C kV w A n (x :: xs)) :
    Calls Tryz.prog 6 #[.slice A n cap] w fun e w' => e = .returned (.tuple #[.float .f64 (n7 x).1, .bool (n7 x).2]) ∧ w' = w := by
  subst hn
  exact number7_walk h
set_option maxHeartbeats 4000000 in
set_option maxRecDepth 100000 in
theorem law_early {w : World} {A : Option Addr} {cap n : Nat} {x : V} {xs : List V} (hn : (x :: xs).length = n) (hC : Kd.C kV w A n (x :: xs)) (hcap : n ≤ cap) (he : DGood x.f0 x.f3 x.f1 n → n7 x = (0, false)) :
    Calls Tryz.prog 3 #[.slice A n cap] w fun e w' => e = .returned (.bool true) ∧ Below w.heap.size w w' := by
  have HB := Aside0.mk (Below.refl w.heap.size w)
  have HC := Aside0.mk hC
  have HCP := Aside0.mk hcap
  have HE := Aside0.mk he
  have HN := Aside0.mk hn
  clear hC hcap he hn
  go_enter Tryz.func3, Tryz.ntmps3
  go_wp2_with (first | (go_at_call 4; refine (fits4_walk HC.out).mono ?_; rintro e w1 ⟨⟨b, rfl, _⟩, hB⟩; have n0_ := Aside0.mk (below_step HB.out hB); clear HB hB; have HB := n0_; clear n0_; cases b) | (go_at_call 5; refine (dataRight_walk (Kd.C_below HC.out HB.out) HCP.out).mono ?_; rintro e w2 ⟨⟨b, rfl, hg⟩, hB⟩; have n0_ := Aside0.mk (below_step HB.out hB); clear HB hB; have HB := n0_; clear n0_; have HG := Aside0.mk hg; clear hg; cases b) | (go_at_call 6; refine (n7_at HN.out (Kd.C_below HC.out HB.out)).mono ?_; rw [HE.out (by first | exact (HG.out rfl).2.2 | exact (HG.out trivial).2.2 | exact HG.out.2.2)]; rintro e w3 ⟨rfl, rfl⟩))
  all_goals go_ret
  all_goals exact ⟨rfl, HB.out⟩
set_option maxHeartbeats 4000000 in
set_option maxRecDepth 100000 in
theorem law_nil {w : World} {A : Option Addr} {cap : Nat} (hC : Kd.C kV w A 0 []) :
    Calls Tryz.prog 3 #[.slice A 0 cap] w fun e w' => e = .returned (.bool true) ∧ Below w.heap.size w w' := by
  have HB := Aside0.mk (Below.refl w.heap.size w)
  have HC := Aside0.mk hC
  have HCP := Aside0.mk (Nat.zero_le cap)
  clear hC
  go_enter Tryz.func3, Tryz.ntmps3
  go_wp2_with (first | (go_at_call 4; refine (fits4_walk HC.out).mono ?_; rintro e w1 ⟨⟨b, rfl, _⟩, hB⟩; have n0_ := Aside0.mk (below_step HB.out hB); clear HB hB; have HB := n0_; clear n0_; cases b) | (go_at_call 5; refine (dataRight_walk (Kd.C_below HC.out HB.out) HCP.out).mono ?_; rintro e w2 ⟨⟨b, rfl, hg⟩, hB⟩; have n0_ := Aside0.mk (below_step HB.out hB); clear HB hB; have HB := n0_; clear n0_; obtain rfl : b = false := by { cases b; rfl; exact absurd (hg rfl).1 (by omega) }))
  all_goals go_ret
  all_goals exact ⟨rfl, HB.out⟩
set_option maxHeartbeats 8000000 in
set_option maxRecDepth 100000 in
theorem law_2 {w : World} {ad : Addr} {cap nu : Nat} {tx : ByteArray} (hC : Kd.C kV w (some ad) 1 [⟨2, nu, tx, 1⟩]) (hcap : 1 ≤ cap) :
    Calls Tryz.prog 3 #[.slice (some ad) 1 cap] w fun e w' => e = .returned (.bool true) ∧ Below w.heap.size w w' := by
  have HB := Aside0.mk (Below.refl w.heap.size w)
  have HC := Aside0.mk hC
  have HCP := Aside0.mk hcap
  have HO := Aside0.mk (show One w ad 2 nu tx from ⟨(cells0 hC (by omega)).1, (cells0 hC (by omega)).2.1, (cells0 hC (by omega)).2.2.1, (cells0 hC (by omega)).2.2.2⟩)
  have h6 : ∀ w', Below w.heap.size w w' → Calls Tryz.prog 6 #[.slice (some ad) 1 cap] w' fun e w'' => e = .returned (.tuple #[.float .f64 (4607182418800017408), .bool true]) ∧ w'' = w' := fun w' hB => n7_at (x := ⟨2, nu, tx, 1⟩) (xs := []) rfl (Kd.C_below hC hB)
  have H6 := Aside0.mk h6
  clear hC hcap h6
  go_enter Tryz.func3, Tryz.ntmps3
  go_wp2_with (first
    | (go_at_call 4; refine (fits4_walk HC.out).mono ?_; rintro e w1 ⟨⟨b, rfl, _⟩, hB⟩; have n0_ := Aside0.mk (below_step HB.out hB); clear HB hB; have HB := n0_; clear n0_; cases b)
    | (go_at_call 5; refine (dataRight_walk (Kd.C_below HC.out HB.out) HCP.out).mono ?_; rintro e w2 ⟨⟨b, rfl, hg⟩, hB⟩; have n0_ := Aside0.mk (below_step HB.out hB); clear HB hB; have HB := n0_; clear n0_; have HG := Aside0.mk hg; clear hg; cases b)
    | (go_at_call 6; refine (H6.out _ HB.out).mono ?_; rintro e w3 ⟨rfl, rfl⟩)
    | (go_at_call 7; refine (c7_walk (4607182418800017408) (co_bool (4607182418800017408) (whole_walk (HO.out.below HB.out) _ (go_true _ (HO.out.below HB.out))) (fun w' => door_walk _ _ w' (cf_true w')))).mono ?_; rintro e w4 ⟨⟨g1, c1, rfl, hO1, _⟩, hB⟩; have n0_ := Aside0.mk (below_step HB.out hB); clear HB hB; have HB := n0_; clear n0_; have HO1 := Aside0.mk hO1; clear hO1)
    | (go_at_call 9; refine (nv_walk (4607182418800017408) _).mono ?_; rintro e w5 ⟨⟨g2, rfl, hO2⟩, hB⟩; have n1_ := Aside0.mk (HO1.out.below hB); have n0_ := Aside0.mk (below_step HB.out hB); clear HB hB; have HB := n0_; clear n0_; clear HO1; have HO1 := n1_; clear n1_; have HO2 := Aside0.mk hO2; clear hO2)
    | (go_at_call 8; refine (same_walk HO1.out HO2.out (by rfl)).mono ?_; rintro e w6 ⟨rfl, hB⟩; have n0_ := Aside0.mk (below_step HB.out hB); clear HB hB; have HB := n0_; clear n0_))
  all_goals go_ret
  all_goals exact ⟨rfl, HB.out⟩
set_option maxHeartbeats 8000000 in
set_option maxRecDepth 100000 in
theorem law_3 {w : World} {ad : Addr} {cap nu : Nat} {tx : ByteArray} (hC : Kd.C kV w (some ad) 1 [⟨3, nu, tx, 1⟩]) (hcap : 1 ≤ cap) :
    Calls Tryz.prog 3 #[.slice (some ad) 1 cap] w fun e w' => e = .returned (.bool true) ∧ Below w.heap.size w w' := by
  have HB := Aside0.mk (Below.refl w.heap.size w)
  have HC := Aside0.mk hC
  have HCP := Aside0.mk hcap
  have HO := Aside0.mk (show One w ad 3 nu tx from ⟨(cells0 hC (by omega)).1, (cells0 hC (by omega)).2.1, (cells0 hC (by omega)).2.2.1, (cells0 hC (by omega)).2.2.2⟩)
  have h6 : ∀ w', Below w.heap.size w w' → Calls Tryz.prog 6 #[.slice (some ad) 1 cap] w' fun e w'' => e = .returned (.tuple #[.float .f64 (0), .bool true]) ∧ w'' = w' := fun w' hB => n7_at (x := ⟨3, nu, tx, 1⟩) (xs := []) rfl (Kd.C_below hC hB)
  have H6 := Aside0.mk h6
  clear hC hcap h6
  go_enter Tryz.func3, Tryz.ntmps3
  go_wp2_with (first
    | (go_at_call 4; refine (fits4_walk HC.out).mono ?_; rintro e w1 ⟨⟨b, rfl, _⟩, hB⟩; have n0_ := Aside0.mk (below_step HB.out hB); clear HB hB; have HB := n0_; clear n0_; cases b)
    | (go_at_call 5; refine (dataRight_walk (Kd.C_below HC.out HB.out) HCP.out).mono ?_; rintro e w2 ⟨⟨b, rfl, hg⟩, hB⟩; have n0_ := Aside0.mk (below_step HB.out hB); clear HB hB; have HB := n0_; clear n0_; have HG := Aside0.mk hg; clear hg; cases b)
    | (go_at_call 6; refine (H6.out _ HB.out).mono ?_; rintro e w3 ⟨rfl, rfl⟩)
    | (go_at_call 7; refine (c7_walk (0) (co_bool (0) (whole_walk (HO.out.below HB.out) _ (go_false _ (HO.out.below HB.out))) (fun w' => door_walk _ _ w' (cf_false w')))).mono ?_; rintro e w4 ⟨⟨g1, c1, rfl, hO1, _⟩, hB⟩; have n0_ := Aside0.mk (below_step HB.out hB); clear HB hB; have HB := n0_; clear n0_; have HO1 := Aside0.mk hO1; clear hO1)
    | (go_at_call 9; refine (nv_walk (0) _).mono ?_; rintro e w5 ⟨⟨g2, rfl, hO2⟩, hB⟩; have n1_ := Aside0.mk (HO1.out.below hB); have n0_ := Aside0.mk (below_step HB.out hB); clear HB hB; have HB := n0_; clear n0_; clear HO1; have HO1 := n1_; clear n1_; have HO2 := Aside0.mk hO2; clear hO2)
    | (go_at_call 8; refine (same_walk HO1.out HO2.out (by rfl)).mono ?_; rintro e w6 ⟨rfl, hB⟩; have n0_ := Aside0.mk (below_step HB.out hB); clear HB hB; have HB := n0_; clear n0_))
  all_goals go_ret
  all_goals exact ⟨rfl, HB.out⟩
set_option maxHeartbeats 8000000 in
set_option maxRecDepth 100000 in
theorem law_5 {w : World} {ad : Addr} {cap nu : Nat} {tx : ByteArray} (hC : Kd.C kV w (some ad) 1 [⟨5, nu, tx, 1⟩]) (hcap : 1 ≤ cap) :
    Calls Tryz.prog 3 #[.slice (some ad) 1 cap] w fun e w' => e = .returned (.bool true) ∧ Below w.heap.size w w' := by
  have HB := Aside0.mk (Below.refl w.heap.size w)
  have HC := Aside0.mk hC
  have HCP := Aside0.mk hcap
  have HO := Aside0.mk (show One w ad 5 nu tx from ⟨(cells0 hC (by omega)).1, (cells0 hC (by omega)).2.1, (cells0 hC (by omega)).2.2.1, (cells0 hC (by omega)).2.2.2⟩)
  have h6 : ∀ w', Below w.heap.size w w' → Calls Tryz.prog 6 #[.slice (some ad) 1 cap] w' fun e w'' => e = .returned (.tuple #[.float .f64 (nu), .bool true]) ∧ w'' = w' := fun w' hB => n7_at (x := ⟨5, nu, tx, 1⟩) (xs := []) rfl (Kd.C_below hC hB)
  have H6 := Aside0.mk h6
  clear hC hcap h6
  go_enter Tryz.func3, Tryz.ntmps3
  go_wp2_with (first
    | (go_at_call 4; refine (fits4_walk HC.out).mono ?_; rintro e w1 ⟨⟨b, rfl, _⟩, hB⟩; have n0_ := Aside0.mk (below_step HB.out hB); clear HB hB; have HB := n0_; clear n0_; cases b)
    | (go_at_call 5; refine (dataRight_walk (Kd.C_below HC.out HB.out) HCP.out).mono ?_; rintro e w2 ⟨⟨b, rfl, hg⟩, hB⟩; have n0_ := Aside0.mk (below_step HB.out hB); clear HB hB; have HB := n0_; clear n0_; have HG := Aside0.mk hg; clear hg; cases b)
    | (go_at_call 6; refine (H6.out _ HB.out).mono ?_; rintro e w3 ⟨rfl, rfl⟩)
    | (go_at_call 7; refine (c7_walk (nu) (co_float (nu) (whole_walk (HO.out.below HB.out) _ (go_float _ (HO.out.below HB.out))) (fun w' => door_walk _ _ w' (cf_float nu w')))).mono ?_; rintro e w4 ⟨⟨g1, c1, rfl, hO1, _⟩, hB⟩; have n0_ := Aside0.mk (below_step HB.out hB); clear HB hB; have HB := n0_; clear n0_; have HO1 := Aside0.mk hO1; clear hO1)
    | (go_at_call 9; refine (nv_walk (nu) _).mono ?_; rintro e w5 ⟨⟨g2, rfl, hO2⟩, hB⟩; have n1_ := Aside0.mk (HO1.out.below hB); have n0_ := Aside0.mk (below_step HB.out hB); clear HB hB; have HB := n0_; clear n0_; clear HO1; have HO1 := n1_; clear n1_; have HO2 := Aside0.mk hO2; clear hO2)
    | (go_at_call 8; refine (same_walk HO1.out HO2.out (by first | exact ((HG.out rfl).2.2.2.2.2 rfl).2 | exact ((HG.out trivial).2.2.2.2.2 rfl).2 | exact (HG.out.2.2.2.2.2 rfl).2)).mono ?_; rintro e w6 ⟨rfl, hB⟩; have n0_ := Aside0.mk (below_step HB.out hB); clear HB hB; have HB := n0_; clear n0_))
  all_goals go_ret
  all_goals exact ⟨rfl, HB.out⟩
set_option maxHeartbeats 8000000 in
set_option maxRecDepth 100000 in
theorem law_4 {w : World} {ad : Addr} {cap nu : Nat} {tx : ByteArray} (hC : Kd.C kV w (some ad) 1 [⟨4, nu, tx, 1⟩]) (hcap : 1 ≤ cap) :
    Calls Tryz.prog 3 #[.slice (some ad) 1 cap] w fun e w' => e = .returned (.bool true) ∧ Below w.heap.size w w' := by
  have HB := Aside0.mk (Below.refl w.heap.size w)
  have HC := Aside0.mk hC
  have HCP := Aside0.mk hcap
  have HO := Aside0.mk (show One w ad 4 nu tx from ⟨(cells0 hC (by omega)).1, (cells0 hC (by omega)).2.1, (cells0 hC (by omega)).2.2.1, (cells0 hC (by omega)).2.2.2⟩)
  have h6 : ∀ w', Below w.heap.size w w' → Calls Tryz.prog 6 #[.slice (some ad) 1 cap] w' fun e w'' => e = .returned (.tuple #[.float .f64 (nu), .bool true]) ∧ w'' = w' := fun w' hB => n7_at (x := ⟨4, nu, tx, 1⟩) (xs := []) rfl (Kd.C_below hC hB)
  have H6 := Aside0.mk h6
  clear hC hcap h6
  go_enter Tryz.func3, Tryz.ntmps3
  go_wp2_with (first
    | (go_at_call 4; refine (fits4_walk HC.out).mono ?_; rintro e w1 ⟨⟨b, rfl, _⟩, hB⟩; have n0_ := Aside0.mk (below_step HB.out hB); clear HB hB; have HB := n0_; clear n0_; cases b)
    | (go_at_call 5; refine (dataRight_walk (Kd.C_below HC.out HB.out) HCP.out).mono ?_; rintro e w2 ⟨⟨b, rfl, hg⟩, hB⟩; have n0_ := Aside0.mk (below_step HB.out hB); clear HB hB; have HB := n0_; clear n0_; have HG := Aside0.mk hg; clear hg; cases b)
    | (go_at_call 6; refine (H6.out _ HB.out).mono ?_; rintro e w3 ⟨rfl, rfl⟩)
    | (go_at_call 7; have hgd : 0 < 1 ∧ 1 ≤ 300 ∧ DGood 4 1 nu 1 := (by first | exact HG.out rfl | exact HG.out trivial | exact HG.out); obtain ⟨m, hm, hq⟩ := way nu (hgd.2.2.2.2.1 rfl).2.1 (hgd.2.2.2.2.1 rfl).2.2; clear hgd; have HQ := Aside0.mk hq; clear hq; refine (c7_walk (floatOfInt .f64 m) (co_int (floatOfInt .f64 m) (whole_walk (HO.out.below HB.out) _ (go_int _ (HO.out.below HB.out) m hm)) (fun w' => door_walk _ _ w' (cf_int m w')))).mono ?_; rintro e w4 ⟨⟨g1, c1, rfl, hO1, _⟩, hB⟩; have n0_ := Aside0.mk (below_step HB.out hB); clear HB hB; have HB := n0_; clear n0_; have HO1 := Aside0.mk hO1; clear hO1)
    | (go_at_call 9; refine (nv_walk (nu) _).mono ?_; rintro e w5 ⟨⟨g2, rfl, hO2⟩, hB⟩; have n1_ := Aside0.mk (HO1.out.below hB); have n0_ := Aside0.mk (below_step HB.out hB); clear HB hB; have HB := n0_; clear n0_; clear HO1; have HO1 := n1_; clear n1_; have HO2 := Aside0.mk hO2; clear hO2)
    | (go_at_call 8; refine (same_walk HO1.out HO2.out HQ.out).mono ?_; rintro e w6 ⟨rfl, hB⟩; have n0_ := Aside0.mk (below_step HB.out hB); clear HB hB; have HB := n0_; clear n0_))
  all_goals go_ret
  all_goals exact ⟨rfl, HB.out⟩
theorem law_walk {w : World} {A : Option Addr} {cap : Nat} {l : List V} (hC : Kd.C kV w A l.length l) (hcap : l.length ≤ cap) :
    Calls Tryz.prog 3 #[.slice A l.length cap] w fun e w' => e = .returned (.bool true) ∧ Below w.heap.size w w' := by
  cases l with
  | nil => exact law_nil hC
  | cons x xs =>
    by_cases hk : x.f0 = 2 ∨ x.f0 = 3 ∨ x.f0 = 4 ∨ x.f0 = 5
    · by_cases h1 : (x :: xs).length = 1 ∧ x.f3 = 1
      · obtain ⟨hl, h3⟩ := h1
        obtain rfl : xs = [] := by cases xs with | nil => rfl | cons y ys => simp at hl
        obtain ⟨ad, c, e, _⟩ := Kd.C_get hC zV 0 (by omega) (by simp)
        subst e
        obtain ⟨kd, nu, tx, sz⟩ := x
        simp only at hk h3
        subst h3
        rcases hk with h | h | h | h
        · subst h; exact law_2 hC hcap
        · subst h; exact law_3 hC hcap
        · subst h; exact law_4 hC hcap
        · subst h; exact law_5 hC hcap
      · refine law_early rfl hC hcap (fun hg => absurd ?_ h1)
        obtain ⟨g1, g2, g3, g4⟩ := hg
        have : (x :: xs).length = 1 := by
          rcases hk with h | h | h | h
          · exact g2 (.inl h)
          · exact g2 (.inr h)
          · exact (g3 h).1
          · exact (g4 h).1
        exact ⟨this, by rw [g1, this]; rfl⟩
    · refine law_early rfl hC hcap (fun _ => ?_)
      unfold n7
      rw [if_neg (by omega), if_neg (by omega), if_neg (by omega)]
end Go.Proofs.YtbegljkhajagbaaGreatDoor.PFnCoerceFloat
