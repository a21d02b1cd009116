/- FnIgnored: the package's doors, and the law itself, walked in the program: it answers true. Condition: Go's tables of UTF-8 lie in the world. -/
import Derived.Test.YtmlochnckplalaaDoorSIg
import Derived.Laws.AppendOwn
import Derived.Test.YtmlochnckplalaaDoorPaw
namespace Go.Proofs.YtmlochnckplalaaDoor.PFnIgnored
open Go.RowKit Go.Proofs.YtmlochnckplalaaDoorW.PrintWords Go.Proofs.YtmlochnckplalaaDoorW.PrintLast Go.Proofs.YtmlochnckplalaaDoorW.PrintMore
set_option linter.unusedVariables false
set_option linter.unusedSimpArgs false
theorem tabs_of {g3 g4 : Nat} {w w' : World} (h : Go.Lib.Utf8Tabs g3 g4 w) (hk : ∀ a : Addr, a.block < w.heap.size → w'.cell? a = w.cell? a) : Go.Lib.Utf8Tabs g3 g4 w' := by
  refine ⟨fun c hc => ?_, fun i hi => ⟨?_, ?_⟩⟩
  · rw [hk _ (World.block_lt_of_cell? w _ (h.1 c hc))]; exact h.1 c hc
  · rw [hk _ (World.block_lt_of_cell? w _ (h.2 i hi).1)]; exact (h.2 i hi).1
  · rw [hk _ (World.block_lt_of_cell? w _ (h.2 i hi).2)]; exact (h.2 i hi).2
theorem Glob.below {w w' : World} (h : Glob w) (hb : Below w.heap.size w w') : Glob w' := tabs_of h (fun a ha => hb.cell ha)
set_option maxHeartbeats 8000000 in
set_option maxRecDepth 100000 in
theorem lexIgn_walk (s : ByteArray) (w : World) (hT : Glob w) (hs : s.size ≤ 2000) (n : Nat) (hn : Sc s false 0 = some n) :
    Calls Tryd.prog 10 #[.string s] w fun e w' => e = .returned (.int .i64 n) ∧ Below w.heap.size w w' := by
  have hcap : s.size ≤ grownCap w s.size 0 5 := grownCap_ge _ _ _ _
  have c22 := paw_walk s w.heap.size (grownCap w s.size 0 5) (Go.Lib.bytesWorld w 5 s) (tabs_of hT (fun a ha => Go.Lib.bytesWorld_old w 5 s a ha)) hs hcap (fun j hj => by
    rw [Go.Lib.bytesWorld_cell w 5 s j hj]
    congr 2
    unfold bt
    rw [dif_pos (show (j : Int).toNat < s.size by omega)]
    simp only [Int.toNat_natCast]
    rw [List.getD_eq_getElem?_getD, List.getElem?_eq_getElem (by simpa using hj)]
    rfl) n hn
  have hcv := fun hs' hd he => Go.Lib.run_convert_string_bytes (P := Tryd.prog) w 9 38 5 s (u := .string) hs' hd he
  have hc := hcv (by kernel_rfl) (by kernel_rfl) (by kernel_rfl)
  have HB := Aside0.mk (bytes_below (Below.refl w.heap.size w) (Nat.le_refl _) 5 s)
  clear hcv hT hs hn hcap
  go_enter Tryd.func10, Tryd.ntmps10
  go_wp2_with (first | (go_at_call 22; refine c22.mono ?_; rintro e w' ⟨⟨m, rfl⟩, hB⟩; have hB := Aside0.mk hB))
  go_ret
  exact ⟨rfl, HB.out.trans (hB.out.mono HB.out.size)⟩
set_option maxRecDepth 100000 in
theorem implIgn_walk (s : ByteArray) (w : World) (hT : Glob w) (hs : s.size ≤ 2000) (n : Nat) (hn : Sc s false 0 = some n) :
    Calls Tryd.prog 6 #[.string s] w fun e w' => e = .returned (.int .i64 n) ∧ Below w.heap.size w w' := by
  have c10 := lexIgn_walk s w hT hs n hn
  clear hT hs hn
  go_enter Tryd.func6, Tryd.ntmps6
  go_wp2_with (first | (go_at_call 10; refine c10.mono ?_; rintro e w' ⟨rfl, hB⟩; have hB := Aside0.mk hB))
  go_ret
  exact ⟨rfl, hB.out⟩
theorem short_some (s : ByteArray) : ∃ b k, laws_short9.f k s = some b ∧ (b = true → s.size ≤ 2000) := by
  unfold laws_short9.f
  by_cases h : s.size ≤ 2000
  · obtain ⟨b, hb⟩ := utf8_some s (by omega)
    exact ⟨b, s.size + 21, by rw [if_pos (by omega), hb _ (Nat.le_refl _)]; rfl, fun _ => h⟩
  · exact ⟨false, 0, by rw [if_neg (by omega)], fun h => by cases h⟩
set_option maxHeartbeats 4000000 in
set_option maxRecDepth 100000 in
theorem law_walk (s : ByteArray) (w : World) (hT : Glob w) (hs : s.size ≤ 140737488351232) :
    Calls Tryd.prog 3 #[.string s] w fun e w' => e = .returned (.bool true) ∧ Below w.heap.size w w' := by
  by_cases hbig : s.size > 2147483647
  · clear hT
    go_enter Tryd.func3, Tryd.ntmps3
    go_wp2
    go_ret
    exact ⟨rfl, Below.refl _ _⟩
  obtain ⟨b, k, hf, hb⟩ := short_some s
  have c4 := laws_short9.calls k s b w hf
  cases b with
  | false =>
    clear hT hf hb
    go_enter Tryd.func3, Tryd.ntmps3
    go_wp2_with (first | (go_at_call 4; refine c4.mono ?_; rintro e w' ⟨rfl, ⟨nd, rfl⟩⟩))
    go_ret
    exact ⟨rfl, pw_below_drewN (Below.refl _ _) _⟩
  | true =>
    have HS := Aside0.mk (hb rfl)
    have HT := Aside0.mk hT
    clear hT hf hb
    have c5 : ∀ w', _ := fun w' => ignored_walk s HS.out w'
    have HC5 := Aside0.mk c5
    clear c5
    go_enter Tryd.func3, Tryd.ntmps3
    go_wp2_with (first | (go_at_call 4; refine c4.mono ?_; rintro e w' ⟨rfl, ⟨nd, rfl⟩⟩) | (go_at_call 5; refine (HC5.out _).mono ?_; rintro e w' ⟨n, sure, rfl, hn, hB⟩; have HN := Aside0.mk hn; have HB := Aside0.mk hB; clear hn hB) | (go_at_call 6; refine (implIgn_walk s _ (Glob.below (Glob.below HT.out (pw_below_drewN (Below.refl _ _) _)) HB.out) HS.out n (HN.out (by first | assumption | rfl))).mono ?_; rintro e w2 ⟨rfl, hB2⟩; have HB2 := Aside0.mk hB2; clear hB2))
    all_goals go_ret
    · exact ⟨by first | rfl | simp, ((pw_below_drewN (Below.refl _ _) _).trans HB.out).trans (HB2.out.mono (by have := HB.out.size; simpa using this))⟩
    · exact ⟨by first | rfl | simp, (pw_below_drewN (Below.refl _ _) _).trans HB.out⟩
end Go.Proofs.YtmlochnckplalaaDoor.PFnIgnored
