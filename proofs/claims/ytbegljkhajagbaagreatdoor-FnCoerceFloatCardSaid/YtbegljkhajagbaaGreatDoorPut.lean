/- FnCoerceFloat: whole, putTyped, coerced and CoerceFloat of one node, walked. Condition: the node lies in the world. -/
import Derived.Test.YtbegljkhajagbaaGreatDoorGof
namespace Go.Proofs.YtbegljkhajagbaaGreatDoor.PFnCoerceFloat
open Go.RowKit Go.Proofs.YtbegljkhajagbaaGreatDoorW.PrintWords Go.Proofs.YtbegljkhajagbaaGreatDoorW.PrintLast Go.Proofs.YtbegljkhajagbaaGreatDoorW.PrintMore
set_option linter.unusedVariables false
set_option linter.unusedSimpArgs false
attribute [local go_sem] run_store_float
set_option maxHeartbeats 8000000 in
set_option maxRecDepth 100000 in
theorem whole_walk {w : World} {ad : Addr} {cap : Nat} {kd : Int} {nu : Nat} {tx : ByteArray} (h : One w ad kd nu tx) (v : Value)
    (h33 : Calls Tryz.prog 33 #[.slice (some ad) 1 cap, .int .i64 0] w fun e w' => e = .returned (.tuple #[v, .bool true]) ∧ Below w.heap.size w w') :
    Calls Tryz.prog 22 #[.slice (some ad) 1 cap] w fun e w' => e = .returned (.tuple #[v, .bool true]) ∧ Below w.heap.size w w' := by
  obtain ⟨c0, c1, c2, c3⟩ := h
  go_enter Tryz.func22, Tryz.ntmps22
  go_wp2_with (first | (go_at_call 33; refine h33.mono ?_; rintro e w' ⟨rfl, hB⟩; have HB := Aside0.mk hB; clear hB))
  go_ret2
  exact ⟨rfl, HB.out⟩
theorem info33 : (Tryz.prog.info? 33).map (fun i => (i.zero, i.size, i.bytes)) = some (some (.agg #[.int .i64 0, .float .f64 0, .string ⟨#[]⟩, .int .i64 0]), 4, 40) := by kernel_rfl
set_option maxHeartbeats 8000000 in
set_option maxRecDepth 100000 in
theorem put_walk (y : Nat) (w : World) :
    Calls Tryz.prog 34 #[.slice none 0 0, .iface 25 (.float .f64 y), .string ⟨#[]⟩, .nilFunc] w fun e w' => (∃ g c : Nat, e = .returned (.slice (some ⟨g, 0, none⟩) 1 c) ∧ One w' ⟨g, 0, none⟩ 5 y ⟨#[]⟩ ∧ 1 ≤ c) ∧ Below w.heap.size w w' := by
  have a4 := fun w => ta_ne (P := Tryz.prog) 25 4 (.bool) (.bool false) (by kernel_rfl) rfl (by kernel_rfl) (by decide) (.float .f64 y) 20 w
  have a3 := fun w => ta_ne (P := Tryz.prog) 25 3 (.int .i64) (.int .i64 0) (by kernel_rfl) rfl (by kernel_rfl) (by decide) (.float .f64 y) 20 w
  have a25 := fun w => ta_eq (P := Tryz.prog) 25 (.float .f64) (by kernel_rfl) rfl (.float .f64 y) 20 w
  have HB := Aside0.mk (Below.refl w.heap.size w)
  go_enter Tryz.func34, Tryz.ntmps34
  go_wp2_with (first | ((with_reducible refine gate_builtin (b := .append) (xs := #[.tmp 51, .tmp 54]) rfl ?_); (try (refine gate_guard (by rfl) ?_; dsimp only)); at_builtin; refine Kd.S_append kV (w0 := w) w.heap.size rfl (.tmp 51) (.tmp 54) 22 33 (.agg #[.int .i64 0, .float .f64 0, .string ⟨#[]⟩, .int .i64 0]) 40 rfl Tryz.underlying22 info33 rfl (by decide) (by omega) (.slice none 0 0) [] ⟨5, y, ⟨#[]⟩, 1⟩ [.int .i64 5, .float .f64 y, .string ⟨#[]⟩, .int .i64 1] (fun _ => True) (fun _ => False) rfl ?hx (kV_mkM _ _ _ _) (fun _ hk => hk.elim) (fun _ _ => trivial) (Kd.S_nil _ _ _ _ _) HB.out HB.out.size (by simp) ?_; (case hx => rfl); intro v5 w5 ho hb hg hat; have HB5 := Aside0.mk hb; have HO5 := Aside0.mk ho; clear ho hb hg hat; obtain ⟨g, c, e5, _⟩ := Kd.S_form HO5.out (by simp); subst e5))
  go_ret
  obtain ⟨_, c', e6, hl, hC⟩ := Kd.S_reads HO5.out
  injection e6 with e6 e7 e8
  subst e6 e8
  obtain ⟨c0, c1, c2, c3⟩ := cells0 hC (by simp)
  exact ⟨⟨g, c, rfl, ⟨c0, c1, c2, c3⟩, by simpa using hl⟩, HB5.out⟩
theorem putV_walk (y : Nat) (w : World) :
    Calls Tryz.prog 23 #[.slice none 0 0, .iface 25 (.float .f64 y), .nilFunc] w fun e w' => (∃ g c : Nat, e = .returned (.slice (some ⟨g, 0, none⟩) 1 c) ∧ One w' ⟨g, 0, none⟩ 5 y ⟨#[]⟩ ∧ 1 ≤ c) ∧ Below w.heap.size w w' := by
  have h := put_walk y w
  go_enter Tryz.func23, Tryz.ntmps23
  go_wp2_with (first | (go_at_call 34; refine h.mono ?_; rintro e w' ⟨⟨g, c, rfl, hO⟩, hB⟩; have HB := Aside0.mk hB; have HO := Aside0.mk hO; clear hB hO))
  go_ret
  exact ⟨⟨g, c, rfl, HO.out⟩, HB.out⟩
theorem c7_walk {w : World} {ad : Addr} {cap : Nat} (r : Nat) (h12 : Calls Tryz.prog 12 #[.slice (some ad) 1 cap, .func (.func 13) #[] #[]] w fun e w' => (∃ g c : Nat, e = .returned (.tuple #[.slice (some ⟨g, 0, none⟩) 1 c, .bool true]) ∧ One w' ⟨g, 0, none⟩ 5 r ⟨#[]⟩ ∧ 1 ≤ c) ∧ Below w.heap.size w w') :
    Calls Tryz.prog 7 #[.slice (some ad) 1 cap] w fun e w' => (∃ g c : Nat, e = .returned (.tuple #[.slice (some ⟨g, 0, none⟩) 1 c, .bool true]) ∧ One w' ⟨g, 0, none⟩ 5 r ⟨#[]⟩ ∧ 1 ≤ c) ∧ Below w.heap.size w w' := by
  go_enter Tryz.func7, Tryz.ntmps7
  go_wp2_with (first | (go_at_call 12; refine h12.mono ?_; rintro e w' ⟨⟨g, c, rfl, hO⟩, hB⟩; have HB := Aside0.mk hB; have HO := Aside0.mk hO; clear hB hO))
  go_ret2
  exact ⟨⟨g, c, rfl, HO.out⟩, HB.out⟩
set_option maxHeartbeats 8000000 in
set_option maxRecDepth 100000 in
theorem co_float {w : World} {ad : Addr} {cap : Nat}{x : Nat} (r : Nat) (h22 : Calls Tryz.prog 22 #[.slice (some ad) 1 cap] w fun e w' => e = .returned (.tuple #[.iface 25 (.float .f64 x), .bool true]) ∧ Below w.heap.size w w') (h13 : ∀ w', Calls Tryz.prog 13 #[.iface 25 (.float .f64 x)] w' fun e w'' => e = .returned (.iface 25 (.float .f64 r)) ∧ w'' = w') :
    Calls Tryz.prog 12 #[.slice (some ad) 1 cap, .func (.func 13) #[] #[]] w fun e w' => (∃ g c : Nat, e = .returned (.tuple #[.slice (some ⟨g, 0, none⟩) 1 c, .bool true]) ∧ One w' ⟨g, 0, none⟩ 5 r ⟨#[]⟩ ∧ 1 ≤ c) ∧ Below w.heap.size w w' := by
  have a45 := fun w => ta_ne (P := Tryz.prog) 25 45 (.slice 20) (.slice none 0 0) (by kernel_rfl) rfl (by kernel_rfl) (by decide) (.float .f64 x) 20 w
  have a46 := fun w => ta_ne (P := Tryz.prog) 25 46 (.map 9 20) (.map none) (by kernel_rfl) rfl (by kernel_rfl) (by decide) (.float .f64 x) 20 w
  have a48 := fun w => ta_ne (P := Tryz.prog) 25 48 (.struct #[]) (.agg #[]) (by kernel_rfl) rfl (by kernel_rfl) (by decide) (.float .f64 x) 20 w
  have H13 := Aside0.mk h13
  clear h13
  go_enter Tryz.func12, Tryz.ntmps12
  go_wp2_with (first
    | (go_at_call 22; refine h22.mono ?_; rintro e w2 ⟨rfl, hB⟩; have HB := Aside0.mk hB; clear hB)
    | (go_at_call 13; refine (H13.out _).mono ?_; rintro e w3 ⟨rfl, rfl⟩)
    | (go_at_call 23; refine (putV_walk r _).mono ?_; rintro e w4 ⟨⟨g, c, rfl, hO⟩, hB⟩; have HB4 := Aside0.mk (below_step HB.out hB); have HO := Aside0.mk hO; clear hB hO))
  go_ret2
  exact ⟨⟨g, c, rfl, HO.out⟩, HB4.out⟩
set_option maxHeartbeats 8000000 in
set_option maxRecDepth 100000 in
theorem co_int {w : World} {ad : Addr} {cap : Nat}{m : Int} (r : Nat) (h22 : Calls Tryz.prog 22 #[.slice (some ad) 1 cap] w fun e w' => e = .returned (.tuple #[.iface 3 (.int .i64 m), .bool true]) ∧ Below w.heap.size w w') (h13 : ∀ w', Calls Tryz.prog 13 #[.iface 3 (.int .i64 m)] w' fun e w'' => e = .returned (.iface 25 (.float .f64 r)) ∧ w'' = w') :
    Calls Tryz.prog 12 #[.slice (some ad) 1 cap, .func (.func 13) #[] #[]] w fun e w' => (∃ g c : Nat, e = .returned (.tuple #[.slice (some ⟨g, 0, none⟩) 1 c, .bool true]) ∧ One w' ⟨g, 0, none⟩ 5 r ⟨#[]⟩ ∧ 1 ≤ c) ∧ Below w.heap.size w w' := by
  have a45 := fun w => ta_ne (P := Tryz.prog) 3 45 (.slice 20) (.slice none 0 0) (by kernel_rfl) rfl (by kernel_rfl) (by decide) (.int .i64 m) 20 w
  have a46 := fun w => ta_ne (P := Tryz.prog) 3 46 (.map 9 20) (.map none) (by kernel_rfl) rfl (by kernel_rfl) (by decide) (.int .i64 m) 20 w
  have a48 := fun w => ta_ne (P := Tryz.prog) 3 48 (.struct #[]) (.agg #[]) (by kernel_rfl) rfl (by kernel_rfl) (by decide) (.int .i64 m) 20 w
  have H13 := Aside0.mk h13
  clear h13
  go_enter Tryz.func12, Tryz.ntmps12
  go_wp2_with (first
    | (go_at_call 22; refine h22.mono ?_; rintro e w2 ⟨rfl, hB⟩; have HB := Aside0.mk hB; clear hB)
    | (go_at_call 13; refine (H13.out _).mono ?_; rintro e w3 ⟨rfl, rfl⟩)
    | (go_at_call 23; refine (putV_walk r _).mono ?_; rintro e w4 ⟨⟨g, c, rfl, hO⟩, hB⟩; have HB4 := Aside0.mk (below_step HB.out hB); have HO := Aside0.mk hO; clear hB hO))
  go_ret2
  exact ⟨⟨g, c, rfl, HO.out⟩, HB4.out⟩
set_option maxHeartbeats 8000000 in
set_option maxRecDepth 100000 in
theorem co_bool {w : World} {ad : Addr} {cap : Nat}{b : Bool} (r : Nat) (h22 : Calls Tryz.prog 22 #[.slice (some ad) 1 cap] w fun e w' => e = .returned (.tuple #[.iface 4 (.bool b), .bool true]) ∧ Below w.heap.size w w') (h13 : ∀ w', Calls Tryz.prog 13 #[.iface 4 (.bool b)] w' fun e w'' => e = .returned (.iface 25 (.float .f64 r)) ∧ w'' = w') :
    Calls Tryz.prog 12 #[.slice (some ad) 1 cap, .func (.func 13) #[] #[]] w fun e w' => (∃ g c : Nat, e = .returned (.tuple #[.slice (some ⟨g, 0, none⟩) 1 c, .bool true]) ∧ One w' ⟨g, 0, none⟩ 5 r ⟨#[]⟩ ∧ 1 ≤ c) ∧ Below w.heap.size w w' := by
  have a45 := fun w => ta_ne (P := Tryz.prog) 4 45 (.slice 20) (.slice none 0 0) (by kernel_rfl) rfl (by kernel_rfl) (by decide) (.bool b) 20 w
  have a46 := fun w => ta_ne (P := Tryz.prog) 4 46 (.map 9 20) (.map none) (by kernel_rfl) rfl (by kernel_rfl) (by decide) (.bool b) 20 w
  have a48 := fun w => ta_ne (P := Tryz.prog) 4 48 (.struct #[]) (.agg #[]) (by kernel_rfl) rfl (by kernel_rfl) (by decide) (.bool b) 20 w
  have H13 := Aside0.mk h13
  clear h13
  go_enter Tryz.func12, Tryz.ntmps12
  go_wp2_with (first
    | (go_at_call 22; refine h22.mono ?_; rintro e w2 ⟨rfl, hB⟩; have HB := Aside0.mk hB; clear hB)
    | (go_at_call 13; refine (H13.out _).mono ?_; rintro e w3 ⟨rfl, rfl⟩)
    | (go_at_call 23; refine (putV_walk r _).mono ?_; rintro e w4 ⟨⟨g, c, rfl, hO⟩, hB⟩; have HB4 := Aside0.mk (below_step HB.out hB); have HO := Aside0.mk hO; clear hB hO))
  go_ret2
  exact ⟨⟨g, c, rfl, HO.out⟩, HB4.out⟩
end Go.Proofs.YtbegljkhajagbaaGreatDoor.PFnCoerceFloat
