/- FnCoerceFloat: the package's coerceFloat and its doors, walked, of one number or boolean. Condition: such a value in the world. -/
import Derived.Test.YtbegljkhajagbaaGreatDoorMth
import Derived.Test.YtbegljkhajagbaaGreatDoorRow
import Derived.Deep.RegionHeld3
namespace Go.Proofs.YtbegljkhajagbaaGreatDoor.PFnCoerceFloat
open Go.RowKit Go.Proofs.YtbegljkhajagbaaGreatDoorW.PrintWords Go.Proofs.YtbegljkhajagbaaGreatDoorW.PrintLast Go.Proofs.YtbegljkhajagbaaGreatDoorW.PrintMore
set_option linter.unusedVariables false
set_option linter.unusedSimpArgs false
attribute [local go_sem] run_store_float
def plainB : TypeDesc → Bool
  | .interface _ => false
  | _ => true
theorem ta_ne {P : Program} (t a : TypeId) (d : TypeDesc) (z : Value) (hu : P.underlying a = some d) (hp : plainB d = true) (hz : (P.info? a).map (·.zero) = some (some z)) (h : t ≠ a) (v : Value) (xT : TypeId) (w : World) : (Instr.typeAssert (.iface t v) xT a true).run P w = .ok (.tuple #[z, .bool false]) w := by
  obtain ⟨j, hj, hz'⟩ := Option.map_eq_some_iff.1 hz
  cases d <;> first | (cases hp; done) | simp [Instr.typeAssert, run_underlying hu, typeInfo, zeroValue, hj, hz', h]
theorem ta_eq {P : Program} (t : TypeId) (d : TypeDesc) (hu : P.underlying t = some d) (hp : plainB d = true) (v : Value) (xT : TypeId) (w : World) : (Instr.typeAssert (.iface t v) xT t true).run P w = .ok (.tuple #[v, .bool true]) w := by
  cases d <;> first | (cases hp; done) | simp [Instr.typeAssert, run_underlying hu]
set_option maxHeartbeats 4000000 in
set_option maxRecDepth 100000 in
theorem cf_float (x : Nat) (w : World) : Calls Tryz.prog 24 #[.iface 25 (.float .f64 x)] w fun e w' => e = .returned (.iface 25 (.float .f64 x)) ∧ w' = w := by
  have a4 := fun w => ta_ne (P := Tryz.prog) 25 4 (.bool) (.bool false) (by kernel_rfl) rfl (by kernel_rfl) (by decide) (.float .f64 x) 20 w
  have a63 := fun w => ta_ne (P := Tryz.prog) 25 63 (.pointer 4) (.pointer none) (by kernel_rfl) rfl (by kernel_rfl) (by decide) (.float .f64 x) 20 w
  have a3 := fun w => ta_ne (P := Tryz.prog) 25 3 (.int .i64) (.int .i64 0) (by kernel_rfl) rfl (by kernel_rfl) (by decide) (.float .f64 x) 20 w
  have a64 := fun w => ta_ne (P := Tryz.prog) 25 64 (.pointer 3) (.pointer none) (by kernel_rfl) rfl (by kernel_rfl) (by decide) (.float .f64 x) 20 w
  have a65 := fun w => ta_ne (P := Tryz.prog) 25 65 (.int .i8) (.int .i8 0) (by kernel_rfl) rfl (by kernel_rfl) (by decide) (.float .f64 x) 20 w
  have a66 := fun w => ta_ne (P := Tryz.prog) 25 66 (.pointer 65) (.pointer none) (by kernel_rfl) rfl (by kernel_rfl) (by decide) (.float .f64 x) 20 w
  have a67 := fun w => ta_ne (P := Tryz.prog) 25 67 (.int .i16) (.int .i16 0) (by kernel_rfl) rfl (by kernel_rfl) (by decide) (.float .f64 x) 20 w
  have a68 := fun w => ta_ne (P := Tryz.prog) 25 68 (.pointer 67) (.pointer none) (by kernel_rfl) rfl (by kernel_rfl) (by decide) (.float .f64 x) 20 w
  have a21 := fun w => ta_ne (P := Tryz.prog) 25 21 (.int .i32) (.int .i32 0) (by kernel_rfl) rfl (by kernel_rfl) (by decide) (.float .f64 x) 20 w
  have a69 := fun w => ta_ne (P := Tryz.prog) 25 69 (.pointer 21) (.pointer none) (by kernel_rfl) rfl (by kernel_rfl) (by decide) (.float .f64 x) 20 w
  have a2 := fun w => ta_ne (P := Tryz.prog) 25 2 (.int .i64) (.int .i64 0) (by kernel_rfl) rfl (by kernel_rfl) (by decide) (.float .f64 x) 20 w
  have a70 := fun w => ta_ne (P := Tryz.prog) 25 70 (.pointer 2) (.pointer none) (by kernel_rfl) rfl (by kernel_rfl) (by decide) (.float .f64 x) 20 w
  have a71 := fun w => ta_ne (P := Tryz.prog) 25 71 (.int .u64) (.int .u64 0) (by kernel_rfl) rfl (by kernel_rfl) (by decide) (.float .f64 x) 20 w
  have a72 := fun w => ta_ne (P := Tryz.prog) 25 72 (.pointer 71) (.pointer none) (by kernel_rfl) rfl (by kernel_rfl) (by decide) (.float .f64 x) 20 w
  have a5 := fun w => ta_ne (P := Tryz.prog) 25 5 (.int .u8) (.int .u8 0) (by kernel_rfl) rfl (by kernel_rfl) (by decide) (.float .f64 x) 20 w
  have a73 := fun w => ta_ne (P := Tryz.prog) 25 73 (.pointer 5) (.pointer none) (by kernel_rfl) rfl (by kernel_rfl) (by decide) (.float .f64 x) 20 w
  have a74 := fun w => ta_ne (P := Tryz.prog) 25 74 (.int .u16) (.int .u16 0) (by kernel_rfl) rfl (by kernel_rfl) (by decide) (.float .f64 x) 20 w
  have a75 := fun w => ta_ne (P := Tryz.prog) 25 75 (.pointer 74) (.pointer none) (by kernel_rfl) rfl (by kernel_rfl) (by decide) (.float .f64 x) 20 w
  have a76 := fun w => ta_ne (P := Tryz.prog) 25 76 (.int .u32) (.int .u32 0) (by kernel_rfl) rfl (by kernel_rfl) (by decide) (.float .f64 x) 20 w
  have a77 := fun w => ta_ne (P := Tryz.prog) 25 77 (.pointer 76) (.pointer none) (by kernel_rfl) rfl (by kernel_rfl) (by decide) (.float .f64 x) 20 w
  have a54 := fun w => ta_ne (P := Tryz.prog) 25 54 (.int .u64) (.int .u64 0) (by kernel_rfl) rfl (by kernel_rfl) (by decide) (.float .f64 x) 20 w
  have a78 := fun w => ta_ne (P := Tryz.prog) 25 78 (.pointer 54) (.pointer none) (by kernel_rfl) rfl (by kernel_rfl) (by decide) (.float .f64 x) 20 w
  have a79 := fun w => ta_ne (P := Tryz.prog) 25 79 (.float .f32) (.float .f32 0) (by kernel_rfl) rfl (by kernel_rfl) (by decide) (.float .f64 x) 20 w
  have a80 := fun w => ta_ne (P := Tryz.prog) 25 80 (.pointer 79) (.pointer none) (by kernel_rfl) rfl (by kernel_rfl) (by decide) (.float .f64 x) 20 w
  have a25 := fun w => ta_eq (P := Tryz.prog) 25 (.float .f64) (by kernel_rfl) rfl (.float .f64 x) 20 w
  go_enter Tryz.func24, Tryz.ntmps24
  go_wp2
  go_ret
  exact ⟨rfl, rfl⟩
set_option maxHeartbeats 4000000 in
set_option maxRecDepth 100000 in
theorem cf_int (n : Int) (w : World) : Calls Tryz.prog 24 #[.iface 3 (.int .i64 n)] w fun e w' => e = .returned (.iface 25 (.float .f64 (floatOfInt .f64 n))) ∧ w' = w := by
  have a4 := fun w => ta_ne (P := Tryz.prog) 3 4 (.bool) (.bool false) (by kernel_rfl) rfl (by kernel_rfl) (by decide) (.int .i64 n) 20 w
  have a63 := fun w => ta_ne (P := Tryz.prog) 3 63 (.pointer 4) (.pointer none) (by kernel_rfl) rfl (by kernel_rfl) (by decide) (.int .i64 n) 20 w
  have a3 := fun w => ta_eq (P := Tryz.prog) 3 (.int .i64) (by kernel_rfl) rfl (.int .i64 n) 20 w
  go_enter Tryz.func24, Tryz.ntmps24
  go_wp2
  go_ret
  exact ⟨rfl, rfl⟩
set_option maxHeartbeats 4000000 in
set_option maxRecDepth 100000 in
theorem cf_true  (w : World) : Calls Tryz.prog 24 #[.iface 4 (.bool true)] w fun e w' => e = .returned (.iface 25 (.float .f64 4607182418800017408)) ∧ w' = w := by
  have a4 := fun w => ta_eq (P := Tryz.prog) 4 (.bool) (by kernel_rfl) rfl (.bool true) 20 w
  go_enter Tryz.func24, Tryz.ntmps24
  go_wp2
  go_ret
  exact ⟨rfl, rfl⟩
set_option maxHeartbeats 4000000 in
set_option maxRecDepth 100000 in
theorem cf_false  (w : World) : Calls Tryz.prog 24 #[.iface 4 (.bool false)] w fun e w' => e = .returned (.iface 25 (.float .f64 0)) ∧ w' = w := by
  have a4 := fun w => ta_eq (P := Tryz.prog) 4 (.bool) (by kernel_rfl) rfl (.bool false) 20 w
  go_enter Tryz.func24, Tryz.ntmps24
  go_wp2
  go_ret
  exact ⟨rfl, rfl⟩
theorem door_walk (v r : Value) (w : World) (h : Calls Tryz.prog 24 #[v] w fun e w' => e = .returned r ∧ w' = w) : Calls Tryz.prog 13 #[v] w fun e w' => e = .returned r ∧ w' = w := by
  go_enter Tryz.func13, Tryz.ntmps13
  go_wp2_with (first | (go_at_call 24; refine h.mono ?_; rintro e w' ⟨rfl, rfl⟩))
  go_ret
  exact ⟨rfl, rfl⟩
end Go.Proofs.YtbegljkhajagbaaGreatDoor.PFnCoerceFloat
