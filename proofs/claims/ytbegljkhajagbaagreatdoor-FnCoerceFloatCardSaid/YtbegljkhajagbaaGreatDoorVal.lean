/- FnCoerceFloat: values as structs in memory; the library's functions of floats, as the model stands in for them. No condition. -/
import Derived.Test.YtbegljkhajagbaaGreatDoorPFnCoerceFloatx1
import Derived.Laws.Externs
import Derived.Laws.FloatArith
namespace Go.Proofs.YtbegljkhajagbaaGreatDoor.PFnCoerceFloat
open Go.RowKit Go.Proofs.YtbegljkhajagbaaGreatDoorW.PrintWords Go.Proofs.YtbegljkhajagbaaGreatDoorW.PrintLast Go.Proofs.YtbegljkhajagbaaGreatDoorW.PrintMore
set_option linter.unusedVariables false
set_option linter.unusedSimpArgs false
/-- A value's node: kind, number (its bits), text, size. -/
structure V where
  f0 : Int
  f1 : Nat
  f2 : ByteArray
  f3 : Int
def zV : V := ⟨0, 0, ⟨#[]⟩, 0⟩
def kV : Kd V := Kd.iso (Kd.pair (Kd.int .i64) (Kd.pair (Kd.scalar (Value.float .f64) (fun _ => rfl)) (Kd.pair Kd.string (Kd.int .i64)))) (fun x : V => (x.f0, x.f1, x.f2, x.f3))
theorem kV_open {w : World} {x : V} {cs : List Value} (h : kV.K w x cs) : cs = [.int .i64 x.f0, .float .f64 x.f1, .string x.f2, .int .i64 x.f3] := by
  obtain ⟨_, _, rfl, rfl, ⟨_, _, rfl, rfl, ⟨_, _, rfl, rfl, rfl⟩⟩⟩ := h
  exact rfl
theorem kV_mk (w : World) (x : V) : kV.K w x [.int .i64 x.f0, .float .f64 x.f1, .string x.f2, .int .i64 x.f3] := ⟨[.int .i64 x.f0], [.float .f64 x.f1, .string x.f2, .int .i64 x.f3], rfl, rfl, ⟨[.float .f64 x.f1], [.string x.f2, .int .i64 x.f3], rfl, rfl, ⟨[.string x.f2], [.int .i64 x.f3], rfl, rfl, rfl⟩⟩⟩
theorem kV_mkM (w : World) (base : Nat) (ok : Nat → Prop) (x : V) : kV.M w base ok x [.int .i64 x.f0, .float .f64 x.f1, .string x.f2, .int .i64 x.f3] := ⟨[.int .i64 x.f0], [.float .f64 x.f1, .string x.f2, .int .i64 x.f3], rfl, rfl, ⟨[.float .f64 x.f1], [.string x.f2, .int .i64 x.f3], rfl, rfl, ⟨[.string x.f2], [.int .i64 x.f3], rfl, rfl, rfl⟩⟩⟩
/-- The first node of a row. -/
theorem at0 {w : World} {A : Option Addr} {n : Nat} {x : V} {xs : List V} (h : Kd.C kV w A n (x :: xs)) : ∃ ad, A = some ad ∧ w.cell? ad = some (.int .i64 x.f0) ∧ w.cell? ⟨ad.block, ad.off + 1, none⟩ = some (.float .f64 x.f1) ∧ w.cell? ⟨ad.block, ad.off + 2, none⟩ = some (.string x.f2) ∧ w.cell? ⟨ad.block, ad.off + 3, none⟩ = some (.int .i64 x.f3) := by
  have hl := h.1
  obtain ⟨ad, c, e, _, hK, hc0⟩ := Kd.C_get h zV 0 (by omega) (by simp at hl; omega)
  have hc : ∀ j u, c[j]? = some u → w.cell? (ad.add (0 * 4 + j)) = some u := hc0
  obtain rfl := kV_open hK
  exact ⟨ad, e, hc 0 _ rfl, by have := hc 1 _ rfl; rw [add_field _ _ 1 (by omega)] at this; exact this, by have := hc 2 _ rfl; rw [add_field _ _ 2 (by omega)] at this; exact this, by have := hc 3 _ rfl; rw [add_field _ _ 3 (by omega)] at this; exact this⟩
theorem atI {w : World} {A : Option Addr} {n : Nat} {xs : List V} (h : Kd.C kV w A n xs) (i : Int) (h0 : 0 ≤ i) (h1 : i < n) : ∃ ad, A = some ad ∧ w.cell? (ad.add (i.toNat * 4)) = some (.int .i64 (xs.getD i.toNat zV).f0) ∧ w.cell? ⟨(ad.add (i.toNat * 4)).block, (ad.add (i.toNat * 4)).off + 1, none⟩ = some (.float .f64 (xs.getD i.toNat zV).f1) ∧ w.cell? ⟨(ad.add (i.toNat * 4)).block, (ad.add (i.toNat * 4)).off + 2, none⟩ = some (.string (xs.getD i.toNat zV).f2) ∧ w.cell? ⟨(ad.add (i.toNat * 4)).block, (ad.add (i.toNat * 4)).off + 3, none⟩ = some (.int .i64 (xs.getD i.toNat zV).f3) := by
  obtain ⟨ad, c, e, _, hK, hc0⟩ := Kd.C_get h zV i h0 h1
  have hc : ∀ j u, c[j]? = some u → w.cell? (ad.add (i.toNat * 4 + j)) = some u := hc0
  obtain rfl := kV_open hK
  exact ⟨ad, e, hc 0 _ rfl, by rw [← add_field _ _ 1 (by omega)]; exact hc 1 _ rfl, by rw [← add_field _ _ 2 (by omega)]; exact hc 2 _ rfl, by rw [← add_field _ _ 3 (by omega)]; exact hc 3 _ rfl⟩
/-- A float is stored as a number is. -/
theorem run_store_float {P : Program} {w : World} {a : Addr} {m : Mode} (k : FloatKind) (n : Nat) : (store a (.float k n) m).run P w = stored P w a (.float k n) m := run_store P w a _ m rfl
/-! ### the library -/
theorem run_bits (x : Nat) (w : World) : (callFunc 30 #[.float .f64 x]).run Tryz.prog w = .ok (.value (.int .u64 x)) w :=
  (run_callFunc_extern (e := Extern.MathFloatBits.float64bits) Tryz.func30 (by kernel_rfl) (by kernel_rfl) (by kernel_rfl) (by kernel_rfl) _ w).trans rfl
theorem run_frombits (n : Int) (w : World) : (callFunc 29 #[.int .u64 n]).run Tryz.prog w = .ok (.value (.float .f64 n.toNat)) w :=
  (run_callFunc_extern (e := Extern.MathFloatBits.float64frombits) Tryz.func29 (by kernel_rfl) (by kernel_rfl) (by kernel_rfl) (by kernel_rfl) _ w).trans rfl
end Go.Proofs.YtbegljkhajagbaaGreatDoor.PFnCoerceFloat
