/- utf8.DecodeRune at this program's numbers: what it hands back of a slice of bytes, in every world that holds Go's two tables. Condition: the tables (Glob). -/
import Derived.Test.YtmlochnckplalaaGreatDoorProg
import Derived.Shelf.Spec.DecodeRune
import Derived.Shelf.Spec.NilArms
import Derived.KernelRfl
namespace Go.Proofs.YtmlochnckplalaaGreatDoor
open Go.RowKit
def decRen : Go.Shelf.Ren := ⟨fun | 32 => 18 | 49 => 22 | n => n, fun | 0 => 0 | 3 => 3 | 4 => 4 | 5 => 5 | 21 => 21 | 25 => 54 | 30 => 48 | 33 => 51 | 66 => 65 | 68 => 67 | 69 => 68 | n => n, fun | 2 => 0 | 3 => 1 | n => n⟩
theorem decLays : Go.Proofs.Lays7.n32 Tryz.prog decRen := {
  mixed := by kernel_rfl
  f32 := Tryz.func18.trans (congrArg some (by kernel_rfl))
  f49 := Tryz.func22.trans (congrArg some (by kernel_rfl))
  t0 := by kernel_rfl
  a0 := fun w => by kernel_rfl
  z0 := fun w => by kernel_rfl
  v0 := fun w => by kernel_rfl
  i0 := by kernel_rfl
  t3 := by kernel_rfl
  a3 := fun w => by kernel_rfl
  z3 := fun w => by kernel_rfl
  v3 := fun w => by kernel_rfl
  i3 := by kernel_rfl
  t4 := by kernel_rfl
  a4 := fun w => by kernel_rfl
  z4 := fun w => by kernel_rfl
  v4 := fun w => by kernel_rfl
  i4 := by kernel_rfl
  t5 := by kernel_rfl
  a5 := fun w => by kernel_rfl
  z5 := fun w => by kernel_rfl
  v5 := fun w => by kernel_rfl
  i5 := by kernel_rfl
  t21 := by kernel_rfl
  a21 := fun w => by kernel_rfl
  z21 := fun w => by kernel_rfl
  v21 := fun w => by kernel_rfl
  i21 := by kernel_rfl
  t25 := by kernel_rfl
  a25 := fun w => by kernel_rfl
  z25 := fun w => by kernel_rfl
  v25 := fun w => by kernel_rfl
  i25 := by kernel_rfl
  t30 := by kernel_rfl
  a30 := fun w => by kernel_rfl
  z30 := fun w => by kernel_rfl
  v30 := fun w => by kernel_rfl
  i30 := by kernel_rfl
  t33 := by kernel_rfl
  a33 := fun w => by kernel_rfl
  z33 := fun w => by kernel_rfl
  v33 := fun w => by kernel_rfl
  i33 := by kernel_rfl
  t66 := by kernel_rfl
  a66 := fun w => by kernel_rfl
  z66 := fun w => by kernel_rfl
  t68 := by kernel_rfl
  a68 := fun w => by kernel_rfl
  z68 := fun w => by kernel_rfl
  v68 := fun w => by kernel_rfl
  i68 := by kernel_rfl
  t69 := by kernel_rfl
  a69 := fun w => by kernel_rfl
  z69 := fun w => by kernel_rfl
  v69 := fun w => by kernel_rfl
  i69 := by kernel_rfl
  g2 := by kernel_rfl
  g3 := by kernel_rfl }
/-- Go's tables of UTF-8 lie in the world as the library's text lays them. -/
def Glob (w : World) : Prop := Go.Lib.Utf8Tabs 0 1 w
theorem decodeRune (s : ByteArray) (b off cap : Nat) (w : World) (hT : Glob w) (hp : ∀ j, j < s.size → w.cell? ⟨b, off + j, none⟩ = some (.int .u8 (s.get! j).toNat)) :
    Calls Tryz.prog 18 #[.slice (some ⟨b, off, none⟩) s.size cap] w fun e w' => e = .returned (.tuple #[.int .i32 (Go.Lib.decodeGo s).1, .int .i64 (Go.Lib.decodeGo s).2]) ∧ Below w.heap.size w w' :=
  Go.Proofs.Any7.utf8_DecodeRune decLays s b off cap w hT hp
end Go.Proofs.YtmlochnckplalaaGreatDoor
