/- FnTextWritten: the Go functions that the law reaches as Lean functions, and that the Go code answers what these answer, for every input and in every world that the statements name. Written by this session's program extprint.py over hand-written contracts of some functions. -/
import Derived.Test.YtfblohdfmaankaaGreatDoorPFnTextWrittenx0
import Derived.Test.YtfblohdfmaankaaGreatDoorPFnTextWrittenx1
import Derived.Test.YtfblohdfmaankaaGreatDoorPFnTextWrittenx2
namespace Go.Proofs.YtfblohdfmaankaaGreatDoor.PFnTextWritten
open Go.RowKit Go.Proofs.YtfblohdfmaankaaGreatDoorW.PrintWords Go.Proofs.YtfblohdfmaankaaGreatDoorW.PrintLast Go.Proofs.YtfblohdfmaankaaGreatDoorW.PrintMore
attribute [local go_sem] max2_int min2_int max_two min_two max_three min_three max_four min_four   -- for this text's walks alone
set_option linter.unusedVariables false
set_option linter.unusedSimpArgs false

/-! ### spec_Quote: function 7 -/
mutual
def spec_Quote.l0 : Nat → ByteArray → ByteArray → Int → Option (ByteArray)
  | 0, _, _, _ => none
  | k + 1, x0, x3, x4 => if x4 < (x0.size : Int) then ((spec_Point.f k x0 x4).bind fun bt345 => (if bt345.2 = 0 then (if x3.size + 1 ≤ 9223372036854775807 then (some (x3 ++ (⟨#[34]⟩ : ByteArray))) else (none)) else (if bt345.1 = 34 then (spec_Quote.j1 k x0 x3 x4 bt345.1 bt345.2 true) else (spec_Quote.j1 k x0 x3 x4 bt345.1 bt345.2 (bt345.1 == 92))))) else (if x3.size + 1 ≤ 9223372036854775807 then (some (x3 ++ (⟨#[34]⟩ : ByteArray))) else (none))
def spec_Quote.j1 : Nat → ByteArray → ByteArray → Int → Int → Int → Bool → Option (ByteArray)
  | 0, _, _, _, _, _, _ => none
  | k + 1, x0, x3, x4, x5, x6, x30 => if x30 = true then (if 0 ≤ x4 then (if x4 ≤ (wrap64 (x4 + 1)) then (if (wrap64 (x4 + 1)) ≤ (x0.size : Int) then (if 1 + (x0.extract (x4 : Int).toNat ((wrap64 (x4 + 1)) : Int).toNat).size ≤ 9223372036854775807 then (if x3.size + ((⟨#[92]⟩ : ByteArray) ++ (x0.extract (x4 : Int).toNat ((wrap64 (x4 + 1)) : Int).toNat)).size ≤ 9223372036854775807 then (spec_Quote.l0 k x0 (x3 ++ ((⟨#[92]⟩ : ByteArray) ++ (x0.extract (x4 : Int).toNat ((wrap64 (x4 + 1)) : Int).toNat))) (wrap64 (x4 + x6))) else (none)) else (none)) else (none)) else (none)) else (none)) else (if x5 < 32 then (if 0 ≤ (x5 / 4096) then (if (x5 / 4096) ≤ (wrap64 ((x5 / 4096) + 1)) then (if (wrap64 ((x5 / 4096) + 1)) ≤ 16 then (if 2 + ((⟨#[48, 49, 50, 51, 52, 53, 54, 55, 56, 57, 97, 98, 99, 100, 101, 102]⟩ : ByteArray).extract ((x5 / 4096) : Int).toNat ((wrap64 ((x5 / 4096) + 1)) : Int).toNat).size ≤ 9223372036854775807 then (if 0 ≤ (Go.bits .and .i64 (x5 / 256) 15) then (if (Go.bits .and .i64 (x5 / 256) 15) ≤ (wrap64 ((Go.bits .and .i64 (x5 / 256) 15) + 1)) then (if (wrap64 ((Go.bits .and .i64 (x5 / 256) 15) + 1)) ≤ 16 then (if ((⟨#[92, 117]⟩ : ByteArray) ++ ((⟨#[48, 49, 50, 51, 52, 53, 54, 55, 56, 57, 97, 98, 99, 100, 101, 102]⟩ : ByteArray).extract ((x5 / 4096) : Int).toNat ((wrap64 ((x5 / 4096) + 1)) : Int).toNat)).size + ((⟨#[48, 49, 50, 51, 52, 53, 54, 55, 56, 57, 97, 98, 99, 100, 101, 102]⟩ : ByteArray).extract ((Go.bits .and .i64 (x5 / 256) 15) : Int).toNat ((wrap64 ((Go.bits .and .i64 (x5 / 256) 15) + 1)) : Int).toNat).size ≤ 9223372036854775807 then (if 0 ≤ (Go.bits .and .i64 (x5 / 16) 15) then (if (Go.bits .and .i64 (x5 / 16) 15) ≤ (wrap64 ((Go.bits .and .i64 (x5 / 16) 15) + 1)) then (if (wrap64 ((Go.bits .and .i64 (x5 / 16) 15) + 1)) ≤ 16 then (if (((⟨#[92, 117]⟩ : ByteArray) ++ ((⟨#[48, 49, 50, 51, 52, 53, 54, 55, 56, 57, 97, 98, 99, 100, 101, 102]⟩ : ByteArray).extract ((x5 / 4096) : Int).toNat ((wrap64 ((x5 / 4096) + 1)) : Int).toNat)) ++ ((⟨#[48, 49, 50, 51, 52, 53, 54, 55, 56, 57, 97, 98, 99, 100, 101, 102]⟩ : ByteArray).extract ((Go.bits .and .i64 (x5 / 256) 15) : Int).toNat ((wrap64 ((Go.bits .and .i64 (x5 / 256) 15) + 1)) : Int).toNat)).size + ((⟨#[48, 49, 50, 51, 52, 53, 54, 55, 56, 57, 97, 98, 99, 100, 101, 102]⟩ : ByteArray).extract ((Go.bits .and .i64 (x5 / 16) 15) : Int).toNat ((wrap64 ((Go.bits .and .i64 (x5 / 16) 15) + 1)) : Int).toNat).size ≤ 9223372036854775807 then (if 0 ≤ (Go.bits .and .i64 x5 15) then (if (Go.bits .and .i64 x5 15) ≤ (wrap64 ((Go.bits .and .i64 x5 15) + 1)) then (if (wrap64 ((Go.bits .and .i64 x5 15) + 1)) ≤ 16 then (if ((((⟨#[92, 117]⟩ : ByteArray) ++ ((⟨#[48, 49, 50, 51, 52, 53, 54, 55, 56, 57, 97, 98, 99, 100, 101, 102]⟩ : ByteArray).extract ((x5 / 4096) : Int).toNat ((wrap64 ((x5 / 4096) + 1)) : Int).toNat)) ++ ((⟨#[48, 49, 50, 51, 52, 53, 54, 55, 56, 57, 97, 98, 99, 100, 101, 102]⟩ : ByteArray).extract ((Go.bits .and .i64 (x5 / 256) 15) : Int).toNat ((wrap64 ((Go.bits .and .i64 (x5 / 256) 15) + 1)) : Int).toNat)) ++ ((⟨#[48, 49, 50, 51, 52, 53, 54, 55, 56, 57, 97, 98, 99, 100, 101, 102]⟩ : ByteArray).extract ((Go.bits .and .i64 (x5 / 16) 15) : Int).toNat ((wrap64 ((Go.bits .and .i64 (x5 / 16) 15) + 1)) : Int).toNat)).size + ((⟨#[48, 49, 50, 51, 52, 53, 54, 55, 56, 57, 97, 98, 99, 100, 101, 102]⟩ : ByteArray).extract ((Go.bits .and .i64 x5 15) : Int).toNat ((wrap64 ((Go.bits .and .i64 x5 15) + 1)) : Int).toNat).size ≤ 9223372036854775807 then (if x3.size + (((((⟨#[92, 117]⟩ : ByteArray) ++ ((⟨#[48, 49, 50, 51, 52, 53, 54, 55, 56, 57, 97, 98, 99, 100, 101, 102]⟩ : ByteArray).extract ((x5 / 4096) : Int).toNat ((wrap64 ((x5 / 4096) + 1)) : Int).toNat)) ++ ((⟨#[48, 49, 50, 51, 52, 53, 54, 55, 56, 57, 97, 98, 99, 100, 101, 102]⟩ : ByteArray).extract ((Go.bits .and .i64 (x5 / 256) 15) : Int).toNat ((wrap64 ((Go.bits .and .i64 (x5 / 256) 15) + 1)) : Int).toNat)) ++ ((⟨#[48, 49, 50, 51, 52, 53, 54, 55, 56, 57, 97, 98, 99, 100, 101, 102]⟩ : ByteArray).extract ((Go.bits .and .i64 (x5 / 16) 15) : Int).toNat ((wrap64 ((Go.bits .and .i64 (x5 / 16) 15) + 1)) : Int).toNat)) ++ ((⟨#[48, 49, 50, 51, 52, 53, 54, 55, 56, 57, 97, 98, 99, 100, 101, 102]⟩ : ByteArray).extract ((Go.bits .and .i64 x5 15) : Int).toNat ((wrap64 ((Go.bits .and .i64 x5 15) + 1)) : Int).toNat)).size ≤ 9223372036854775807 then (spec_Quote.l0 k x0 (x3 ++ (((((⟨#[92, 117]⟩ : ByteArray) ++ ((⟨#[48, 49, 50, 51, 52, 53, 54, 55, 56, 57, 97, 98, 99, 100, 101, 102]⟩ : ByteArray).extract ((x5 / 4096) : Int).toNat ((wrap64 ((x5 / 4096) + 1)) : Int).toNat)) ++ ((⟨#[48, 49, 50, 51, 52, 53, 54, 55, 56, 57, 97, 98, 99, 100, 101, 102]⟩ : ByteArray).extract ((Go.bits .and .i64 (x5 / 256) 15) : Int).toNat ((wrap64 ((Go.bits .and .i64 (x5 / 256) 15) + 1)) : Int).toNat)) ++ ((⟨#[48, 49, 50, 51, 52, 53, 54, 55, 56, 57, 97, 98, 99, 100, 101, 102]⟩ : ByteArray).extract ((Go.bits .and .i64 (x5 / 16) 15) : Int).toNat ((wrap64 ((Go.bits .and .i64 (x5 / 16) 15) + 1)) : Int).toNat)) ++ ((⟨#[48, 49, 50, 51, 52, 53, 54, 55, 56, 57, 97, 98, 99, 100, 101, 102]⟩ : ByteArray).extract ((Go.bits .and .i64 x5 15) : Int).toNat ((wrap64 ((Go.bits .and .i64 x5 15) + 1)) : Int).toNat))) (wrap64 (x4 + x6))) else (none)) else (none)) else (none)) else (none)) else (none)) else (none)) else (none)) else (none)) else (none)) else (none)) else (none)) else (none)) else (none)) else (none)) else (none)) else (none)) else (none)) else (if x5 = 127 then (if 0 ≤ (x5 / 4096) then (if (x5 / 4096) ≤ (wrap64 ((x5 / 4096) + 1)) then (if (wrap64 ((x5 / 4096) + 1)) ≤ 16 then (if 2 + ((⟨#[48, 49, 50, 51, 52, 53, 54, 55, 56, 57, 97, 98, 99, 100, 101, 102]⟩ : ByteArray).extract ((x5 / 4096) : Int).toNat ((wrap64 ((x5 / 4096) + 1)) : Int).toNat).size ≤ 9223372036854775807 then (if 0 ≤ (Go.bits .and .i64 (x5 / 256) 15) then (if (Go.bits .and .i64 (x5 / 256) 15) ≤ (wrap64 ((Go.bits .and .i64 (x5 / 256) 15) + 1)) then (if (wrap64 ((Go.bits .and .i64 (x5 / 256) 15) + 1)) ≤ 16 then (if ((⟨#[92, 117]⟩ : ByteArray) ++ ((⟨#[48, 49, 50, 51, 52, 53, 54, 55, 56, 57, 97, 98, 99, 100, 101, 102]⟩ : ByteArray).extract ((x5 / 4096) : Int).toNat ((wrap64 ((x5 / 4096) + 1)) : Int).toNat)).size + ((⟨#[48, 49, 50, 51, 52, 53, 54, 55, 56, 57, 97, 98, 99, 100, 101, 102]⟩ : ByteArray).extract ((Go.bits .and .i64 (x5 / 256) 15) : Int).toNat ((wrap64 ((Go.bits .and .i64 (x5 / 256) 15) + 1)) : Int).toNat).size ≤ 9223372036854775807 then (if 0 ≤ (Go.bits .and .i64 (x5 / 16) 15) then (if (Go.bits .and .i64 (x5 / 16) 15) ≤ (wrap64 ((Go.bits .and .i64 (x5 / 16) 15) + 1)) then (if (wrap64 ((Go.bits .and .i64 (x5 / 16) 15) + 1)) ≤ 16 then (if (((⟨#[92, 117]⟩ : ByteArray) ++ ((⟨#[48, 49, 50, 51, 52, 53, 54, 55, 56, 57, 97, 98, 99, 100, 101, 102]⟩ : ByteArray).extract ((x5 / 4096) : Int).toNat ((wrap64 ((x5 / 4096) + 1)) : Int).toNat)) ++ ((⟨#[48, 49, 50, 51, 52, 53, 54, 55, 56, 57, 97, 98, 99, 100, 101, 102]⟩ : ByteArray).extract ((Go.bits .and .i64 (x5 / 256) 15) : Int).toNat ((wrap64 ((Go.bits .and .i64 (x5 / 256) 15) + 1)) : Int).toNat)).size + ((⟨#[48, 49, 50, 51, 52, 53, 54, 55, 56, 57, 97, 98, 99, 100, 101, 102]⟩ : ByteArray).extract ((Go.bits .and .i64 (x5 / 16) 15) : Int).toNat ((wrap64 ((Go.bits .and .i64 (x5 / 16) 15) + 1)) : Int).toNat).size ≤ 9223372036854775807 then (if 0 ≤ (Go.bits .and .i64 x5 15) then (if (Go.bits .and .i64 x5 15) ≤ (wrap64 ((Go.bits .and .i64 x5 15) + 1)) then (if (wrap64 ((Go.bits .and .i64 x5 15) + 1)) ≤ 16 then (if ((((⟨#[92, 117]⟩ : ByteArray) ++ ((⟨#[48, 49, 50, 51, 52, 53, 54, 55, 56, 57, 97, 98, 99, 100, 101, 102]⟩ : ByteArray).extract ((x5 / 4096) : Int).toNat ((wrap64 ((x5 / 4096) + 1)) : Int).toNat)) ++ ((⟨#[48, 49, 50, 51, 52, 53, 54, 55, 56, 57, 97, 98, 99, 100, 101, 102]⟩ : ByteArray).extract ((Go.bits .and .i64 (x5 / 256) 15) : Int).toNat ((wrap64 ((Go.bits .and .i64 (x5 / 256) 15) + 1)) : Int).toNat)) ++ ((⟨#[48, 49, 50, 51, 52, 53, 54, 55, 56, 57, 97, 98, 99, 100, 101, 102]⟩ : ByteArray).extract ((Go.bits .and .i64 (x5 / 16) 15) : Int).toNat ((wrap64 ((Go.bits .and .i64 (x5 / 16) 15) + 1)) : Int).toNat)).size + ((⟨#[48, 49, 50, 51, 52, 53, 54, 55, 56, 57, 97, 98, 99, 100, 101, 102]⟩ : ByteArray).extract ((Go.bits .and .i64 x5 15) : Int).toNat ((wrap64 ((Go.bits .and .i64 x5 15) + 1)) : Int).toNat).size ≤ 9223372036854775807 then (if x3.size + (((((⟨#[92, 117]⟩ : ByteArray) ++ ((⟨#[48, 49, 50, 51, 52, 53, 54, 55, 56, 57, 97, 98, 99, 100, 101, 102]⟩ : ByteArray).extract ((x5 / 4096) : Int).toNat ((wrap64 ((x5 / 4096) + 1)) : Int).toNat)) ++ ((⟨#[48, 49, 50, 51, 52, 53, 54, 55, 56, 57, 97, 98, 99, 100, 101, 102]⟩ : ByteArray).extract ((Go.bits .and .i64 (x5 / 256) 15) : Int).toNat ((wrap64 ((Go.bits .and .i64 (x5 / 256) 15) + 1)) : Int).toNat)) ++ ((⟨#[48, 49, 50, 51, 52, 53, 54, 55, 56, 57, 97, 98, 99, 100, 101, 102]⟩ : ByteArray).extract ((Go.bits .and .i64 (x5 / 16) 15) : Int).toNat ((wrap64 ((Go.bits .and .i64 (x5 / 16) 15) + 1)) : Int).toNat)) ++ ((⟨#[48, 49, 50, 51, 52, 53, 54, 55, 56, 57, 97, 98, 99, 100, 101, 102]⟩ : ByteArray).extract ((Go.bits .and .i64 x5 15) : Int).toNat ((wrap64 ((Go.bits .and .i64 x5 15) + 1)) : Int).toNat)).size ≤ 9223372036854775807 then (spec_Quote.l0 k x0 (x3 ++ (((((⟨#[92, 117]⟩ : ByteArray) ++ ((⟨#[48, 49, 50, 51, 52, 53, 54, 55, 56, 57, 97, 98, 99, 100, 101, 102]⟩ : ByteArray).extract ((x5 / 4096) : Int).toNat ((wrap64 ((x5 / 4096) + 1)) : Int).toNat)) ++ ((⟨#[48, 49, 50, 51, 52, 53, 54, 55, 56, 57, 97, 98, 99, 100, 101, 102]⟩ : ByteArray).extract ((Go.bits .and .i64 (x5 / 256) 15) : Int).toNat ((wrap64 ((Go.bits .and .i64 (x5 / 256) 15) + 1)) : Int).toNat)) ++ ((⟨#[48, 49, 50, 51, 52, 53, 54, 55, 56, 57, 97, 98, 99, 100, 101, 102]⟩ : ByteArray).extract ((Go.bits .and .i64 (x5 / 16) 15) : Int).toNat ((wrap64 ((Go.bits .and .i64 (x5 / 16) 15) + 1)) : Int).toNat)) ++ ((⟨#[48, 49, 50, 51, 52, 53, 54, 55, 56, 57, 97, 98, 99, 100, 101, 102]⟩ : ByteArray).extract ((Go.bits .and .i64 x5 15) : Int).toNat ((wrap64 ((Go.bits .and .i64 x5 15) + 1)) : Int).toNat))) (wrap64 (x4 + x6))) else (none)) else (none)) else (none)) else (none)) else (none)) else (none)) else (none)) else (none)) else (none)) else (none)) else (none)) else (none)) else (none)) else (none)) else (none)) else (none)) else (none)) else (if x5 = 65279 then (if 0 ≤ (x5 / 4096) then (if (x5 / 4096) ≤ (wrap64 ((x5 / 4096) + 1)) then (if (wrap64 ((x5 / 4096) + 1)) ≤ 16 then (if 2 + ((⟨#[48, 49, 50, 51, 52, 53, 54, 55, 56, 57, 97, 98, 99, 100, 101, 102]⟩ : ByteArray).extract ((x5 / 4096) : Int).toNat ((wrap64 ((x5 / 4096) + 1)) : Int).toNat).size ≤ 9223372036854775807 then (if 0 ≤ (Go.bits .and .i64 (x5 / 256) 15) then (if (Go.bits .and .i64 (x5 / 256) 15) ≤ (wrap64 ((Go.bits .and .i64 (x5 / 256) 15) + 1)) then (if (wrap64 ((Go.bits .and .i64 (x5 / 256) 15) + 1)) ≤ 16 then (if ((⟨#[92, 117]⟩ : ByteArray) ++ ((⟨#[48, 49, 50, 51, 52, 53, 54, 55, 56, 57, 97, 98, 99, 100, 101, 102]⟩ : ByteArray).extract ((x5 / 4096) : Int).toNat ((wrap64 ((x5 / 4096) + 1)) : Int).toNat)).size + ((⟨#[48, 49, 50, 51, 52, 53, 54, 55, 56, 57, 97, 98, 99, 100, 101, 102]⟩ : ByteArray).extract ((Go.bits .and .i64 (x5 / 256) 15) : Int).toNat ((wrap64 ((Go.bits .and .i64 (x5 / 256) 15) + 1)) : Int).toNat).size ≤ 9223372036854775807 then (if 0 ≤ (Go.bits .and .i64 (x5 / 16) 15) then (if (Go.bits .and .i64 (x5 / 16) 15) ≤ (wrap64 ((Go.bits .and .i64 (x5 / 16) 15) + 1)) then (if (wrap64 ((Go.bits .and .i64 (x5 / 16) 15) + 1)) ≤ 16 then (if (((⟨#[92, 117]⟩ : ByteArray) ++ ((⟨#[48, 49, 50, 51, 52, 53, 54, 55, 56, 57, 97, 98, 99, 100, 101, 102]⟩ : ByteArray).extract ((x5 / 4096) : Int).toNat ((wrap64 ((x5 / 4096) + 1)) : Int).toNat)) ++ ((⟨#[48, 49, 50, 51, 52, 53, 54, 55, 56, 57, 97, 98, 99, 100, 101, 102]⟩ : ByteArray).extract ((Go.bits .and .i64 (x5 / 256) 15) : Int).toNat ((wrap64 ((Go.bits .and .i64 (x5 / 256) 15) + 1)) : Int).toNat)).size + ((⟨#[48, 49, 50, 51, 52, 53, 54, 55, 56, 57, 97, 98, 99, 100, 101, 102]⟩ : ByteArray).extract ((Go.bits .and .i64 (x5 / 16) 15) : Int).toNat ((wrap64 ((Go.bits .and .i64 (x5 / 16) 15) + 1)) : Int).toNat).size ≤ 9223372036854775807 then (if 0 ≤ (Go.bits .and .i64 x5 15) then (if (Go.bits .and .i64 x5 15) ≤ (wrap64 ((Go.bits .and .i64 x5 15) + 1)) then (if (wrap64 ((Go.bits .and .i64 x5 15) + 1)) ≤ 16 then (if ((((⟨#[92, 117]⟩ : ByteArray) ++ ((⟨#[48, 49, 50, 51, 52, 53, 54, 55, 56, 57, 97, 98, 99, 100, 101, 102]⟩ : ByteArray).extract ((x5 / 4096) : Int).toNat ((wrap64 ((x5 / 4096) + 1)) : Int).toNat)) ++ ((⟨#[48, 49, 50, 51, 52, 53, 54, 55, 56, 57, 97, 98, 99, 100, 101, 102]⟩ : ByteArray).extract ((Go.bits .and .i64 (x5 / 256) 15) : Int).toNat ((wrap64 ((Go.bits .and .i64 (x5 / 256) 15) + 1)) : Int).toNat)) ++ ((⟨#[48, 49, 50, 51, 52, 53, 54, 55, 56, 57, 97, 98, 99, 100, 101, 102]⟩ : ByteArray).extract ((Go.bits .and .i64 (x5 / 16) 15) : Int).toNat ((wrap64 ((Go.bits .and .i64 (x5 / 16) 15) + 1)) : Int).toNat)).size + ((⟨#[48, 49, 50, 51, 52, 53, 54, 55, 56, 57, 97, 98, 99, 100, 101, 102]⟩ : ByteArray).extract ((Go.bits .and .i64 x5 15) : Int).toNat ((wrap64 ((Go.bits .and .i64 x5 15) + 1)) : Int).toNat).size ≤ 9223372036854775807 then (if x3.size + (((((⟨#[92, 117]⟩ : ByteArray) ++ ((⟨#[48, 49, 50, 51, 52, 53, 54, 55, 56, 57, 97, 98, 99, 100, 101, 102]⟩ : ByteArray).extract ((x5 / 4096) : Int).toNat ((wrap64 ((x5 / 4096) + 1)) : Int).toNat)) ++ ((⟨#[48, 49, 50, 51, 52, 53, 54, 55, 56, 57, 97, 98, 99, 100, 101, 102]⟩ : ByteArray).extract ((Go.bits .and .i64 (x5 / 256) 15) : Int).toNat ((wrap64 ((Go.bits .and .i64 (x5 / 256) 15) + 1)) : Int).toNat)) ++ ((⟨#[48, 49, 50, 51, 52, 53, 54, 55, 56, 57, 97, 98, 99, 100, 101, 102]⟩ : ByteArray).extract ((Go.bits .and .i64 (x5 / 16) 15) : Int).toNat ((wrap64 ((Go.bits .and .i64 (x5 / 16) 15) + 1)) : Int).toNat)) ++ ((⟨#[48, 49, 50, 51, 52, 53, 54, 55, 56, 57, 97, 98, 99, 100, 101, 102]⟩ : ByteArray).extract ((Go.bits .and .i64 x5 15) : Int).toNat ((wrap64 ((Go.bits .and .i64 x5 15) + 1)) : Int).toNat)).size ≤ 9223372036854775807 then (spec_Quote.l0 k x0 (x3 ++ (((((⟨#[92, 117]⟩ : ByteArray) ++ ((⟨#[48, 49, 50, 51, 52, 53, 54, 55, 56, 57, 97, 98, 99, 100, 101, 102]⟩ : ByteArray).extract ((x5 / 4096) : Int).toNat ((wrap64 ((x5 / 4096) + 1)) : Int).toNat)) ++ ((⟨#[48, 49, 50, 51, 52, 53, 54, 55, 56, 57, 97, 98, 99, 100, 101, 102]⟩ : ByteArray).extract ((Go.bits .and .i64 (x5 / 256) 15) : Int).toNat ((wrap64 ((Go.bits .and .i64 (x5 / 256) 15) + 1)) : Int).toNat)) ++ ((⟨#[48, 49, 50, 51, 52, 53, 54, 55, 56, 57, 97, 98, 99, 100, 101, 102]⟩ : ByteArray).extract ((Go.bits .and .i64 (x5 / 16) 15) : Int).toNat ((wrap64 ((Go.bits .and .i64 (x5 / 16) 15) + 1)) : Int).toNat)) ++ ((⟨#[48, 49, 50, 51, 52, 53, 54, 55, 56, 57, 97, 98, 99, 100, 101, 102]⟩ : ByteArray).extract ((Go.bits .and .i64 x5 15) : Int).toNat ((wrap64 ((Go.bits .and .i64 x5 15) + 1)) : Int).toNat))) (wrap64 (x4 + x6))) else (none)) else (none)) else (none)) else (none)) else (none)) else (none)) else (none)) else (none)) else (none)) else (none)) else (none)) else (none)) else (none)) else (none)) else (none)) else (none)) else (none)) else (if 0 ≤ x4 then (if x4 ≤ (wrap64 (x4 + x6)) then (if (wrap64 (x4 + x6)) ≤ (x0.size : Int) then (if x3.size + (x0.extract (x4 : Int).toNat ((wrap64 (x4 + x6)) : Int).toNat).size ≤ 9223372036854775807 then (spec_Quote.l0 k x0 (x3 ++ (x0.extract (x4 : Int).toNat ((wrap64 (x4 + x6)) : Int).toNat)) (wrap64 (x4 + x6))) else (none)) else (none)) else (none)) else (none)))))
end
def spec_Quote.f (k : Nat) (a0 : ByteArray) : Option (ByteArray) := spec_Quote.l0 k a0 (⟨#[34]⟩ : ByteArray) 0
theorem spec_Quote.mono_l : ∀ k, (∀ y0 y1 y2, LeO (spec_Quote.l0 k y0 y1 y2) (spec_Quote.l0 (k + 1) y0 y1 y2)) ∧ (∀ y0 y1 y2 y3 y4 y5, LeO (spec_Quote.j1 k y0 y1 y2 y3 y4 y5) (spec_Quote.j1 (k + 1) y0 y1 y2 y3 y4 y5))
  | 0 => ⟨fun _ _ _ r h => by simp [spec_Quote.l0] at h, fun _ _ _ _ _ _ r h => by simp [spec_Quote.j1] at h⟩
  | k + 1 => by
    obtain ⟨ih0, ih1⟩ := spec_Quote.mono_l k
    refine ⟨?_, ?_⟩
    · intro y0 y1 y2
      unfold spec_Quote.l0
      repeat' first
      | (with_reducible exact ih0 _ _ _)
      | (with_reducible exact ih1 _ _ _ _ _ _)
      | (with_reducible exact spec_Point.mono _ _ _)
      | (with_reducible exact LeO.refl _)
      | (with_reducible exact LeO.none _)
      | (with_reducible refine LeO.ite ?_ ?_)
      | (with_reducible refine LeO.bind ?_ (fun _ => ?_))
      | exact ih0 _ _ _
      | exact ih1 _ _ _ _ _ _
      | exact spec_Point.mono _ _ _
      | exact LeO.none _
      | refine LeO.ite ?_ ?_
      | refine LeO.bind ?_ (fun _ => ?_)
    · intro y0 y1 y2 y3 y4 y5
      unfold spec_Quote.j1
      repeat' first
      | (with_reducible exact ih0 _ _ _)
      | (with_reducible exact ih1 _ _ _ _ _ _)
      | (with_reducible exact spec_Point.mono _ _ _)
      | (with_reducible exact LeO.refl _)
      | (with_reducible exact LeO.none _)
      | (with_reducible refine LeO.ite ?_ ?_)
      | (with_reducible refine LeO.bind ?_ (fun _ => ?_))
      | exact ih0 _ _ _
      | exact ih1 _ _ _ _ _ _
      | exact spec_Point.mono _ _ _
      | exact LeO.none _
      | refine LeO.ite ?_ ?_
      | refine LeO.bind ?_ (fun _ => ?_)
theorem spec_Quote.mono : ∀ a0 k, LeO (spec_Quote.f k a0) (spec_Quote.f (k + 1) a0) := by
  intro a0 k
  obtain ⟨ih0, ih1⟩ := spec_Quote.mono_l k
  unfold spec_Quote.f
  repeat' first
      | (with_reducible exact ih0 _ _ _)
      | (with_reducible exact ih1 _ _ _ _ _ _)
      | (with_reducible exact spec_Point.mono _ _ _)
      | (with_reducible exact LeO.refl _)
      | (with_reducible exact LeO.none _)
      | (with_reducible refine LeO.ite ?_ ?_)
      | (with_reducible refine LeO.bind ?_ (fun _ => ?_))
      | exact ih0 _ _ _
      | exact ih1 _ _ _ _ _ _
      | exact spec_Point.mono _ _ _
      | exact LeO.none _
      | refine LeO.ite ?_ ?_
      | refine LeO.bind ?_ (fun _ => ?_)
set_option maxHeartbeats 8000000 in
set_option maxRecDepth 100000 in
theorem spec_Quote.calls (k : Nat) (a0 : ByteArray) (r : ByteArray) (w : World) (h : spec_Quote.f k a0 = some r) :
    Calls Tryz.prog 7 #[.string a0] w fun e w' => e = .returned (.string r) ∧ Drawn0 w w' := by
  have H : (spec_Quote.l0 k a0 (⟨#[34]⟩ : ByteArray) 0) = some r := h
  clear h
  have H' := Aside0.mk H
  clear H
  go_enter Tryz.func7, Tryz.ntmps7
  go_wp2
  repeat (go_quiet (fail); try go_wp2)
  go_loopg [3, 4] k (fun kq v3 v4 w' => ∃ (x3_1 : ByteArray) (x4_1 : Int), v3 = .string x3_1 ∧ v4 = .int .i64 x4_1 ∧ Aside0 (spec_Quote.l0 kq a0 x3_1 x4_1 = some r) ∧ Aside0 (kq ≤ k) ∧ Drawn0 w w')
  case atStart => exact ⟨((⟨#[34]⟩ : ByteArray)), (0), (by first | rfl | (simp; done) | (simp [*]; done)), (by first | rfl | (simp; done) | (simp [*]; done)), H', ⟨Nat.le_refl _⟩, by repeat (first | exact Drawn0.refl _ | apply Drawn0.step)⟩
  case round =>
    clear H'
    obtain ⟨x3_1, x4_1, rfl, rfl, HA, HK1, ⟨m1, rfl⟩⟩ := hrel
    cases gk with
    | zero => exact absurd HA.out (by simp [spec_Quote.l0])
    | succ k1 =>
      have H := HA.out
      clear HA
      simp only [spec_Quote.l0] at H
      by_cases c2 : x4_1 < (a0.size : Int)
      · rw [if_pos c2] at H
        have c2b0 : decide (x4_1 < (a0.size : Int)) = true := decide_eq_true c2
        clear c2
        replace H := Option.bind_eq_some_iff.mp H
        obtain ⟨⟨t345, t346⟩, A30, H⟩ := H
        replace H : (if t346 = 0 then (if x3_1.size + 1 ≤ 9223372036854775807 then (some (x3_1 ++ (⟨#[34]⟩ : ByteArray))) else (none)) else (if t345 = 34 then (spec_Quote.j1 k1 a0 x3_1 x4_1 t345 t346 true) else (spec_Quote.j1 k1 a0 x3_1 x4_1 t345 t346 (t345 == 92)))) = some r := H
        have A3 := Aside0.mk A30
        clear A30
        by_cases c4 : t346 = 0
        · rw [if_pos c4] at H
          have c4b0 : (t346 == 0) = true := beq_iff_eq.mpr c4
          have c4b1 : (t346 != 0) = false := bne_eq_false_iff_eq.mpr c4
          clear c4
          by_cases c5 : x3_1.size + 1 ≤ 9223372036854775807
          · rw [if_pos c5] at H
            have c5b0 := eq_true c5
            try (have c5s := c5; simp only [ByteArray.size_append, ByteArray.size_extract] at c5s)
            have c5b1 : decide (x3_1.size + 1 ≤ 9223372036854775807) = true := decide_eq_true c5
            try have c5b2 : (9223372036854775807 < x3_1.size + 1) = False := eq_false (Nat.not_lt.2 c5)
            obtain rfl := Option.some.inj H
            go_wp2_with (first | (go_at_call 14; (with_reducible refine (spec_Point.calls k1 a0 x4_1 t345 t346 _ A3.out).mono ?_); rintro e w' ⟨rfl, ⟨nd, rfl⟩⟩; (try first | exact ⟨rfl, _, World.drewN_drewN _ _ _⟩ | exact ⟨rfl, _, Eq.trans (World.drewN_drewN _ _ _) (congrArg (World.drewN _) (Nat.add_assoc _ _ _))⟩)))
            repeat (go_quiet (first | (go_at_call 14; (with_reducible refine (spec_Point.calls k1 a0 x4_1 t345 t346 _ A3.out).mono ?_); rintro e w' ⟨rfl, ⟨nd, rfl⟩⟩; (try first | exact ⟨rfl, _, World.drewN_drewN _ _ _⟩ | exact ⟨rfl, _, Eq.trans (World.drewN_drewN _ _ _) (congrArg (World.drewN _) (Nat.add_assoc _ _ _))⟩))); try go_wp2_with (first | (go_at_call 14; (with_reducible refine (spec_Point.calls k1 a0 x4_1 t345 t346 _ A3.out).mono ?_); rintro e w' ⟨rfl, ⟨nd, rfl⟩⟩; (try first | exact ⟨rfl, _, World.drewN_drewN _ _ _⟩ | exact ⟨rfl, _, Eq.trans (World.drewN_drewN _ _ _) (congrArg (World.drewN _) (Nat.add_assoc _ _ _))⟩))))
            go_ret
            exact ⟨by first | rfl | (simp; done) | (simp [*]; done), by repeat (first | exact Drawn0.refl _ | apply Drawn0.step)⟩
          · rw [if_neg c5] at H
            exact absurd H (by simp)
        · rw [if_neg c4] at H
          have c4b0 : (t346 == 0) = false := beq_eq_false_iff_ne.mpr c4
          have c4b1 : (t346 != 0) = true := bne_iff_ne.mpr c4
          have HC6 := Aside0.mk H
          clear H
          go_upto_region 8 with (first | (go_at_call 14; (with_reducible refine (spec_Point.calls k1 a0 x4_1 t345 t346 _ A3.out).mono ?_); rintro e w' ⟨rfl, ⟨nd, rfl⟩⟩; (try first | exact ⟨rfl, _, World.drewN_drewN _ _ _⟩ | exact ⟨rfl, _, Eq.trans (World.drewN_drewN _ _ _) (congrArg (World.drewN _) (Nat.add_assoc _ _ _))⟩)))
          repeat (go_quiet (first | (go_at_call 14; (with_reducible refine (spec_Point.calls k1 a0 x4_1 t345 t346 _ A3.out).mono ?_); rintro e w' ⟨rfl, ⟨nd, rfl⟩⟩; (try first | exact ⟨rfl, _, World.drewN_drewN _ _ _⟩ | exact ⟨rfl, _, Eq.trans (World.drewN_drewN _ _ _) (congrArg (World.drewN _) (Nat.add_assoc _ _ _))⟩))); go_upto_region 8 with (first | (go_at_call 14; (with_reducible refine (spec_Point.calls k1 a0 x4_1 t345 t346 _ A3.out).mono ?_); rintro e w' ⟨rfl, ⟨nd, rfl⟩⟩; (try first | exact ⟨rfl, _, World.drewN_drewN _ _ _⟩ | exact ⟨rfl, _, Eq.trans (World.drewN_drewN _ _ _) (congrArg (World.drewN _) (Nat.add_assoc _ _ _))⟩))))
          (try simp only [Act.put, List.setIfInBounds_toArray, List.set_cons_zero, List.set_cons_succ])
          go_cut [30] (fun v30 wc => ∃ (kq : Nat) (x30_5 : Bool), v30 = .bool x30_5 ∧ Aside0 (spec_Quote.j1 kq a0 x3_1 x4_1 t345 t346 x30_5 = some r) ∧ Aside0 (kq ≤ k1) ∧ Drawn0 w wc)
          case first =>
            have H := HC6.out
            clear HC6
            by_cases c7 : t345 = 34
            · rw [if_pos c7] at H
              have c7b0 : (t345 == 34) = true := beq_iff_eq.mpr c7
              have c7b1 : (t345 != 34) = false := bne_eq_false_iff_eq.mpr c7
              clear c7
              (first | rw [c7b0] | (simp only [i64_w, i32_w]; rw [c7b0]) | skip)
              have H' := Aside0.mk H
              clear H
              go_wp2
              repeat (go_quiet (fail); try go_wp2)
              go_meet
              case rel => exact ⟨_, (true), (by first | rfl | (simp; done) | (simp [*]; done)), H', ⟨by have := HK1.out; first | omega | exact Nat.le_refl _⟩, by repeat (first | exact Drawn0.refl _ | apply Drawn0.step)⟩
            · rw [if_neg c7] at H
              have c7b0 : (t345 == 34) = false := beq_eq_false_iff_ne.mpr c7
              have c7b1 : (t345 != 34) = true := bne_iff_ne.mpr c7
              (first | rw [c7b0] | (simp only [i64_w, i32_w]; rw [c7b0]) | skip)
              have H' := Aside0.mk H
              clear H
              go_wp2
              repeat (go_quiet (fail); try go_wp2)
              go_meet
              case rel => exact ⟨_, ((t345 == 92)), (by first | rfl | (simp; done) | (simp [*]; done)), H', ⟨by have := HK1.out; first | omega | exact Nat.le_refl _⟩, by repeat (first | exact Drawn0.refl _ | apply Drawn0.step)⟩
          case rest =>
            clear HC6
            try clear c2
            try clear c2b0
            try clear p2
            try clear c4
            try clear c4b0
            try clear c4b1
            try clear c5
            try clear c5b0
            try clear c5b1
            try clear c5b2
            try clear c7
            try clear c7b0
            try clear c7b1
            obtain ⟨kq, x30_5, rfl, HA, HJ5, ⟨mc5, rfl⟩⟩ := hcut
            cases kq with
            | zero => exact absurd HA.out (by simp [spec_Quote.j1])
            | succ kj5 =>
              have H := HA.out
              clear HA
              simp only [spec_Quote.j1] at H
              by_cases c8 : x30_5 = true
              · subst c8
                have H1 : (if 0 ≤ x4_1 then (if x4_1 ≤ (wrap64 (x4_1 + 1)) then (if (wrap64 (x4_1 + 1)) ≤ (a0.size : Int) then (if 1 + (a0.extract (x4_1 : Int).toNat ((wrap64 (x4_1 + 1)) : Int).toNat).size ≤ 9223372036854775807 then (if x3_1.size + ((⟨#[92]⟩ : ByteArray) ++ (a0.extract (x4_1 : Int).toNat ((wrap64 (x4_1 + 1)) : Int).toNat)).size ≤ 9223372036854775807 then (spec_Quote.l0 kj5 a0 (x3_1 ++ ((⟨#[92]⟩ : ByteArray) ++ (a0.extract (x4_1 : Int).toNat ((wrap64 (x4_1 + 1)) : Int).toNat))) (wrap64 (x4_1 + t346))) else (none)) else (none)) else (none)) else (none)) else (none)) = some r := by rw [if_pos rfl] at H; exact H
                clear H
                have H := H1
                clear H1
                by_cases c9 : 0 ≤ x4_1
                · rw [if_pos c9] at H
                  have c9b0 := eq_true c9
                  try (have c9s := c9; simp only [ByteArray.size_append, ByteArray.size_extract] at c9s)
                  have c9b1 : decide (0 ≤ x4_1) = true := decide_eq_true c9
                  clear c9
                  by_cases c10 : x4_1 ≤ (wrap64 (x4_1 + 1))
                  · rw [if_pos c10] at H
                    have c10b0 := eq_true c10
                    try (have c10s := c10; simp only [ByteArray.size_append, ByteArray.size_extract] at c10s)
                    have c10b1 : decide (x4_1 ≤ (wrap64 (x4_1 + 1))) = true := decide_eq_true c10
                    by_cases c11 : (wrap64 (x4_1 + 1)) ≤ (a0.size : Int)
                    · rw [if_pos c11] at H
                      have c11b0 := eq_true c11
                      try (have c11s := c11; simp only [ByteArray.size_append, ByteArray.size_extract] at c11s)
                      have c11b1 : decide ((wrap64 (x4_1 + 1)) ≤ (a0.size : Int)) = true := decide_eq_true c11
                      by_cases c12 : 1 + (a0.extract (x4_1 : Int).toNat ((wrap64 (x4_1 + 1)) : Int).toNat).size ≤ 9223372036854775807
                      · rw [if_pos c12] at H
                        have c12b0 := eq_true c12
                        try (have c12s := c12; simp only [ByteArray.size_append, ByteArray.size_extract] at c12s)
                        have c12b1 : decide (1 + (a0.extract (x4_1 : Int).toNat ((wrap64 (x4_1 + 1)) : Int).toNat).size ≤ 9223372036854775807) = true := decide_eq_true c12
                        try have c12b2 : (9223372036854775807 < 1 + (a0.extract (x4_1 : Int).toNat ((wrap64 (x4_1 + 1)) : Int).toNat).size) = False := eq_false (Nat.not_lt.2 c12)
                        by_cases c13 : x3_1.size + ((⟨#[92]⟩ : ByteArray) ++ (a0.extract (x4_1 : Int).toNat ((wrap64 (x4_1 + 1)) : Int).toNat)).size ≤ 9223372036854775807
                        · rw [if_pos c13] at H
                          have c13b0 := eq_true c13
                          try (have c13s := c13; simp only [ByteArray.size_append, ByteArray.size_extract] at c13s)
                          have c13b1 : decide (x3_1.size + ((⟨#[92]⟩ : ByteArray) ++ (a0.extract (x4_1 : Int).toNat ((wrap64 (x4_1 + 1)) : Int).toNat)).size ≤ 9223372036854775807) = true := decide_eq_true c13
                          try have c13b2 : (9223372036854775807 < x3_1.size + ((⟨#[92]⟩ : ByteArray) ++ (a0.extract (x4_1 : Int).toNat ((wrap64 (x4_1 + 1)) : Int).toNat)).size) = False := eq_false (Nat.not_lt.2 c13)
                          have H' := Aside0.mk H
                          clear H
                          go_wp2
                          repeat (go_quiet (fail); try go_wp2)
                          go_roundg kj5
                          case measure => have := HK1.out; have := HJ5.out; omega
                          case rel => exact ⟨(x3_1 ++ ((⟨#[92]⟩ : ByteArray) ++ (a0.extract (x4_1 : Int).toNat ((wrap64 (x4_1 + 1)) : Int).toNat))), (wrap64 (x4_1 + t346)), (by first | rfl | (simp; done) | (simp [*]; done)), (by first | rfl | (simp; done) | (simp [*]; done)), H', ⟨by have := HK1.out; have := HJ5.out; omega⟩, by repeat (first | exact Drawn0.refl _ | apply Drawn0.step)⟩
                        · rw [if_neg c13] at H
                          exact absurd H (by simp)
                      · rw [if_neg c12] at H
                        exact absurd H (by simp)
                    · rw [if_neg c11] at H
                      exact absurd H (by simp)
                  · rw [if_neg c10] at H
                    exact absurd H (by simp)
                · rw [if_neg c9] at H
                  exact absurd H (by simp)
              · replace c8 := Bool.eq_false_iff.mpr c8
                subst c8
                have H1 : (if t345 < 32 then (if 0 ≤ (t345 / 4096) then (if (t345 / 4096) ≤ (wrap64 ((t345 / 4096) + 1)) then (if (wrap64 ((t345 / 4096) + 1)) ≤ 16 then (if 2 + ((⟨#[48, 49, 50, 51, 52, 53, 54, 55, 56, 57, 97, 98, 99, 100, 101, 102]⟩ : ByteArray).extract ((t345 / 4096) : Int).toNat ((wrap64 ((t345 / 4096) + 1)) : Int).toNat).size ≤ 9223372036854775807 then (if 0 ≤ (Go.bits .and .i64 (t345 / 256) 15) then (if (Go.bits .and .i64 (t345 / 256) 15) ≤ (wrap64 ((Go.bits .and .i64 (t345 / 256) 15) + 1)) then (if (wrap64 ((Go.bits .and .i64 (t345 / 256) 15) + 1)) ≤ 16 then (if ((⟨#[92, 117]⟩ : ByteArray) ++ ((⟨#[48, 49, 50, 51, 52, 53, 54, 55, 56, 57, 97, 98, 99, 100, 101, 102]⟩ : ByteArray).extract ((t345 / 4096) : Int).toNat ((wrap64 ((t345 / 4096) + 1)) : Int).toNat)).size + ((⟨#[48, 49, 50, 51, 52, 53, 54, 55, 56, 57, 97, 98, 99, 100, 101, 102]⟩ : ByteArray).extract ((Go.bits .and .i64 (t345 / 256) 15) : Int).toNat ((wrap64 ((Go.bits .and .i64 (t345 / 256) 15) + 1)) : Int).toNat).size ≤ 9223372036854775807 then (if 0 ≤ (Go.bits .and .i64 (t345 / 16) 15) then (if (Go.bits .and .i64 (t345 / 16) 15) ≤ (wrap64 ((Go.bits .and .i64 (t345 / 16) 15) + 1)) then (if (wrap64 ((Go.bits .and .i64 (t345 / 16) 15) + 1)) ≤ 16 then (if (((⟨#[92, 117]⟩ : ByteArray) ++ ((⟨#[48, 49, 50, 51, 52, 53, 54, 55, 56, 57, 97, 98, 99, 100, 101, 102]⟩ : ByteArray).extract ((t345 / 4096) : Int).toNat ((wrap64 ((t345 / 4096) + 1)) : Int).toNat)) ++ ((⟨#[48, 49, 50, 51, 52, 53, 54, 55, 56, 57, 97, 98, 99, 100, 101, 102]⟩ : ByteArray).extract ((Go.bits .and .i64 (t345 / 256) 15) : Int).toNat ((wrap64 ((Go.bits .and .i64 (t345 / 256) 15) + 1)) : Int).toNat)).size + ((⟨#[48, 49, 50, 51, 52, 53, 54, 55, 56, 57, 97, 98, 99, 100, 101, 102]⟩ : ByteArray).extract ((Go.bits .and .i64 (t345 / 16) 15) : Int).toNat ((wrap64 ((Go.bits .and .i64 (t345 / 16) 15) + 1)) : Int).toNat).size ≤ 9223372036854775807 then (if 0 ≤ (Go.bits .and .i64 t345 15) then (if (Go.bits .and .i64 t345 15) ≤ (wrap64 ((Go.bits .and .i64 t345 15) + 1)) then (if (wrap64 ((Go.bits .and .i64 t345 15) + 1)) ≤ 16 then (if ((((⟨#[92, 117]⟩ : ByteArray) ++ ((⟨#[48, 49, 50, 51, 52, 53, 54, 55, 56, 57, 97, 98, 99, 100, 101, 102]⟩ : ByteArray).extract ((t345 / 4096) : Int).toNat ((wrap64 ((t345 / 4096) + 1)) : Int).toNat)) ++ ((⟨#[48, 49, 50, 51, 52, 53, 54, 55, 56, 57, 97, 98, 99, 100, 101, 102]⟩ : ByteArray).extract ((Go.bits .and .i64 (t345 / 256) 15) : Int).toNat ((wrap64 ((Go.bits .and .i64 (t345 / 256) 15) + 1)) : Int).toNat)) ++ ((⟨#[48, 49, 50, 51, 52, 53, 54, 55, 56, 57, 97, 98, 99, 100, 101, 102]⟩ : ByteArray).extract ((Go.bits .and .i64 (t345 / 16) 15) : Int).toNat ((wrap64 ((Go.bits .and .i64 (t345 / 16) 15) + 1)) : Int).toNat)).size + ((⟨#[48, 49, 50, 51, 52, 53, 54, 55, 56, 57, 97, 98, 99, 100, 101, 102]⟩ : ByteArray).extract ((Go.bits .and .i64 t345 15) : Int).toNat ((wrap64 ((Go.bits .and .i64 t345 15) + 1)) : Int).toNat).size ≤ 9223372036854775807 then (if x3_1.size + (((((⟨#[92, 117]⟩ : ByteArray) ++ ((⟨#[48, 49, 50, 51, 52, 53, 54, 55, 56, 57, 97, 98, 99, 100, 101, 102]⟩ : ByteArray).extract ((t345 / 4096) : Int).toNat ((wrap64 ((t345 / 4096) + 1)) : Int).toNat)) ++ ((⟨#[48, 49, 50, 51, 52, 53, 54, 55, 56, 57, 97, 98, 99, 100, 101, 102]⟩ : ByteArray).extract ((Go.bits .and .i64 (t345 / 256) 15) : Int).toNat ((wrap64 ((Go.bits .and .i64 (t345 / 256) 15) + 1)) : Int).toNat)) ++ ((⟨#[48, 49, 50, 51, 52, 53, 54, 55, 56, 57, 97, 98, 99, 100, 101, 102]⟩ : ByteArray).extract ((Go.bits .and .i64 (t345 / 16) 15) : Int).toNat ((wrap64 ((Go.bits .and .i64 (t345 / 16) 15) + 1)) : Int).toNat)) ++ ((⟨#[48, 49, 50, 51, 52, 53, 54, 55, 56, 57, 97, 98, 99, 100, 101, 102]⟩ : ByteArray).extract ((Go.bits .and .i64 t345 15) : Int).toNat ((wrap64 ((Go.bits .and .i64 t345 15) + 1)) : Int).toNat)).size ≤ 9223372036854775807 then (spec_Quote.l0 kj5 a0 (x3_1 ++ (((((⟨#[92, 117]⟩ : ByteArray) ++ ((⟨#[48, 49, 50, 51, 52, 53, 54, 55, 56, 57, 97, 98, 99, 100, 101, 102]⟩ : ByteArray).extract ((t345 / 4096) : Int).toNat ((wrap64 ((t345 / 4096) + 1)) : Int).toNat)) ++ ((⟨#[48, 49, 50, 51, 52, 53, 54, 55, 56, 57, 97, 98, 99, 100, 101, 102]⟩ : ByteArray).extract ((Go.bits .and .i64 (t345 / 256) 15) : Int).toNat ((wrap64 ((Go.bits .and .i64 (t345 / 256) 15) + 1)) : Int).toNat)) ++ ((⟨#[48, 49, 50, 51, 52, 53, 54, 55, 56, 57, 97, 98, 99, 100, 101, 102]⟩ : ByteArray).extract ((Go.bits .and .i64 (t345 / 16) 15) : Int).toNat ((wrap64 ((Go.bits .and .i64 (t345 / 16) 15) + 1)) : Int).toNat)) ++ ((⟨#[48, 49, 50, 51, 52, 53, 54, 55, 56, 57, 97, 98, 99, 100, 101, 102]⟩ : ByteArray).extract ((Go.bits .and .i64 t345 15) : Int).toNat ((wrap64 ((Go.bits .and .i64 t345 15) + 1)) : Int).toNat))) (wrap64 (x4_1 + t346))) else (none)) else (none)) else (none)) else (none)) else (none)) else (none)) else (none)) else (none)) else (none)) else (none)) else (none)) else (none)) else (none)) else (none)) else (none)) else (none)) else (none)) else (if t345 = 127 then (if 0 ≤ (t345 / 4096) then (if (t345 / 4096) ≤ (wrap64 ((t345 / 4096) + 1)) then (if (wrap64 ((t345 / 4096) + 1)) ≤ 16 then (if 2 + ((⟨#[48, 49, 50, 51, 52, 53, 54, 55, 56, 57, 97, 98, 99, 100, 101, 102]⟩ : ByteArray).extract ((t345 / 4096) : Int).toNat ((wrap64 ((t345 / 4096) + 1)) : Int).toNat).size ≤ 9223372036854775807 then (if 0 ≤ (Go.bits .and .i64 (t345 / 256) 15) then (if (Go.bits .and .i64 (t345 / 256) 15) ≤ (wrap64 ((Go.bits .and .i64 (t345 / 256) 15) + 1)) then (if (wrap64 ((Go.bits .and .i64 (t345 / 256) 15) + 1)) ≤ 16 then (if ((⟨#[92, 117]⟩ : ByteArray) ++ ((⟨#[48, 49, 50, 51, 52, 53, 54, 55, 56, 57, 97, 98, 99, 100, 101, 102]⟩ : ByteArray).extract ((t345 / 4096) : Int).toNat ((wrap64 ((t345 / 4096) + 1)) : Int).toNat)).size + ((⟨#[48, 49, 50, 51, 52, 53, 54, 55, 56, 57, 97, 98, 99, 100, 101, 102]⟩ : ByteArray).extract ((Go.bits .and .i64 (t345 / 256) 15) : Int).toNat ((wrap64 ((Go.bits .and .i64 (t345 / 256) 15) + 1)) : Int).toNat).size ≤ 9223372036854775807 then (if 0 ≤ (Go.bits .and .i64 (t345 / 16) 15) then (if (Go.bits .and .i64 (t345 / 16) 15) ≤ (wrap64 ((Go.bits .and .i64 (t345 / 16) 15) + 1)) then (if (wrap64 ((Go.bits .and .i64 (t345 / 16) 15) + 1)) ≤ 16 then (if (((⟨#[92, 117]⟩ : ByteArray) ++ ((⟨#[48, 49, 50, 51, 52, 53, 54, 55, 56, 57, 97, 98, 99, 100, 101, 102]⟩ : ByteArray).extract ((t345 / 4096) : Int).toNat ((wrap64 ((t345 / 4096) + 1)) : Int).toNat)) ++ ((⟨#[48, 49, 50, 51, 52, 53, 54, 55, 56, 57, 97, 98, 99, 100, 101, 102]⟩ : ByteArray).extract ((Go.bits .and .i64 (t345 / 256) 15) : Int).toNat ((wrap64 ((Go.bits .and .i64 (t345 / 256) 15) + 1)) : Int).toNat)).size + ((⟨#[48, 49, 50, 51, 52, 53, 54, 55, 56, 57, 97, 98, 99, 100, 101, 102]⟩ : ByteArray).extract ((Go.bits .and .i64 (t345 / 16) 15) : Int).toNat ((wrap64 ((Go.bits .and .i64 (t345 / 16) 15) + 1)) : Int).toNat).size ≤ 9223372036854775807 then (if 0 ≤ (Go.bits .and .i64 t345 15) then (if (Go.bits .and .i64 t345 15) ≤ (wrap64 ((Go.bits .and .i64 t345 15) + 1)) then (if (wrap64 ((Go.bits .and .i64 t345 15) + 1)) ≤ 16 then (if ((((⟨#[92, 117]⟩ : ByteArray) ++ ((⟨#[48, 49, 50, 51, 52, 53, 54, 55, 56, 57, 97, 98, 99, 100, 101, 102]⟩ : ByteArray).extract ((t345 / 4096) : Int).toNat ((wrap64 ((t345 / 4096) + 1)) : Int).toNat)) ++ ((⟨#[48, 49, 50, 51, 52, 53, 54, 55, 56, 57, 97, 98, 99, 100, 101, 102]⟩ : ByteArray).extract ((Go.bits .and .i64 (t345 / 256) 15) : Int).toNat ((wrap64 ((Go.bits .and .i64 (t345 / 256) 15) + 1)) : Int).toNat)) ++ ((⟨#[48, 49, 50, 51, 52, 53, 54, 55, 56, 57, 97, 98, 99, 100, 101, 102]⟩ : ByteArray).extract ((Go.bits .and .i64 (t345 / 16) 15) : Int).toNat ((wrap64 ((Go.bits .and .i64 (t345 / 16) 15) + 1)) : Int).toNat)).size + ((⟨#[48, 49, 50, 51, 52, 53, 54, 55, 56, 57, 97, 98, 99, 100, 101, 102]⟩ : ByteArray).extract ((Go.bits .and .i64 t345 15) : Int).toNat ((wrap64 ((Go.bits .and .i64 t345 15) + 1)) : Int).toNat).size ≤ 9223372036854775807 then (if x3_1.size + (((((⟨#[92, 117]⟩ : ByteArray) ++ ((⟨#[48, 49, 50, 51, 52, 53, 54, 55, 56, 57, 97, 98, 99, 100, 101, 102]⟩ : ByteArray).extract ((t345 / 4096) : Int).toNat ((wrap64 ((t345 / 4096) + 1)) : Int).toNat)) ++ ((⟨#[48, 49, 50, 51, 52, 53, 54, 55, 56, 57, 97, 98, 99, 100, 101, 102]⟩ : ByteArray).extract ((Go.bits .and .i64 (t345 / 256) 15) : Int).toNat ((wrap64 ((Go.bits .and .i64 (t345 / 256) 15) + 1)) : Int).toNat)) ++ ((⟨#[48, 49, 50, 51, 52, 53, 54, 55, 56, 57, 97, 98, 99, 100, 101, 102]⟩ : ByteArray).extract ((Go.bits .and .i64 (t345 / 16) 15) : Int).toNat ((wrap64 ((Go.bits .and .i64 (t345 / 16) 15) + 1)) : Int).toNat)) ++ ((⟨#[48, 49, 50, 51, 52, 53, 54, 55, 56, 57, 97, 98, 99, 100, 101, 102]⟩ : ByteArray).extract ((Go.bits .and .i64 t345 15) : Int).toNat ((wrap64 ((Go.bits .and .i64 t345 15) + 1)) : Int).toNat)).size ≤ 9223372036854775807 then (spec_Quote.l0 kj5 a0 (x3_1 ++ (((((⟨#[92, 117]⟩ : ByteArray) ++ ((⟨#[48, 49, 50, 51, 52, 53, 54, 55, 56, 57, 97, 98, 99, 100, 101, 102]⟩ : ByteArray).extract ((t345 / 4096) : Int).toNat ((wrap64 ((t345 / 4096) + 1)) : Int).toNat)) ++ ((⟨#[48, 49, 50, 51, 52, 53, 54, 55, 56, 57, 97, 98, 99, 100, 101, 102]⟩ : ByteArray).extract ((Go.bits .and .i64 (t345 / 256) 15) : Int).toNat ((wrap64 ((Go.bits .and .i64 (t345 / 256) 15) + 1)) : Int).toNat)) ++ ((⟨#[48, 49, 50, 51, 52, 53, 54, 55, 56, 57, 97, 98, 99, 100, 101, 102]⟩ : ByteArray).extract ((Go.bits .and .i64 (t345 / 16) 15) : Int).toNat ((wrap64 ((Go.bits .and .i64 (t345 / 16) 15) + 1)) : Int).toNat)) ++ ((⟨#[48, 49, 50, 51, 52, 53, 54, 55, 56, 57, 97, 98, 99, 100, 101, 102]⟩ : ByteArray).extract ((Go.bits .and .i64 t345 15) : Int).toNat ((wrap64 ((Go.bits .and .i64 t345 15) + 1)) : Int).toNat))) (wrap64 (x4_1 + t346))) else (none)) else (none)) else (none)) else (none)) else (none)) else (none)) else (none)) else (none)) else (none)) else (none)) else (none)) else (none)) else (none)) else (none)) else (none)) else (none)) else (none)) else (if t345 = 65279 then (if 0 ≤ (t345 / 4096) then (if (t345 / 4096) ≤ (wrap64 ((t345 / 4096) + 1)) then (if (wrap64 ((t345 / 4096) + 1)) ≤ 16 then (if 2 + ((⟨#[48, 49, 50, 51, 52, 53, 54, 55, 56, 57, 97, 98, 99, 100, 101, 102]⟩ : ByteArray).extract ((t345 / 4096) : Int).toNat ((wrap64 ((t345 / 4096) + 1)) : Int).toNat).size ≤ 9223372036854775807 then (if 0 ≤ (Go.bits .and .i64 (t345 / 256) 15) then (if (Go.bits .and .i64 (t345 / 256) 15) ≤ (wrap64 ((Go.bits .and .i64 (t345 / 256) 15) + 1)) then (if (wrap64 ((Go.bits .and .i64 (t345 / 256) 15) + 1)) ≤ 16 then (if ((⟨#[92, 117]⟩ : ByteArray) ++ ((⟨#[48, 49, 50, 51, 52, 53, 54, 55, 56, 57, 97, 98, 99, 100, 101, 102]⟩ : ByteArray).extract ((t345 / 4096) : Int).toNat ((wrap64 ((t345 / 4096) + 1)) : Int).toNat)).size + ((⟨#[48, 49, 50, 51, 52, 53, 54, 55, 56, 57, 97, 98, 99, 100, 101, 102]⟩ : ByteArray).extract ((Go.bits .and .i64 (t345 / 256) 15) : Int).toNat ((wrap64 ((Go.bits .and .i64 (t345 / 256) 15) + 1)) : Int).toNat).size ≤ 9223372036854775807 then (if 0 ≤ (Go.bits .and .i64 (t345 / 16) 15) then (if (Go.bits .and .i64 (t345 / 16) 15) ≤ (wrap64 ((Go.bits .and .i64 (t345 / 16) 15) + 1)) then (if (wrap64 ((Go.bits .and .i64 (t345 / 16) 15) + 1)) ≤ 16 then (if (((⟨#[92, 117]⟩ : ByteArray) ++ ((⟨#[48, 49, 50, 51, 52, 53, 54, 55, 56, 57, 97, 98, 99, 100, 101, 102]⟩ : ByteArray).extract ((t345 / 4096) : Int).toNat ((wrap64 ((t345 / 4096) + 1)) : Int).toNat)) ++ ((⟨#[48, 49, 50, 51, 52, 53, 54, 55, 56, 57, 97, 98, 99, 100, 101, 102]⟩ : ByteArray).extract ((Go.bits .and .i64 (t345 / 256) 15) : Int).toNat ((wrap64 ((Go.bits .and .i64 (t345 / 256) 15) + 1)) : Int).toNat)).size + ((⟨#[48, 49, 50, 51, 52, 53, 54, 55, 56, 57, 97, 98, 99, 100, 101, 102]⟩ : ByteArray).extract ((Go.bits .and .i64 (t345 / 16) 15) : Int).toNat ((wrap64 ((Go.bits .and .i64 (t345 / 16) 15) + 1)) : Int).toNat).size ≤ 9223372036854775807 then (if 0 ≤ (Go.bits .and .i64 t345 15) then (if (Go.bits .and .i64 t345 15) ≤ (wrap64 ((Go.bits .and .i64 t345 15) + 1)) then (if (wrap64 ((Go.bits .and .i64 t345 15) + 1)) ≤ 16 then (if ((((⟨#[92, 117]⟩ : ByteArray) ++ ((⟨#[48, 49, 50, 51, 52, 53, 54, 55, 56, 57, 97, 98, 99, 100, 101, 102]⟩ : ByteArray).extract ((t345 / 4096) : Int).toNat ((wrap64 ((t345 / 4096) + 1)) : Int).toNat)) ++ ((⟨#[48, 49, 50, 51, 52, 53, 54, 55, 56, 57, 97, 98, 99, 100, 101, 102]⟩ : ByteArray).extract ((Go.bits .and .i64 (t345 / 256) 15) : Int).toNat ((wrap64 ((Go.bits .and .i64 (t345 / 256) 15) + 1)) : Int).toNat)) ++ ((⟨#[48, 49, 50, 51, 52, 53, 54, 55, 56, 57, 97, 98, 99, 100, 101, 102]⟩ : ByteArray).extract ((Go.bits .and .i64 (t345 / 16) 15) : Int).toNat ((wrap64 ((Go.bits .and .i64 (t345 / 16) 15) + 1)) : Int).toNat)).size + ((⟨#[48, 49, 50, 51, 52, 53, 54, 55, 56, 57, 97, 98, 99, 100, 101, 102]⟩ : ByteArray).extract ((Go.bits .and .i64 t345 15) : Int).toNat ((wrap64 ((Go.bits .and .i64 t345 15) + 1)) : Int).toNat).size ≤ 9223372036854775807 then (if x3_1.size + (((((⟨#[92, 117]⟩ : ByteArray) ++ ((⟨#[48, 49, 50, 51, 52, 53, 54, 55, 56, 57, 97, 98, 99, 100, 101, 102]⟩ : ByteArray).extract ((t345 / 4096) : Int).toNat ((wrap64 ((t345 / 4096) + 1)) : Int).toNat)) ++ ((⟨#[48, 49, 50, 51, 52, 53, 54, 55, 56, 57, 97, 98, 99, 100, 101, 102]⟩ : ByteArray).extract ((Go.bits .and .i64 (t345 / 256) 15) : Int).toNat ((wrap64 ((Go.bits .and .i64 (t345 / 256) 15) + 1)) : Int).toNat)) ++ ((⟨#[48, 49, 50, 51, 52, 53, 54, 55, 56, 57, 97, 98, 99, 100, 101, 102]⟩ : ByteArray).extract ((Go.bits .and .i64 (t345 / 16) 15) : Int).toNat ((wrap64 ((Go.bits .and .i64 (t345 / 16) 15) + 1)) : Int).toNat)) ++ ((⟨#[48, 49, 50, 51, 52, 53, 54, 55, 56, 57, 97, 98, 99, 100, 101, 102]⟩ : ByteArray).extract ((Go.bits .and .i64 t345 15) : Int).toNat ((wrap64 ((Go.bits .and .i64 t345 15) + 1)) : Int).toNat)).size ≤ 9223372036854775807 then (spec_Quote.l0 kj5 a0 (x3_1 ++ (((((⟨#[92, 117]⟩ : ByteArray) ++ ((⟨#[48, 49, 50, 51, 52, 53, 54, 55, 56, 57, 97, 98, 99, 100, 101, 102]⟩ : ByteArray).extract ((t345 / 4096) : Int).toNat ((wrap64 ((t345 / 4096) + 1)) : Int).toNat)) ++ ((⟨#[48, 49, 50, 51, 52, 53, 54, 55, 56, 57, 97, 98, 99, 100, 101, 102]⟩ : ByteArray).extract ((Go.bits .and .i64 (t345 / 256) 15) : Int).toNat ((wrap64 ((Go.bits .and .i64 (t345 / 256) 15) + 1)) : Int).toNat)) ++ ((⟨#[48, 49, 50, 51, 52, 53, 54, 55, 56, 57, 97, 98, 99, 100, 101, 102]⟩ : ByteArray).extract ((Go.bits .and .i64 (t345 / 16) 15) : Int).toNat ((wrap64 ((Go.bits .and .i64 (t345 / 16) 15) + 1)) : Int).toNat)) ++ ((⟨#[48, 49, 50, 51, 52, 53, 54, 55, 56, 57, 97, 98, 99, 100, 101, 102]⟩ : ByteArray).extract ((Go.bits .and .i64 t345 15) : Int).toNat ((wrap64 ((Go.bits .and .i64 t345 15) + 1)) : Int).toNat))) (wrap64 (x4_1 + t346))) else (none)) else (none)) else (none)) else (none)) else (none)) else (none)) else (none)) else (none)) else (none)) else (none)) else (none)) else (none)) else (none)) else (none)) else (none)) else (none)) else (none)) else (if 0 ≤ x4_1 then (if x4_1 ≤ (wrap64 (x4_1 + t346)) then (if (wrap64 (x4_1 + t346)) ≤ (a0.size : Int) then (if x3_1.size + (a0.extract (x4_1 : Int).toNat ((wrap64 (x4_1 + t346)) : Int).toNat).size ≤ 9223372036854775807 then (spec_Quote.l0 kj5 a0 (x3_1 ++ (a0.extract (x4_1 : Int).toNat ((wrap64 (x4_1 + t346)) : Int).toNat)) (wrap64 (x4_1 + t346))) else (none)) else (none)) else (none)) else (none))))) = some r := by rw [if_neg (show ¬ (false = true) by decide)] at H; exact H
                clear H
                have H := H1
                clear H1
                by_cases c14 : t345 < 32
                · rw [if_pos c14] at H
                  have c14b0 : decide (t345 < 32) = true := decide_eq_true c14
                  clear c14
                  obtain ⟨ji15, hji15⟩ : ∃ j_ : Int, (t345 / 4096) = j_ := ⟨_, rfl⟩
                  replace H : (if 0 ≤ (ji15) then (if (ji15) ≤ (wrap64 ((ji15) + 1)) then (if (wrap64 ((ji15) + 1)) ≤ 16 then (if 2 + ((⟨#[48, 49, 50, 51, 52, 53, 54, 55, 56, 57, 97, 98, 99, 100, 101, 102]⟩ : ByteArray).extract ((ji15) : Int).toNat ((wrap64 ((ji15) + 1)) : Int).toNat).size ≤ 9223372036854775807 then (if 0 ≤ (Go.bits .and .i64 (t345 / 256) 15) then (if (Go.bits .and .i64 (t345 / 256) 15) ≤ (wrap64 ((Go.bits .and .i64 (t345 / 256) 15) + 1)) then (if (wrap64 ((Go.bits .and .i64 (t345 / 256) 15) + 1)) ≤ 16 then (if ((⟨#[92, 117]⟩ : ByteArray) ++ ((⟨#[48, 49, 50, 51, 52, 53, 54, 55, 56, 57, 97, 98, 99, 100, 101, 102]⟩ : ByteArray).extract ((ji15) : Int).toNat ((wrap64 ((ji15) + 1)) : Int).toNat)).size + ((⟨#[48, 49, 50, 51, 52, 53, 54, 55, 56, 57, 97, 98, 99, 100, 101, 102]⟩ : ByteArray).extract ((Go.bits .and .i64 (t345 / 256) 15) : Int).toNat ((wrap64 ((Go.bits .and .i64 (t345 / 256) 15) + 1)) : Int).toNat).size ≤ 9223372036854775807 then (if 0 ≤ (Go.bits .and .i64 (t345 / 16) 15) then (if (Go.bits .and .i64 (t345 / 16) 15) ≤ (wrap64 ((Go.bits .and .i64 (t345 / 16) 15) + 1)) then (if (wrap64 ((Go.bits .and .i64 (t345 / 16) 15) + 1)) ≤ 16 then (if (((⟨#[92, 117]⟩ : ByteArray) ++ ((⟨#[48, 49, 50, 51, 52, 53, 54, 55, 56, 57, 97, 98, 99, 100, 101, 102]⟩ : ByteArray).extract ((ji15) : Int).toNat ((wrap64 ((ji15) + 1)) : Int).toNat)) ++ ((⟨#[48, 49, 50, 51, 52, 53, 54, 55, 56, 57, 97, 98, 99, 100, 101, 102]⟩ : ByteArray).extract ((Go.bits .and .i64 (t345 / 256) 15) : Int).toNat ((wrap64 ((Go.bits .and .i64 (t345 / 256) 15) + 1)) : Int).toNat)).size + ((⟨#[48, 49, 50, 51, 52, 53, 54, 55, 56, 57, 97, 98, 99, 100, 101, 102]⟩ : ByteArray).extract ((Go.bits .and .i64 (t345 / 16) 15) : Int).toNat ((wrap64 ((Go.bits .and .i64 (t345 / 16) 15) + 1)) : Int).toNat).size ≤ 9223372036854775807 then (if 0 ≤ (Go.bits .and .i64 t345 15) then (if (Go.bits .and .i64 t345 15) ≤ (wrap64 ((Go.bits .and .i64 t345 15) + 1)) then (if (wrap64 ((Go.bits .and .i64 t345 15) + 1)) ≤ 16 then (if ((((⟨#[92, 117]⟩ : ByteArray) ++ ((⟨#[48, 49, 50, 51, 52, 53, 54, 55, 56, 57, 97, 98, 99, 100, 101, 102]⟩ : ByteArray).extract ((ji15) : Int).toNat ((wrap64 ((ji15) + 1)) : Int).toNat)) ++ ((⟨#[48, 49, 50, 51, 52, 53, 54, 55, 56, 57, 97, 98, 99, 100, 101, 102]⟩ : ByteArray).extract ((Go.bits .and .i64 (t345 / 256) 15) : Int).toNat ((wrap64 ((Go.bits .and .i64 (t345 / 256) 15) + 1)) : Int).toNat)) ++ ((⟨#[48, 49, 50, 51, 52, 53, 54, 55, 56, 57, 97, 98, 99, 100, 101, 102]⟩ : ByteArray).extract ((Go.bits .and .i64 (t345 / 16) 15) : Int).toNat ((wrap64 ((Go.bits .and .i64 (t345 / 16) 15) + 1)) : Int).toNat)).size + ((⟨#[48, 49, 50, 51, 52, 53, 54, 55, 56, 57, 97, 98, 99, 100, 101, 102]⟩ : ByteArray).extract ((Go.bits .and .i64 t345 15) : Int).toNat ((wrap64 ((Go.bits .and .i64 t345 15) + 1)) : Int).toNat).size ≤ 9223372036854775807 then (if x3_1.size + (((((⟨#[92, 117]⟩ : ByteArray) ++ ((⟨#[48, 49, 50, 51, 52, 53, 54, 55, 56, 57, 97, 98, 99, 100, 101, 102]⟩ : ByteArray).extract ((ji15) : Int).toNat ((wrap64 ((ji15) + 1)) : Int).toNat)) ++ ((⟨#[48, 49, 50, 51, 52, 53, 54, 55, 56, 57, 97, 98, 99, 100, 101, 102]⟩ : ByteArray).extract ((Go.bits .and .i64 (t345 / 256) 15) : Int).toNat ((wrap64 ((Go.bits .and .i64 (t345 / 256) 15) + 1)) : Int).toNat)) ++ ((⟨#[48, 49, 50, 51, 52, 53, 54, 55, 56, 57, 97, 98, 99, 100, 101, 102]⟩ : ByteArray).extract ((Go.bits .and .i64 (t345 / 16) 15) : Int).toNat ((wrap64 ((Go.bits .and .i64 (t345 / 16) 15) + 1)) : Int).toNat)) ++ ((⟨#[48, 49, 50, 51, 52, 53, 54, 55, 56, 57, 97, 98, 99, 100, 101, 102]⟩ : ByteArray).extract ((Go.bits .and .i64 t345 15) : Int).toNat ((wrap64 ((Go.bits .and .i64 t345 15) + 1)) : Int).toNat)).size ≤ 9223372036854775807 then (spec_Quote.l0 kj5 a0 (x3_1 ++ (((((⟨#[92, 117]⟩ : ByteArray) ++ ((⟨#[48, 49, 50, 51, 52, 53, 54, 55, 56, 57, 97, 98, 99, 100, 101, 102]⟩ : ByteArray).extract ((ji15) : Int).toNat ((wrap64 ((ji15) + 1)) : Int).toNat)) ++ ((⟨#[48, 49, 50, 51, 52, 53, 54, 55, 56, 57, 97, 98, 99, 100, 101, 102]⟩ : ByteArray).extract ((Go.bits .and .i64 (t345 / 256) 15) : Int).toNat ((wrap64 ((Go.bits .and .i64 (t345 / 256) 15) + 1)) : Int).toNat)) ++ ((⟨#[48, 49, 50, 51, 52, 53, 54, 55, 56, 57, 97, 98, 99, 100, 101, 102]⟩ : ByteArray).extract ((Go.bits .and .i64 (t345 / 16) 15) : Int).toNat ((wrap64 ((Go.bits .and .i64 (t345 / 16) 15) + 1)) : Int).toNat)) ++ ((⟨#[48, 49, 50, 51, 52, 53, 54, 55, 56, 57, 97, 98, 99, 100, 101, 102]⟩ : ByteArray).extract ((Go.bits .and .i64 t345 15) : Int).toNat ((wrap64 ((Go.bits .and .i64 t345 15) + 1)) : Int).toNat))) (wrap64 (x4_1 + t346))) else (none)) else (none)) else (none)) else (none)) else (none)) else (none)) else (none)) else (none)) else (none)) else (none)) else (none)) else (none)) else (none)) else (none)) else (none)) else (none)) else (none)) = some r := by first | (rw [hji15] at H; exact H) | (simp only [hji15] at H ⊢; exact H)
                  by_cases c16 : 0 ≤ (ji15)
                  · rw [if_pos c16] at H
                    have c16b0 := eq_true c16
                    try (have c16s := c16; simp only [ByteArray.size_append, ByteArray.size_extract] at c16s)
                    have c16b1 : decide (0 ≤ (ji15)) = true := decide_eq_true c16
                    clear c16
                    by_cases c17 : (ji15) ≤ (wrap64 ((ji15) + 1))
                    · rw [if_pos c17] at H
                      have c17b0 := eq_true c17
                      try (have c17s := c17; simp only [ByteArray.size_append, ByteArray.size_extract] at c17s)
                      have c17b1 : decide ((ji15) ≤ (wrap64 ((ji15) + 1))) = true := decide_eq_true c17
                      by_cases c18 : (wrap64 ((ji15) + 1)) ≤ 16
                      · rw [if_pos c18] at H
                        have c18b0 := eq_true c18
                        try (have c18s := c18; simp only [ByteArray.size_append, ByteArray.size_extract] at c18s)
                        have c18b1 : decide ((wrap64 ((ji15) + 1)) ≤ 16) = true := decide_eq_true c18
                        by_cases c19 : 2 + ((⟨#[48, 49, 50, 51, 52, 53, 54, 55, 56, 57, 97, 98, 99, 100, 101, 102]⟩ : ByteArray).extract ((ji15) : Int).toNat ((wrap64 ((ji15) + 1)) : Int).toNat).size ≤ 9223372036854775807
                        · rw [if_pos c19] at H
                          have c19b0 := eq_true c19
                          try (have c19s := c19; simp only [ByteArray.size_append, ByteArray.size_extract] at c19s)
                          have c19b1 : decide (2 + ((⟨#[48, 49, 50, 51, 52, 53, 54, 55, 56, 57, 97, 98, 99, 100, 101, 102]⟩ : ByteArray).extract ((ji15) : Int).toNat ((wrap64 ((ji15) + 1)) : Int).toNat).size ≤ 9223372036854775807) = true := decide_eq_true c19
                          try have c19b2 : (9223372036854775807 < 2 + ((⟨#[48, 49, 50, 51, 52, 53, 54, 55, 56, 57, 97, 98, 99, 100, 101, 102]⟩ : ByteArray).extract ((ji15) : Int).toNat ((wrap64 ((ji15) + 1)) : Int).toNat).size) = False := eq_false (Nat.not_lt.2 c19)
                          obtain ⟨ji20, hji20⟩ : ∃ j_ : Int, (Go.bits .and .i64 (t345 / 256) 15) = j_ := ⟨_, rfl⟩
                          replace H : (if 0 ≤ (ji20) then (if (ji20) ≤ (wrap64 ((ji20) + 1)) then (if (wrap64 ((ji20) + 1)) ≤ 16 then (if ((⟨#[92, 117]⟩ : ByteArray) ++ ((⟨#[48, 49, 50, 51, 52, 53, 54, 55, 56, 57, 97, 98, 99, 100, 101, 102]⟩ : ByteArray).extract ((ji15) : Int).toNat ((wrap64 ((ji15) + 1)) : Int).toNat)).size + ((⟨#[48, 49, 50, 51, 52, 53, 54, 55, 56, 57, 97, 98, 99, 100, 101, 102]⟩ : ByteArray).extract ((ji20) : Int).toNat ((wrap64 ((ji20) + 1)) : Int).toNat).size ≤ 9223372036854775807 then (if 0 ≤ (Go.bits .and .i64 (t345 / 16) 15) then (if (Go.bits .and .i64 (t345 / 16) 15) ≤ (wrap64 ((Go.bits .and .i64 (t345 / 16) 15) + 1)) then (if (wrap64 ((Go.bits .and .i64 (t345 / 16) 15) + 1)) ≤ 16 then (if (((⟨#[92, 117]⟩ : ByteArray) ++ ((⟨#[48, 49, 50, 51, 52, 53, 54, 55, 56, 57, 97, 98, 99, 100, 101, 102]⟩ : ByteArray).extract ((ji15) : Int).toNat ((wrap64 ((ji15) + 1)) : Int).toNat)) ++ ((⟨#[48, 49, 50, 51, 52, 53, 54, 55, 56, 57, 97, 98, 99, 100, 101, 102]⟩ : ByteArray).extract ((ji20) : Int).toNat ((wrap64 ((ji20) + 1)) : Int).toNat)).size + ((⟨#[48, 49, 50, 51, 52, 53, 54, 55, 56, 57, 97, 98, 99, 100, 101, 102]⟩ : ByteArray).extract ((Go.bits .and .i64 (t345 / 16) 15) : Int).toNat ((wrap64 ((Go.bits .and .i64 (t345 / 16) 15) + 1)) : Int).toNat).size ≤ 9223372036854775807 then (if 0 ≤ (Go.bits .and .i64 t345 15) then (if (Go.bits .and .i64 t345 15) ≤ (wrap64 ((Go.bits .and .i64 t345 15) + 1)) then (if (wrap64 ((Go.bits .and .i64 t345 15) + 1)) ≤ 16 then (if ((((⟨#[92, 117]⟩ : ByteArray) ++ ((⟨#[48, 49, 50, 51, 52, 53, 54, 55, 56, 57, 97, 98, 99, 100, 101, 102]⟩ : ByteArray).extract ((ji15) : Int).toNat ((wrap64 ((ji15) + 1)) : Int).toNat)) ++ ((⟨#[48, 49, 50, 51, 52, 53, 54, 55, 56, 57, 97, 98, 99, 100, 101, 102]⟩ : ByteArray).extract ((ji20) : Int).toNat ((wrap64 ((ji20) + 1)) : Int).toNat)) ++ ((⟨#[48, 49, 50, 51, 52, 53, 54, 55, 56, 57, 97, 98, 99, 100, 101, 102]⟩ : ByteArray).extract ((Go.bits .and .i64 (t345 / 16) 15) : Int).toNat ((wrap64 ((Go.bits .and .i64 (t345 / 16) 15) + 1)) : Int).toNat)).size + ((⟨#[48, 49, 50, 51, 52, 53, 54, 55, 56, 57, 97, 98, 99, 100, 101, 102]⟩ : ByteArray).extract ((Go.bits .and .i64 t345 15) : Int).toNat ((wrap64 ((Go.bits .and .i64 t345 15) + 1)) : Int).toNat).size ≤ 9223372036854775807 then (if x3_1.size + (((((⟨#[92, 117]⟩ : ByteArray) ++ ((⟨#[48, 49, 50, 51, 52, 53, 54, 55, 56, 57, 97, 98, 99, 100, 101, 102]⟩ : ByteArray).extract ((ji15) : Int).toNat ((wrap64 ((ji15) + 1)) : Int).toNat)) ++ ((⟨#[48, 49, 50, 51, 52, 53, 54, 55, 56, 57, 97, 98, 99, 100, 101, 102]⟩ : ByteArray).extract ((ji20) : Int).toNat ((wrap64 ((ji20) + 1)) : Int).toNat)) ++ ((⟨#[48, 49, 50, 51, 52, 53, 54, 55, 56, 57, 97, 98, 99, 100, 101, 102]⟩ : ByteArray).extract ((Go.bits .and .i64 (t345 / 16) 15) : Int).toNat ((wrap64 ((Go.bits .and .i64 (t345 / 16) 15) + 1)) : Int).toNat)) ++ ((⟨#[48, 49, 50, 51, 52, 53, 54, 55, 56, 57, 97, 98, 99, 100, 101, 102]⟩ : ByteArray).extract ((Go.bits .and .i64 t345 15) : Int).toNat ((wrap64 ((Go.bits .and .i64 t345 15) + 1)) : Int).toNat)).size ≤ 9223372036854775807 then (spec_Quote.l0 kj5 a0 (x3_1 ++ (((((⟨#[92, 117]⟩ : ByteArray) ++ ((⟨#[48, 49, 50, 51, 52, 53, 54, 55, 56, 57, 97, 98, 99, 100, 101, 102]⟩ : ByteArray).extract ((ji15) : Int).toNat ((wrap64 ((ji15) + 1)) : Int).toNat)) ++ ((⟨#[48, 49, 50, 51, 52, 53, 54, 55, 56, 57, 97, 98, 99, 100, 101, 102]⟩ : ByteArray).extract ((ji20) : Int).toNat ((wrap64 ((ji20) + 1)) : Int).toNat)) ++ ((⟨#[48, 49, 50, 51, 52, 53, 54, 55, 56, 57, 97, 98, 99, 100, 101, 102]⟩ : ByteArray).extract ((Go.bits .and .i64 (t345 / 16) 15) : Int).toNat ((wrap64 ((Go.bits .and .i64 (t345 / 16) 15) + 1)) : Int).toNat)) ++ ((⟨#[48, 49, 50, 51, 52, 53, 54, 55, 56, 57, 97, 98, 99, 100, 101, 102]⟩ : ByteArray).extract ((Go.bits .and .i64 t345 15) : Int).toNat ((wrap64 ((Go.bits .and .i64 t345 15) + 1)) : Int).toNat))) (wrap64 (x4_1 + t346))) else (none)) else (none)) else (none)) else (none)) else (none)) else (none)) else (none)) else (none)) else (none)) else (none)) else (none)) else (none)) else (none)) = some r := by first | (rw [hji20] at H; exact H) | (simp only [hji20] at H ⊢; exact H)
                          by_cases c21 : 0 ≤ (ji20)
                          · rw [if_pos c21] at H
                            have c21b0 := eq_true c21
                            try (have c21s := c21; simp only [ByteArray.size_append, ByteArray.size_extract] at c21s)
                            have c21b1 : decide (0 ≤ (ji20)) = true := decide_eq_true c21
                            clear c21
                            by_cases c22 : (ji20) ≤ (wrap64 ((ji20) + 1))
                            · rw [if_pos c22] at H
                              have c22b0 := eq_true c22
                              try (have c22s := c22; simp only [ByteArray.size_append, ByteArray.size_extract] at c22s)
                              have c22b1 : decide ((ji20) ≤ (wrap64 ((ji20) + 1))) = true := decide_eq_true c22
                              by_cases c23 : (wrap64 ((ji20) + 1)) ≤ 16
                              · rw [if_pos c23] at H
                                have c23b0 := eq_true c23
                                try (have c23s := c23; simp only [ByteArray.size_append, ByteArray.size_extract] at c23s)
                                have c23b1 : decide ((wrap64 ((ji20) + 1)) ≤ 16) = true := decide_eq_true c23
                                by_cases c24 : ((⟨#[92, 117]⟩ : ByteArray) ++ ((⟨#[48, 49, 50, 51, 52, 53, 54, 55, 56, 57, 97, 98, 99, 100, 101, 102]⟩ : ByteArray).extract ((ji15) : Int).toNat ((wrap64 ((ji15) + 1)) : Int).toNat)).size + ((⟨#[48, 49, 50, 51, 52, 53, 54, 55, 56, 57, 97, 98, 99, 100, 101, 102]⟩ : ByteArray).extract ((ji20) : Int).toNat ((wrap64 ((ji20) + 1)) : Int).toNat).size ≤ 9223372036854775807
                                · rw [if_pos c24] at H
                                  have c24b0 := eq_true c24
                                  try (have c24s := c24; simp only [ByteArray.size_append, ByteArray.size_extract] at c24s)
                                  have c24b1 : decide (((⟨#[92, 117]⟩ : ByteArray) ++ ((⟨#[48, 49, 50, 51, 52, 53, 54, 55, 56, 57, 97, 98, 99, 100, 101, 102]⟩ : ByteArray).extract ((ji15) : Int).toNat ((wrap64 ((ji15) + 1)) : Int).toNat)).size + ((⟨#[48, 49, 50, 51, 52, 53, 54, 55, 56, 57, 97, 98, 99, 100, 101, 102]⟩ : ByteArray).extract ((ji20) : Int).toNat ((wrap64 ((ji20) + 1)) : Int).toNat).size ≤ 9223372036854775807) = true := decide_eq_true c24
                                  try have c24b2 : (9223372036854775807 < ((⟨#[92, 117]⟩ : ByteArray) ++ ((⟨#[48, 49, 50, 51, 52, 53, 54, 55, 56, 57, 97, 98, 99, 100, 101, 102]⟩ : ByteArray).extract ((ji15) : Int).toNat ((wrap64 ((ji15) + 1)) : Int).toNat)).size + ((⟨#[48, 49, 50, 51, 52, 53, 54, 55, 56, 57, 97, 98, 99, 100, 101, 102]⟩ : ByteArray).extract ((ji20) : Int).toNat ((wrap64 ((ji20) + 1)) : Int).toNat).size) = False := eq_false (Nat.not_lt.2 c24)
                                  obtain ⟨ji25, hji25⟩ : ∃ j_ : Int, (Go.bits .and .i64 (t345 / 16) 15) = j_ := ⟨_, rfl⟩
                                  replace H : (if 0 ≤ (ji25) then (if (ji25) ≤ (wrap64 ((ji25) + 1)) then (if (wrap64 ((ji25) + 1)) ≤ 16 then (if (((⟨#[92, 117]⟩ : ByteArray) ++ ((⟨#[48, 49, 50, 51, 52, 53, 54, 55, 56, 57, 97, 98, 99, 100, 101, 102]⟩ : ByteArray).extract ((ji15) : Int).toNat ((wrap64 ((ji15) + 1)) : Int).toNat)) ++ ((⟨#[48, 49, 50, 51, 52, 53, 54, 55, 56, 57, 97, 98, 99, 100, 101, 102]⟩ : ByteArray).extract ((ji20) : Int).toNat ((wrap64 ((ji20) + 1)) : Int).toNat)).size + ((⟨#[48, 49, 50, 51, 52, 53, 54, 55, 56, 57, 97, 98, 99, 100, 101, 102]⟩ : ByteArray).extract ((ji25) : Int).toNat ((wrap64 ((ji25) + 1)) : Int).toNat).size ≤ 9223372036854775807 then (if 0 ≤ (Go.bits .and .i64 t345 15) then (if (Go.bits .and .i64 t345 15) ≤ (wrap64 ((Go.bits .and .i64 t345 15) + 1)) then (if (wrap64 ((Go.bits .and .i64 t345 15) + 1)) ≤ 16 then (if ((((⟨#[92, 117]⟩ : ByteArray) ++ ((⟨#[48, 49, 50, 51, 52, 53, 54, 55, 56, 57, 97, 98, 99, 100, 101, 102]⟩ : ByteArray).extract ((ji15) : Int).toNat ((wrap64 ((ji15) + 1)) : Int).toNat)) ++ ((⟨#[48, 49, 50, 51, 52, 53, 54, 55, 56, 57, 97, 98, 99, 100, 101, 102]⟩ : ByteArray).extract ((ji20) : Int).toNat ((wrap64 ((ji20) + 1)) : Int).toNat)) ++ ((⟨#[48, 49, 50, 51, 52, 53, 54, 55, 56, 57, 97, 98, 99, 100, 101, 102]⟩ : ByteArray).extract ((ji25) : Int).toNat ((wrap64 ((ji25) + 1)) : Int).toNat)).size + ((⟨#[48, 49, 50, 51, 52, 53, 54, 55, 56, 57, 97, 98, 99, 100, 101, 102]⟩ : ByteArray).extract ((Go.bits .and .i64 t345 15) : Int).toNat ((wrap64 ((Go.bits .and .i64 t345 15) + 1)) : Int).toNat).size ≤ 9223372036854775807 then (if x3_1.size + (((((⟨#[92, 117]⟩ : ByteArray) ++ ((⟨#[48, 49, 50, 51, 52, 53, 54, 55, 56, 57, 97, 98, 99, 100, 101, 102]⟩ : ByteArray).extract ((ji15) : Int).toNat ((wrap64 ((ji15) + 1)) : Int).toNat)) ++ ((⟨#[48, 49, 50, 51, 52, 53, 54, 55, 56, 57, 97, 98, 99, 100, 101, 102]⟩ : ByteArray).extract ((ji20) : Int).toNat ((wrap64 ((ji20) + 1)) : Int).toNat)) ++ ((⟨#[48, 49, 50, 51, 52, 53, 54, 55, 56, 57, 97, 98, 99, 100, 101, 102]⟩ : ByteArray).extract ((ji25) : Int).toNat ((wrap64 ((ji25) + 1)) : Int).toNat)) ++ ((⟨#[48, 49, 50, 51, 52, 53, 54, 55, 56, 57, 97, 98, 99, 100, 101, 102]⟩ : ByteArray).extract ((Go.bits .and .i64 t345 15) : Int).toNat ((wrap64 ((Go.bits .and .i64 t345 15) + 1)) : Int).toNat)).size ≤ 9223372036854775807 then (spec_Quote.l0 kj5 a0 (x3_1 ++ (((((⟨#[92, 117]⟩ : ByteArray) ++ ((⟨#[48, 49, 50, 51, 52, 53, 54, 55, 56, 57, 97, 98, 99, 100, 101, 102]⟩ : ByteArray).extract ((ji15) : Int).toNat ((wrap64 ((ji15) + 1)) : Int).toNat)) ++ ((⟨#[48, 49, 50, 51, 52, 53, 54, 55, 56, 57, 97, 98, 99, 100, 101, 102]⟩ : ByteArray).extract ((ji20) : Int).toNat ((wrap64 ((ji20) + 1)) : Int).toNat)) ++ ((⟨#[48, 49, 50, 51, 52, 53, 54, 55, 56, 57, 97, 98, 99, 100, 101, 102]⟩ : ByteArray).extract ((ji25) : Int).toNat ((wrap64 ((ji25) + 1)) : Int).toNat)) ++ ((⟨#[48, 49, 50, 51, 52, 53, 54, 55, 56, 57, 97, 98, 99, 100, 101, 102]⟩ : ByteArray).extract ((Go.bits .and .i64 t345 15) : Int).toNat ((wrap64 ((Go.bits .and .i64 t345 15) + 1)) : Int).toNat))) (wrap64 (x4_1 + t346))) else (none)) else (none)) else (none)) else (none)) else (none)) else (none)) else (none)) else (none)) else (none)) = some r := by first | (rw [hji25] at H; exact H) | (simp only [hji25] at H ⊢; exact H)
                                  by_cases c26 : 0 ≤ (ji25)
                                  · rw [if_pos c26] at H
                                    have c26b0 := eq_true c26
                                    try (have c26s := c26; simp only [ByteArray.size_append, ByteArray.size_extract] at c26s)
                                    have c26b1 : decide (0 ≤ (ji25)) = true := decide_eq_true c26
                                    clear c26
                                    by_cases c27 : (ji25) ≤ (wrap64 ((ji25) + 1))
                                    · rw [if_pos c27] at H
                                      have c27b0 := eq_true c27
                                      try (have c27s := c27; simp only [ByteArray.size_append, ByteArray.size_extract] at c27s)
                                      have c27b1 : decide ((ji25) ≤ (wrap64 ((ji25) + 1))) = true := decide_eq_true c27
                                      by_cases c28 : (wrap64 ((ji25) + 1)) ≤ 16
                                      · rw [if_pos c28] at H
                                        have c28b0 := eq_true c28
                                        try (have c28s := c28; simp only [ByteArray.size_append, ByteArray.size_extract] at c28s)
                                        have c28b1 : decide ((wrap64 ((ji25) + 1)) ≤ 16) = true := decide_eq_true c28
                                        by_cases c29 : (((⟨#[92, 117]⟩ : ByteArray) ++ ((⟨#[48, 49, 50, 51, 52, 53, 54, 55, 56, 57, 97, 98, 99, 100, 101, 102]⟩ : ByteArray).extract ((ji15) : Int).toNat ((wrap64 ((ji15) + 1)) : Int).toNat)) ++ ((⟨#[48, 49, 50, 51, 52, 53, 54, 55, 56, 57, 97, 98, 99, 100, 101, 102]⟩ : ByteArray).extract ((ji20) : Int).toNat ((wrap64 ((ji20) + 1)) : Int).toNat)).size + ((⟨#[48, 49, 50, 51, 52, 53, 54, 55, 56, 57, 97, 98, 99, 100, 101, 102]⟩ : ByteArray).extract ((ji25) : Int).toNat ((wrap64 ((ji25) + 1)) : Int).toNat).size ≤ 9223372036854775807
                                        · rw [if_pos c29] at H
                                          have c29b0 := eq_true c29
                                          try (have c29s := c29; simp only [ByteArray.size_append, ByteArray.size_extract] at c29s)
                                          have c29b1 : decide ((((⟨#[92, 117]⟩ : ByteArray) ++ ((⟨#[48, 49, 50, 51, 52, 53, 54, 55, 56, 57, 97, 98, 99, 100, 101, 102]⟩ : ByteArray).extract ((ji15) : Int).toNat ((wrap64 ((ji15) + 1)) : Int).toNat)) ++ ((⟨#[48, 49, 50, 51, 52, 53, 54, 55, 56, 57, 97, 98, 99, 100, 101, 102]⟩ : ByteArray).extract ((ji20) : Int).toNat ((wrap64 ((ji20) + 1)) : Int).toNat)).size + ((⟨#[48, 49, 50, 51, 52, 53, 54, 55, 56, 57, 97, 98, 99, 100, 101, 102]⟩ : ByteArray).extract ((ji25) : Int).toNat ((wrap64 ((ji25) + 1)) : Int).toNat).size ≤ 9223372036854775807) = true := decide_eq_true c29
                                          try have c29b2 : (9223372036854775807 < (((⟨#[92, 117]⟩ : ByteArray) ++ ((⟨#[48, 49, 50, 51, 52, 53, 54, 55, 56, 57, 97, 98, 99, 100, 101, 102]⟩ : ByteArray).extract ((ji15) : Int).toNat ((wrap64 ((ji15) + 1)) : Int).toNat)) ++ ((⟨#[48, 49, 50, 51, 52, 53, 54, 55, 56, 57, 97, 98, 99, 100, 101, 102]⟩ : ByteArray).extract ((ji20) : Int).toNat ((wrap64 ((ji20) + 1)) : Int).toNat)).size + ((⟨#[48, 49, 50, 51, 52, 53, 54, 55, 56, 57, 97, 98, 99, 100, 101, 102]⟩ : ByteArray).extract ((ji25) : Int).toNat ((wrap64 ((ji25) + 1)) : Int).toNat).size) = False := eq_false (Nat.not_lt.2 c29)
                                          by_cases c30 : 0 ≤ (Go.bits .and .i64 t345 15)
                                          · rw [if_pos c30] at H
                                            have c30b0 := eq_true c30
                                            try (have c30s := c30; simp only [ByteArray.size_append, ByteArray.size_extract] at c30s)
                                            have c30b1 : decide (0 ≤ (Go.bits .and .i64 t345 15)) = true := decide_eq_true c30
                                            clear c30
                                            by_cases c31 : (Go.bits .and .i64 t345 15) ≤ (wrap64 ((Go.bits .and .i64 t345 15) + 1))
                                            · rw [if_pos c31] at H
                                              have c31b0 := eq_true c31
                                              try (have c31s := c31; simp only [ByteArray.size_append, ByteArray.size_extract] at c31s)
                                              have c31b1 : decide ((Go.bits .and .i64 t345 15) ≤ (wrap64 ((Go.bits .and .i64 t345 15) + 1))) = true := decide_eq_true c31
                                              by_cases c32 : (wrap64 ((Go.bits .and .i64 t345 15) + 1)) ≤ 16
                                              · rw [if_pos c32] at H
                                                have c32b0 := eq_true c32
                                                try (have c32s := c32; simp only [ByteArray.size_append, ByteArray.size_extract] at c32s)
                                                have c32b1 : decide ((wrap64 ((Go.bits .and .i64 t345 15) + 1)) ≤ 16) = true := decide_eq_true c32
                                                by_cases c33 : ((((⟨#[92, 117]⟩ : ByteArray) ++ ((⟨#[48, 49, 50, 51, 52, 53, 54, 55, 56, 57, 97, 98, 99, 100, 101, 102]⟩ : ByteArray).extract ((ji15) : Int).toNat ((wrap64 ((ji15) + 1)) : Int).toNat)) ++ ((⟨#[48, 49, 50, 51, 52, 53, 54, 55, 56, 57, 97, 98, 99, 100, 101, 102]⟩ : ByteArray).extract ((ji20) : Int).toNat ((wrap64 ((ji20) + 1)) : Int).toNat)) ++ ((⟨#[48, 49, 50, 51, 52, 53, 54, 55, 56, 57, 97, 98, 99, 100, 101, 102]⟩ : ByteArray).extract ((ji25) : Int).toNat ((wrap64 ((ji25) + 1)) : Int).toNat)).size + ((⟨#[48, 49, 50, 51, 52, 53, 54, 55, 56, 57, 97, 98, 99, 100, 101, 102]⟩ : ByteArray).extract ((Go.bits .and .i64 t345 15) : Int).toNat ((wrap64 ((Go.bits .and .i64 t345 15) + 1)) : Int).toNat).size ≤ 9223372036854775807
                                                · rw [if_pos c33] at H
                                                  have c33b0 := eq_true c33
                                                  try (have c33s := c33; simp only [ByteArray.size_append, ByteArray.size_extract] at c33s)
                                                  have c33b1 : decide (((((⟨#[92, 117]⟩ : ByteArray) ++ ((⟨#[48, 49, 50, 51, 52, 53, 54, 55, 56, 57, 97, 98, 99, 100, 101, 102]⟩ : ByteArray).extract ((ji15) : Int).toNat ((wrap64 ((ji15) + 1)) : Int).toNat)) ++ ((⟨#[48, 49, 50, 51, 52, 53, 54, 55, 56, 57, 97, 98, 99, 100, 101, 102]⟩ : ByteArray).extract ((ji20) : Int).toNat ((wrap64 ((ji20) + 1)) : Int).toNat)) ++ ((⟨#[48, 49, 50, 51, 52, 53, 54, 55, 56, 57, 97, 98, 99, 100, 101, 102]⟩ : ByteArray).extract ((ji25) : Int).toNat ((wrap64 ((ji25) + 1)) : Int).toNat)).size + ((⟨#[48, 49, 50, 51, 52, 53, 54, 55, 56, 57, 97, 98, 99, 100, 101, 102]⟩ : ByteArray).extract ((Go.bits .and .i64 t345 15) : Int).toNat ((wrap64 ((Go.bits .and .i64 t345 15) + 1)) : Int).toNat).size ≤ 9223372036854775807) = true := decide_eq_true c33
                                                  try have c33b2 : (9223372036854775807 < ((((⟨#[92, 117]⟩ : ByteArray) ++ ((⟨#[48, 49, 50, 51, 52, 53, 54, 55, 56, 57, 97, 98, 99, 100, 101, 102]⟩ : ByteArray).extract ((ji15) : Int).toNat ((wrap64 ((ji15) + 1)) : Int).toNat)) ++ ((⟨#[48, 49, 50, 51, 52, 53, 54, 55, 56, 57, 97, 98, 99, 100, 101, 102]⟩ : ByteArray).extract ((ji20) : Int).toNat ((wrap64 ((ji20) + 1)) : Int).toNat)) ++ ((⟨#[48, 49, 50, 51, 52, 53, 54, 55, 56, 57, 97, 98, 99, 100, 101, 102]⟩ : ByteArray).extract ((ji25) : Int).toNat ((wrap64 ((ji25) + 1)) : Int).toNat)).size + ((⟨#[48, 49, 50, 51, 52, 53, 54, 55, 56, 57, 97, 98, 99, 100, 101, 102]⟩ : ByteArray).extract ((Go.bits .and .i64 t345 15) : Int).toNat ((wrap64 ((Go.bits .and .i64 t345 15) + 1)) : Int).toNat).size) = False := eq_false (Nat.not_lt.2 c33)
                                                  by_cases c34 : x3_1.size + (((((⟨#[92, 117]⟩ : ByteArray) ++ ((⟨#[48, 49, 50, 51, 52, 53, 54, 55, 56, 57, 97, 98, 99, 100, 101, 102]⟩ : ByteArray).extract ((ji15) : Int).toNat ((wrap64 ((ji15) + 1)) : Int).toNat)) ++ ((⟨#[48, 49, 50, 51, 52, 53, 54, 55, 56, 57, 97, 98, 99, 100, 101, 102]⟩ : ByteArray).extract ((ji20) : Int).toNat ((wrap64 ((ji20) + 1)) : Int).toNat)) ++ ((⟨#[48, 49, 50, 51, 52, 53, 54, 55, 56, 57, 97, 98, 99, 100, 101, 102]⟩ : ByteArray).extract ((ji25) : Int).toNat ((wrap64 ((ji25) + 1)) : Int).toNat)) ++ ((⟨#[48, 49, 50, 51, 52, 53, 54, 55, 56, 57, 97, 98, 99, 100, 101, 102]⟩ : ByteArray).extract ((Go.bits .and .i64 t345 15) : Int).toNat ((wrap64 ((Go.bits .and .i64 t345 15) + 1)) : Int).toNat)).size ≤ 9223372036854775807
                                                  · rw [if_pos c34] at H
                                                    have c34b0 := eq_true c34
                                                    try (have c34s := c34; simp only [ByteArray.size_append, ByteArray.size_extract] at c34s)
                                                    have c34b1 : decide (x3_1.size + (((((⟨#[92, 117]⟩ : ByteArray) ++ ((⟨#[48, 49, 50, 51, 52, 53, 54, 55, 56, 57, 97, 98, 99, 100, 101, 102]⟩ : ByteArray).extract ((ji15) : Int).toNat ((wrap64 ((ji15) + 1)) : Int).toNat)) ++ ((⟨#[48, 49, 50, 51, 52, 53, 54, 55, 56, 57, 97, 98, 99, 100, 101, 102]⟩ : ByteArray).extract ((ji20) : Int).toNat ((wrap64 ((ji20) + 1)) : Int).toNat)) ++ ((⟨#[48, 49, 50, 51, 52, 53, 54, 55, 56, 57, 97, 98, 99, 100, 101, 102]⟩ : ByteArray).extract ((ji25) : Int).toNat ((wrap64 ((ji25) + 1)) : Int).toNat)) ++ ((⟨#[48, 49, 50, 51, 52, 53, 54, 55, 56, 57, 97, 98, 99, 100, 101, 102]⟩ : ByteArray).extract ((Go.bits .and .i64 t345 15) : Int).toNat ((wrap64 ((Go.bits .and .i64 t345 15) + 1)) : Int).toNat)).size ≤ 9223372036854775807) = true := decide_eq_true c34
                                                    try have c34b2 : (9223372036854775807 < x3_1.size + (((((⟨#[92, 117]⟩ : ByteArray) ++ ((⟨#[48, 49, 50, 51, 52, 53, 54, 55, 56, 57, 97, 98, 99, 100, 101, 102]⟩ : ByteArray).extract ((ji15) : Int).toNat ((wrap64 ((ji15) + 1)) : Int).toNat)) ++ ((⟨#[48, 49, 50, 51, 52, 53, 54, 55, 56, 57, 97, 98, 99, 100, 101, 102]⟩ : ByteArray).extract ((ji20) : Int).toNat ((wrap64 ((ji20) + 1)) : Int).toNat)) ++ ((⟨#[48, 49, 50, 51, 52, 53, 54, 55, 56, 57, 97, 98, 99, 100, 101, 102]⟩ : ByteArray).extract ((ji25) : Int).toNat ((wrap64 ((ji25) + 1)) : Int).toNat)) ++ ((⟨#[48, 49, 50, 51, 52, 53, 54, 55, 56, 57, 97, 98, 99, 100, 101, 102]⟩ : ByteArray).extract ((Go.bits .and .i64 t345 15) : Int).toNat ((wrap64 ((Go.bits .and .i64 t345 15) + 1)) : Int).toNat)).size) = False := eq_false (Nat.not_lt.2 c34)
                                                    have H' := Aside0.mk H
                                                    clear H
                                                    go_wp2
                                                    repeat (go_quiet (fail); try go_wp2)
                                                    go_roundg kj5
                                                    case measure => have := HK1.out; have := HJ5.out; omega
                                                    case rel => exact ⟨(x3_1 ++ (((((⟨#[92, 117]⟩ : ByteArray) ++ ((⟨#[48, 49, 50, 51, 52, 53, 54, 55, 56, 57, 97, 98, 99, 100, 101, 102]⟩ : ByteArray).extract ((ji15) : Int).toNat ((wrap64 ((ji15) + 1)) : Int).toNat)) ++ ((⟨#[48, 49, 50, 51, 52, 53, 54, 55, 56, 57, 97, 98, 99, 100, 101, 102]⟩ : ByteArray).extract ((ji20) : Int).toNat ((wrap64 ((ji20) + 1)) : Int).toNat)) ++ ((⟨#[48, 49, 50, 51, 52, 53, 54, 55, 56, 57, 97, 98, 99, 100, 101, 102]⟩ : ByteArray).extract ((ji25) : Int).toNat ((wrap64 ((ji25) + 1)) : Int).toNat)) ++ ((⟨#[48, 49, 50, 51, 52, 53, 54, 55, 56, 57, 97, 98, 99, 100, 101, 102]⟩ : ByteArray).extract ((Go.bits .and .i64 t345 15) : Int).toNat ((wrap64 ((Go.bits .and .i64 t345 15) + 1)) : Int).toNat))), (wrap64 (x4_1 + t346)), (by first | rfl | (simp; done) | (simp only [← hji15, ← hji20, ← hji25] <;> (first | rfl | simp)) | (simp [*]; done)), (by first | rfl | (simp; done) | (simp [*]; done)), H', ⟨by have := HK1.out; have := HJ5.out; omega⟩, by repeat (first | exact Drawn0.refl _ | apply Drawn0.step)⟩
                                                  · rw [if_neg c34] at H
                                                    exact absurd H (by simp)
                                                · rw [if_neg c33] at H
                                                  exact absurd H (by simp)
                                              · rw [if_neg c32] at H
                                                exact absurd H (by simp)
                                            · rw [if_neg c31] at H
                                              exact absurd H (by simp)
                                          · rw [if_neg c30] at H
                                            exact absurd H (by simp)
                                        · rw [if_neg c29] at H
                                          exact absurd H (by simp)
                                      · rw [if_neg c28] at H
                                        exact absurd H (by simp)
                                    · rw [if_neg c27] at H
                                      exact absurd H (by simp)
                                  · rw [if_neg c26] at H
                                    exact absurd H (by simp)
                                · rw [if_neg c24] at H
                                  exact absurd H (by simp)
                              · rw [if_neg c23] at H
                                exact absurd H (by simp)
                            · rw [if_neg c22] at H
                              exact absurd H (by simp)
                          · rw [if_neg c21] at H
                            exact absurd H (by simp)
                        · rw [if_neg c19] at H
                          exact absurd H (by simp)
                      · rw [if_neg c18] at H
                        exact absurd H (by simp)
                    · rw [if_neg c17] at H
                      exact absurd H (by simp)
                  · rw [if_neg c16] at H
                    exact absurd H (by simp)
                · rw [if_neg c14] at H
                  have c14b0 : decide (t345 < 32) = false := decide_eq_false c14
                  clear c14
                  by_cases c35 : t345 = 127
                  · rw [if_pos c35] at H
                    have c35b0 : (t345 == 127) = true := beq_iff_eq.mpr c35
                    have c35b1 : (t345 != 127) = false := bne_eq_false_iff_eq.mpr c35
                    clear c35
                    obtain ⟨ji36, hji36⟩ : ∃ j_ : Int, (t345 / 4096) = j_ := ⟨_, rfl⟩
                    replace H : (if 0 ≤ (ji36) then (if (ji36) ≤ (wrap64 ((ji36) + 1)) then (if (wrap64 ((ji36) + 1)) ≤ 16 then (if 2 + ((⟨#[48, 49, 50, 51, 52, 53, 54, 55, 56, 57, 97, 98, 99, 100, 101, 102]⟩ : ByteArray).extract ((ji36) : Int).toNat ((wrap64 ((ji36) + 1)) : Int).toNat).size ≤ 9223372036854775807 then (if 0 ≤ (Go.bits .and .i64 (t345 / 256) 15) then (if (Go.bits .and .i64 (t345 / 256) 15) ≤ (wrap64 ((Go.bits .and .i64 (t345 / 256) 15) + 1)) then (if (wrap64 ((Go.bits .and .i64 (t345 / 256) 15) + 1)) ≤ 16 then (if ((⟨#[92, 117]⟩ : ByteArray) ++ ((⟨#[48, 49, 50, 51, 52, 53, 54, 55, 56, 57, 97, 98, 99, 100, 101, 102]⟩ : ByteArray).extract ((ji36) : Int).toNat ((wrap64 ((ji36) + 1)) : Int).toNat)).size + ((⟨#[48, 49, 50, 51, 52, 53, 54, 55, 56, 57, 97, 98, 99, 100, 101, 102]⟩ : ByteArray).extract ((Go.bits .and .i64 (t345 / 256) 15) : Int).toNat ((wrap64 ((Go.bits .and .i64 (t345 / 256) 15) + 1)) : Int).toNat).size ≤ 9223372036854775807 then (if 0 ≤ (Go.bits .and .i64 (t345 / 16) 15) then (if (Go.bits .and .i64 (t345 / 16) 15) ≤ (wrap64 ((Go.bits .and .i64 (t345 / 16) 15) + 1)) then (if (wrap64 ((Go.bits .and .i64 (t345 / 16) 15) + 1)) ≤ 16 then (if (((⟨#[92, 117]⟩ : ByteArray) ++ ((⟨#[48, 49, 50, 51, 52, 53, 54, 55, 56, 57, 97, 98, 99, 100, 101, 102]⟩ : ByteArray).extract ((ji36) : Int).toNat ((wrap64 ((ji36) + 1)) : Int).toNat)) ++ ((⟨#[48, 49, 50, 51, 52, 53, 54, 55, 56, 57, 97, 98, 99, 100, 101, 102]⟩ : ByteArray).extract ((Go.bits .and .i64 (t345 / 256) 15) : Int).toNat ((wrap64 ((Go.bits .and .i64 (t345 / 256) 15) + 1)) : Int).toNat)).size + ((⟨#[48, 49, 50, 51, 52, 53, 54, 55, 56, 57, 97, 98, 99, 100, 101, 102]⟩ : ByteArray).extract ((Go.bits .and .i64 (t345 / 16) 15) : Int).toNat ((wrap64 ((Go.bits .and .i64 (t345 / 16) 15) + 1)) : Int).toNat).size ≤ 9223372036854775807 then (if 0 ≤ (Go.bits .and .i64 t345 15) then (if (Go.bits .and .i64 t345 15) ≤ (wrap64 ((Go.bits .and .i64 t345 15) + 1)) then (if (wrap64 ((Go.bits .and .i64 t345 15) + 1)) ≤ 16 then (if ((((⟨#[92, 117]⟩ : ByteArray) ++ ((⟨#[48, 49, 50, 51, 52, 53, 54, 55, 56, 57, 97, 98, 99, 100, 101, 102]⟩ : ByteArray).extract ((ji36) : Int).toNat ((wrap64 ((ji36) + 1)) : Int).toNat)) ++ ((⟨#[48, 49, 50, 51, 52, 53, 54, 55, 56, 57, 97, 98, 99, 100, 101, 102]⟩ : ByteArray).extract ((Go.bits .and .i64 (t345 / 256) 15) : Int).toNat ((wrap64 ((Go.bits .and .i64 (t345 / 256) 15) + 1)) : Int).toNat)) ++ ((⟨#[48, 49, 50, 51, 52, 53, 54, 55, 56, 57, 97, 98, 99, 100, 101, 102]⟩ : ByteArray).extract ((Go.bits .and .i64 (t345 / 16) 15) : Int).toNat ((wrap64 ((Go.bits .and .i64 (t345 / 16) 15) + 1)) : Int).toNat)).size + ((⟨#[48, 49, 50, 51, 52, 53, 54, 55, 56, 57, 97, 98, 99, 100, 101, 102]⟩ : ByteArray).extract ((Go.bits .and .i64 t345 15) : Int).toNat ((wrap64 ((Go.bits .and .i64 t345 15) + 1)) : Int).toNat).size ≤ 9223372036854775807 then (if x3_1.size + (((((⟨#[92, 117]⟩ : ByteArray) ++ ((⟨#[48, 49, 50, 51, 52, 53, 54, 55, 56, 57, 97, 98, 99, 100, 101, 102]⟩ : ByteArray).extract ((ji36) : Int).toNat ((wrap64 ((ji36) + 1)) : Int).toNat)) ++ ((⟨#[48, 49, 50, 51, 52, 53, 54, 55, 56, 57, 97, 98, 99, 100, 101, 102]⟩ : ByteArray).extract ((Go.bits .and .i64 (t345 / 256) 15) : Int).toNat ((wrap64 ((Go.bits .and .i64 (t345 / 256) 15) + 1)) : Int).toNat)) ++ ((⟨#[48, 49, 50, 51, 52, 53, 54, 55, 56, 57, 97, 98, 99, 100, 101, 102]⟩ : ByteArray).extract ((Go.bits .and .i64 (t345 / 16) 15) : Int).toNat ((wrap64 ((Go.bits .and .i64 (t345 / 16) 15) + 1)) : Int).toNat)) ++ ((⟨#[48, 49, 50, 51, 52, 53, 54, 55, 56, 57, 97, 98, 99, 100, 101, 102]⟩ : ByteArray).extract ((Go.bits .and .i64 t345 15) : Int).toNat ((wrap64 ((Go.bits .and .i64 t345 15) + 1)) : Int).toNat)).size ≤ 9223372036854775807 then (spec_Quote.l0 kj5 a0 (x3_1 ++ (((((⟨#[92, 117]⟩ : ByteArray) ++ ((⟨#[48, 49, 50, 51, 52, 53, 54, 55, 56, 57, 97, 98, 99, 100, 101, 102]⟩ : ByteArray).extract ((ji36) : Int).toNat ((wrap64 ((ji36) + 1)) : Int).toNat)) ++ ((⟨#[48, 49, 50, 51, 52, 53, 54, 55, 56, 57, 97, 98, 99, 100, 101, 102]⟩ : ByteArray).extract ((Go.bits .and .i64 (t345 / 256) 15) : Int).toNat ((wrap64 ((Go.bits .and .i64 (t345 / 256) 15) + 1)) : Int).toNat)) ++ ((⟨#[48, 49, 50, 51, 52, 53, 54, 55, 56, 57, 97, 98, 99, 100, 101, 102]⟩ : ByteArray).extract ((Go.bits .and .i64 (t345 / 16) 15) : Int).toNat ((wrap64 ((Go.bits .and .i64 (t345 / 16) 15) + 1)) : Int).toNat)) ++ ((⟨#[48, 49, 50, 51, 52, 53, 54, 55, 56, 57, 97, 98, 99, 100, 101, 102]⟩ : ByteArray).extract ((Go.bits .and .i64 t345 15) : Int).toNat ((wrap64 ((Go.bits .and .i64 t345 15) + 1)) : Int).toNat))) (wrap64 (x4_1 + t346))) else (none)) else (none)) else (none)) else (none)) else (none)) else (none)) else (none)) else (none)) else (none)) else (none)) else (none)) else (none)) else (none)) else (none)) else (none)) else (none)) else (none)) = some r := by first | (rw [hji36] at H; exact H) | (simp only [hji36] at H ⊢; exact H)
                    by_cases c37 : 0 ≤ (ji36)
                    · rw [if_pos c37] at H
                      have c37b0 := eq_true c37
                      try (have c37s := c37; simp only [ByteArray.size_append, ByteArray.size_extract] at c37s)
                      have c37b1 : decide (0 ≤ (ji36)) = true := decide_eq_true c37
                      clear c37
                      by_cases c38 : (ji36) ≤ (wrap64 ((ji36) + 1))
                      · rw [if_pos c38] at H
                        have c38b0 := eq_true c38
                        try (have c38s := c38; simp only [ByteArray.size_append, ByteArray.size_extract] at c38s)
                        have c38b1 : decide ((ji36) ≤ (wrap64 ((ji36) + 1))) = true := decide_eq_true c38
                        by_cases c39 : (wrap64 ((ji36) + 1)) ≤ 16
                        · rw [if_pos c39] at H
                          have c39b0 := eq_true c39
                          try (have c39s := c39; simp only [ByteArray.size_append, ByteArray.size_extract] at c39s)
                          have c39b1 : decide ((wrap64 ((ji36) + 1)) ≤ 16) = true := decide_eq_true c39
                          by_cases c40 : 2 + ((⟨#[48, 49, 50, 51, 52, 53, 54, 55, 56, 57, 97, 98, 99, 100, 101, 102]⟩ : ByteArray).extract ((ji36) : Int).toNat ((wrap64 ((ji36) + 1)) : Int).toNat).size ≤ 9223372036854775807
                          · rw [if_pos c40] at H
                            have c40b0 := eq_true c40
                            try (have c40s := c40; simp only [ByteArray.size_append, ByteArray.size_extract] at c40s)
                            have c40b1 : decide (2 + ((⟨#[48, 49, 50, 51, 52, 53, 54, 55, 56, 57, 97, 98, 99, 100, 101, 102]⟩ : ByteArray).extract ((ji36) : Int).toNat ((wrap64 ((ji36) + 1)) : Int).toNat).size ≤ 9223372036854775807) = true := decide_eq_true c40
                            try have c40b2 : (9223372036854775807 < 2 + ((⟨#[48, 49, 50, 51, 52, 53, 54, 55, 56, 57, 97, 98, 99, 100, 101, 102]⟩ : ByteArray).extract ((ji36) : Int).toNat ((wrap64 ((ji36) + 1)) : Int).toNat).size) = False := eq_false (Nat.not_lt.2 c40)
                            obtain ⟨ji41, hji41⟩ : ∃ j_ : Int, (Go.bits .and .i64 (t345 / 256) 15) = j_ := ⟨_, rfl⟩
                            replace H : (if 0 ≤ (ji41) then (if (ji41) ≤ (wrap64 ((ji41) + 1)) then (if (wrap64 ((ji41) + 1)) ≤ 16 then (if ((⟨#[92, 117]⟩ : ByteArray) ++ ((⟨#[48, 49, 50, 51, 52, 53, 54, 55, 56, 57, 97, 98, 99, 100, 101, 102]⟩ : ByteArray).extract ((ji36) : Int).toNat ((wrap64 ((ji36) + 1)) : Int).toNat)).size + ((⟨#[48, 49, 50, 51, 52, 53, 54, 55, 56, 57, 97, 98, 99, 100, 101, 102]⟩ : ByteArray).extract ((ji41) : Int).toNat ((wrap64 ((ji41) + 1)) : Int).toNat).size ≤ 9223372036854775807 then (if 0 ≤ (Go.bits .and .i64 (t345 / 16) 15) then (if (Go.bits .and .i64 (t345 / 16) 15) ≤ (wrap64 ((Go.bits .and .i64 (t345 / 16) 15) + 1)) then (if (wrap64 ((Go.bits .and .i64 (t345 / 16) 15) + 1)) ≤ 16 then (if (((⟨#[92, 117]⟩ : ByteArray) ++ ((⟨#[48, 49, 50, 51, 52, 53, 54, 55, 56, 57, 97, 98, 99, 100, 101, 102]⟩ : ByteArray).extract ((ji36) : Int).toNat ((wrap64 ((ji36) + 1)) : Int).toNat)) ++ ((⟨#[48, 49, 50, 51, 52, 53, 54, 55, 56, 57, 97, 98, 99, 100, 101, 102]⟩ : ByteArray).extract ((ji41) : Int).toNat ((wrap64 ((ji41) + 1)) : Int).toNat)).size + ((⟨#[48, 49, 50, 51, 52, 53, 54, 55, 56, 57, 97, 98, 99, 100, 101, 102]⟩ : ByteArray).extract ((Go.bits .and .i64 (t345 / 16) 15) : Int).toNat ((wrap64 ((Go.bits .and .i64 (t345 / 16) 15) + 1)) : Int).toNat).size ≤ 9223372036854775807 then (if 0 ≤ (Go.bits .and .i64 t345 15) then (if (Go.bits .and .i64 t345 15) ≤ (wrap64 ((Go.bits .and .i64 t345 15) + 1)) then (if (wrap64 ((Go.bits .and .i64 t345 15) + 1)) ≤ 16 then (if ((((⟨#[92, 117]⟩ : ByteArray) ++ ((⟨#[48, 49, 50, 51, 52, 53, 54, 55, 56, 57, 97, 98, 99, 100, 101, 102]⟩ : ByteArray).extract ((ji36) : Int).toNat ((wrap64 ((ji36) + 1)) : Int).toNat)) ++ ((⟨#[48, 49, 50, 51, 52, 53, 54, 55, 56, 57, 97, 98, 99, 100, 101, 102]⟩ : ByteArray).extract ((ji41) : Int).toNat ((wrap64 ((ji41) + 1)) : Int).toNat)) ++ ((⟨#[48, 49, 50, 51, 52, 53, 54, 55, 56, 57, 97, 98, 99, 100, 101, 102]⟩ : ByteArray).extract ((Go.bits .and .i64 (t345 / 16) 15) : Int).toNat ((wrap64 ((Go.bits .and .i64 (t345 / 16) 15) + 1)) : Int).toNat)).size + ((⟨#[48, 49, 50, 51, 52, 53, 54, 55, 56, 57, 97, 98, 99, 100, 101, 102]⟩ : ByteArray).extract ((Go.bits .and .i64 t345 15) : Int).toNat ((wrap64 ((Go.bits .and .i64 t345 15) + 1)) : Int).toNat).size ≤ 9223372036854775807 then (if x3_1.size + (((((⟨#[92, 117]⟩ : ByteArray) ++ ((⟨#[48, 49, 50, 51, 52, 53, 54, 55, 56, 57, 97, 98, 99, 100, 101, 102]⟩ : ByteArray).extract ((ji36) : Int).toNat ((wrap64 ((ji36) + 1)) : Int).toNat)) ++ ((⟨#[48, 49, 50, 51, 52, 53, 54, 55, 56, 57, 97, 98, 99, 100, 101, 102]⟩ : ByteArray).extract ((ji41) : Int).toNat ((wrap64 ((ji41) + 1)) : Int).toNat)) ++ ((⟨#[48, 49, 50, 51, 52, 53, 54, 55, 56, 57, 97, 98, 99, 100, 101, 102]⟩ : ByteArray).extract ((Go.bits .and .i64 (t345 / 16) 15) : Int).toNat ((wrap64 ((Go.bits .and .i64 (t345 / 16) 15) + 1)) : Int).toNat)) ++ ((⟨#[48, 49, 50, 51, 52, 53, 54, 55, 56, 57, 97, 98, 99, 100, 101, 102]⟩ : ByteArray).extract ((Go.bits .and .i64 t345 15) : Int).toNat ((wrap64 ((Go.bits .and .i64 t345 15) + 1)) : Int).toNat)).size ≤ 9223372036854775807 then (spec_Quote.l0 kj5 a0 (x3_1 ++ (((((⟨#[92, 117]⟩ : ByteArray) ++ ((⟨#[48, 49, 50, 51, 52, 53, 54, 55, 56, 57, 97, 98, 99, 100, 101, 102]⟩ : ByteArray).extract ((ji36) : Int).toNat ((wrap64 ((ji36) + 1)) : Int).toNat)) ++ ((⟨#[48, 49, 50, 51, 52, 53, 54, 55, 56, 57, 97, 98, 99, 100, 101, 102]⟩ : ByteArray).extract ((ji41) : Int).toNat ((wrap64 ((ji41) + 1)) : Int).toNat)) ++ ((⟨#[48, 49, 50, 51, 52, 53, 54, 55, 56, 57, 97, 98, 99, 100, 101, 102]⟩ : ByteArray).extract ((Go.bits .and .i64 (t345 / 16) 15) : Int).toNat ((wrap64 ((Go.bits .and .i64 (t345 / 16) 15) + 1)) : Int).toNat)) ++ ((⟨#[48, 49, 50, 51, 52, 53, 54, 55, 56, 57, 97, 98, 99, 100, 101, 102]⟩ : ByteArray).extract ((Go.bits .and .i64 t345 15) : Int).toNat ((wrap64 ((Go.bits .and .i64 t345 15) + 1)) : Int).toNat))) (wrap64 (x4_1 + t346))) else (none)) else (none)) else (none)) else (none)) else (none)) else (none)) else (none)) else (none)) else (none)) else (none)) else (none)) else (none)) else (none)) = some r := by first | (rw [hji41] at H; exact H) | (simp only [hji41] at H ⊢; exact H)
                            by_cases c42 : 0 ≤ (ji41)
                            · rw [if_pos c42] at H
                              have c42b0 := eq_true c42
                              try (have c42s := c42; simp only [ByteArray.size_append, ByteArray.size_extract] at c42s)
                              have c42b1 : decide (0 ≤ (ji41)) = true := decide_eq_true c42
                              clear c42
                              by_cases c43 : (ji41) ≤ (wrap64 ((ji41) + 1))
                              · rw [if_pos c43] at H
                                have c43b0 := eq_true c43
                                try (have c43s := c43; simp only [ByteArray.size_append, ByteArray.size_extract] at c43s)
                                have c43b1 : decide ((ji41) ≤ (wrap64 ((ji41) + 1))) = true := decide_eq_true c43
                                by_cases c44 : (wrap64 ((ji41) + 1)) ≤ 16
                                · rw [if_pos c44] at H
                                  have c44b0 := eq_true c44
                                  try (have c44s := c44; simp only [ByteArray.size_append, ByteArray.size_extract] at c44s)
                                  have c44b1 : decide ((wrap64 ((ji41) + 1)) ≤ 16) = true := decide_eq_true c44
                                  by_cases c45 : ((⟨#[92, 117]⟩ : ByteArray) ++ ((⟨#[48, 49, 50, 51, 52, 53, 54, 55, 56, 57, 97, 98, 99, 100, 101, 102]⟩ : ByteArray).extract ((ji36) : Int).toNat ((wrap64 ((ji36) + 1)) : Int).toNat)).size + ((⟨#[48, 49, 50, 51, 52, 53, 54, 55, 56, 57, 97, 98, 99, 100, 101, 102]⟩ : ByteArray).extract ((ji41) : Int).toNat ((wrap64 ((ji41) + 1)) : Int).toNat).size ≤ 9223372036854775807
                                  · rw [if_pos c45] at H
                                    have c45b0 := eq_true c45
                                    try (have c45s := c45; simp only [ByteArray.size_append, ByteArray.size_extract] at c45s)
                                    have c45b1 : decide (((⟨#[92, 117]⟩ : ByteArray) ++ ((⟨#[48, 49, 50, 51, 52, 53, 54, 55, 56, 57, 97, 98, 99, 100, 101, 102]⟩ : ByteArray).extract ((ji36) : Int).toNat ((wrap64 ((ji36) + 1)) : Int).toNat)).size + ((⟨#[48, 49, 50, 51, 52, 53, 54, 55, 56, 57, 97, 98, 99, 100, 101, 102]⟩ : ByteArray).extract ((ji41) : Int).toNat ((wrap64 ((ji41) + 1)) : Int).toNat).size ≤ 9223372036854775807) = true := decide_eq_true c45
                                    try have c45b2 : (9223372036854775807 < ((⟨#[92, 117]⟩ : ByteArray) ++ ((⟨#[48, 49, 50, 51, 52, 53, 54, 55, 56, 57, 97, 98, 99, 100, 101, 102]⟩ : ByteArray).extract ((ji36) : Int).toNat ((wrap64 ((ji36) + 1)) : Int).toNat)).size + ((⟨#[48, 49, 50, 51, 52, 53, 54, 55, 56, 57, 97, 98, 99, 100, 101, 102]⟩ : ByteArray).extract ((ji41) : Int).toNat ((wrap64 ((ji41) + 1)) : Int).toNat).size) = False := eq_false (Nat.not_lt.2 c45)
                                    obtain ⟨ji46, hji46⟩ : ∃ j_ : Int, (Go.bits .and .i64 (t345 / 16) 15) = j_ := ⟨_, rfl⟩
                                    replace H : (if 0 ≤ (ji46) then (if (ji46) ≤ (wrap64 ((ji46) + 1)) then (if (wrap64 ((ji46) + 1)) ≤ 16 then (if (((⟨#[92, 117]⟩ : ByteArray) ++ ((⟨#[48, 49, 50, 51, 52, 53, 54, 55, 56, 57, 97, 98, 99, 100, 101, 102]⟩ : ByteArray).extract ((ji36) : Int).toNat ((wrap64 ((ji36) + 1)) : Int).toNat)) ++ ((⟨#[48, 49, 50, 51, 52, 53, 54, 55, 56, 57, 97, 98, 99, 100, 101, 102]⟩ : ByteArray).extract ((ji41) : Int).toNat ((wrap64 ((ji41) + 1)) : Int).toNat)).size + ((⟨#[48, 49, 50, 51, 52, 53, 54, 55, 56, 57, 97, 98, 99, 100, 101, 102]⟩ : ByteArray).extract ((ji46) : Int).toNat ((wrap64 ((ji46) + 1)) : Int).toNat).size ≤ 9223372036854775807 then (if 0 ≤ (Go.bits .and .i64 t345 15) then (if (Go.bits .and .i64 t345 15) ≤ (wrap64 ((Go.bits .and .i64 t345 15) + 1)) then (if (wrap64 ((Go.bits .and .i64 t345 15) + 1)) ≤ 16 then (if ((((⟨#[92, 117]⟩ : ByteArray) ++ ((⟨#[48, 49, 50, 51, 52, 53, 54, 55, 56, 57, 97, 98, 99, 100, 101, 102]⟩ : ByteArray).extract ((ji36) : Int).toNat ((wrap64 ((ji36) + 1)) : Int).toNat)) ++ ((⟨#[48, 49, 50, 51, 52, 53, 54, 55, 56, 57, 97, 98, 99, 100, 101, 102]⟩ : ByteArray).extract ((ji41) : Int).toNat ((wrap64 ((ji41) + 1)) : Int).toNat)) ++ ((⟨#[48, 49, 50, 51, 52, 53, 54, 55, 56, 57, 97, 98, 99, 100, 101, 102]⟩ : ByteArray).extract ((ji46) : Int).toNat ((wrap64 ((ji46) + 1)) : Int).toNat)).size + ((⟨#[48, 49, 50, 51, 52, 53, 54, 55, 56, 57, 97, 98, 99, 100, 101, 102]⟩ : ByteArray).extract ((Go.bits .and .i64 t345 15) : Int).toNat ((wrap64 ((Go.bits .and .i64 t345 15) + 1)) : Int).toNat).size ≤ 9223372036854775807 then (if x3_1.size + (((((⟨#[92, 117]⟩ : ByteArray) ++ ((⟨#[48, 49, 50, 51, 52, 53, 54, 55, 56, 57, 97, 98, 99, 100, 101, 102]⟩ : ByteArray).extract ((ji36) : Int).toNat ((wrap64 ((ji36) + 1)) : Int).toNat)) ++ ((⟨#[48, 49, 50, 51, 52, 53, 54, 55, 56, 57, 97, 98, 99, 100, 101, 102]⟩ : ByteArray).extract ((ji41) : Int).toNat ((wrap64 ((ji41) + 1)) : Int).toNat)) ++ ((⟨#[48, 49, 50, 51, 52, 53, 54, 55, 56, 57, 97, 98, 99, 100, 101, 102]⟩ : ByteArray).extract ((ji46) : Int).toNat ((wrap64 ((ji46) + 1)) : Int).toNat)) ++ ((⟨#[48, 49, 50, 51, 52, 53, 54, 55, 56, 57, 97, 98, 99, 100, 101, 102]⟩ : ByteArray).extract ((Go.bits .and .i64 t345 15) : Int).toNat ((wrap64 ((Go.bits .and .i64 t345 15) + 1)) : Int).toNat)).size ≤ 9223372036854775807 then (spec_Quote.l0 kj5 a0 (x3_1 ++ (((((⟨#[92, 117]⟩ : ByteArray) ++ ((⟨#[48, 49, 50, 51, 52, 53, 54, 55, 56, 57, 97, 98, 99, 100, 101, 102]⟩ : ByteArray).extract ((ji36) : Int).toNat ((wrap64 ((ji36) + 1)) : Int).toNat)) ++ ((⟨#[48, 49, 50, 51, 52, 53, 54, 55, 56, 57, 97, 98, 99, 100, 101, 102]⟩ : ByteArray).extract ((ji41) : Int).toNat ((wrap64 ((ji41) + 1)) : Int).toNat)) ++ ((⟨#[48, 49, 50, 51, 52, 53, 54, 55, 56, 57, 97, 98, 99, 100, 101, 102]⟩ : ByteArray).extract ((ji46) : Int).toNat ((wrap64 ((ji46) + 1)) : Int).toNat)) ++ ((⟨#[48, 49, 50, 51, 52, 53, 54, 55, 56, 57, 97, 98, 99, 100, 101, 102]⟩ : ByteArray).extract ((Go.bits .and .i64 t345 15) : Int).toNat ((wrap64 ((Go.bits .and .i64 t345 15) + 1)) : Int).toNat))) (wrap64 (x4_1 + t346))) else (none)) else (none)) else (none)) else (none)) else (none)) else (none)) else (none)) else (none)) else (none)) = some r := by first | (rw [hji46] at H; exact H) | (simp only [hji46] at H ⊢; exact H)
                                    by_cases c47 : 0 ≤ (ji46)
                                    · rw [if_pos c47] at H
                                      have c47b0 := eq_true c47
                                      try (have c47s := c47; simp only [ByteArray.size_append, ByteArray.size_extract] at c47s)
                                      have c47b1 : decide (0 ≤ (ji46)) = true := decide_eq_true c47
                                      clear c47
                                      by_cases c48 : (ji46) ≤ (wrap64 ((ji46) + 1))
                                      · rw [if_pos c48] at H
                                        have c48b0 := eq_true c48
                                        try (have c48s := c48; simp only [ByteArray.size_append, ByteArray.size_extract] at c48s)
                                        have c48b1 : decide ((ji46) ≤ (wrap64 ((ji46) + 1))) = true := decide_eq_true c48
                                        by_cases c49 : (wrap64 ((ji46) + 1)) ≤ 16
                                        · rw [if_pos c49] at H
                                          have c49b0 := eq_true c49
                                          try (have c49s := c49; simp only [ByteArray.size_append, ByteArray.size_extract] at c49s)
                                          have c49b1 : decide ((wrap64 ((ji46) + 1)) ≤ 16) = true := decide_eq_true c49
                                          by_cases c50 : (((⟨#[92, 117]⟩ : ByteArray) ++ ((⟨#[48, 49, 50, 51, 52, 53, 54, 55, 56, 57, 97, 98, 99, 100, 101, 102]⟩ : ByteArray).extract ((ji36) : Int).toNat ((wrap64 ((ji36) + 1)) : Int).toNat)) ++ ((⟨#[48, 49, 50, 51, 52, 53, 54, 55, 56, 57, 97, 98, 99, 100, 101, 102]⟩ : ByteArray).extract ((ji41) : Int).toNat ((wrap64 ((ji41) + 1)) : Int).toNat)).size + ((⟨#[48, 49, 50, 51, 52, 53, 54, 55, 56, 57, 97, 98, 99, 100, 101, 102]⟩ : ByteArray).extract ((ji46) : Int).toNat ((wrap64 ((ji46) + 1)) : Int).toNat).size ≤ 9223372036854775807
                                          · rw [if_pos c50] at H
                                            have c50b0 := eq_true c50
                                            try (have c50s := c50; simp only [ByteArray.size_append, ByteArray.size_extract] at c50s)
                                            have c50b1 : decide ((((⟨#[92, 117]⟩ : ByteArray) ++ ((⟨#[48, 49, 50, 51, 52, 53, 54, 55, 56, 57, 97, 98, 99, 100, 101, 102]⟩ : ByteArray).extract ((ji36) : Int).toNat ((wrap64 ((ji36) + 1)) : Int).toNat)) ++ ((⟨#[48, 49, 50, 51, 52, 53, 54, 55, 56, 57, 97, 98, 99, 100, 101, 102]⟩ : ByteArray).extract ((ji41) : Int).toNat ((wrap64 ((ji41) + 1)) : Int).toNat)).size + ((⟨#[48, 49, 50, 51, 52, 53, 54, 55, 56, 57, 97, 98, 99, 100, 101, 102]⟩ : ByteArray).extract ((ji46) : Int).toNat ((wrap64 ((ji46) + 1)) : Int).toNat).size ≤ 9223372036854775807) = true := decide_eq_true c50
                                            try have c50b2 : (9223372036854775807 < (((⟨#[92, 117]⟩ : ByteArray) ++ ((⟨#[48, 49, 50, 51, 52, 53, 54, 55, 56, 57, 97, 98, 99, 100, 101, 102]⟩ : ByteArray).extract ((ji36) : Int).toNat ((wrap64 ((ji36) + 1)) : Int).toNat)) ++ ((⟨#[48, 49, 50, 51, 52, 53, 54, 55, 56, 57, 97, 98, 99, 100, 101, 102]⟩ : ByteArray).extract ((ji41) : Int).toNat ((wrap64 ((ji41) + 1)) : Int).toNat)).size + ((⟨#[48, 49, 50, 51, 52, 53, 54, 55, 56, 57, 97, 98, 99, 100, 101, 102]⟩ : ByteArray).extract ((ji46) : Int).toNat ((wrap64 ((ji46) + 1)) : Int).toNat).size) = False := eq_false (Nat.not_lt.2 c50)
                                            by_cases c51 : 0 ≤ (Go.bits .and .i64 t345 15)
                                            · rw [if_pos c51] at H
                                              have c51b0 := eq_true c51
                                              try (have c51s := c51; simp only [ByteArray.size_append, ByteArray.size_extract] at c51s)
                                              have c51b1 : decide (0 ≤ (Go.bits .and .i64 t345 15)) = true := decide_eq_true c51
                                              clear c51
                                              by_cases c52 : (Go.bits .and .i64 t345 15) ≤ (wrap64 ((Go.bits .and .i64 t345 15) + 1))
                                              · rw [if_pos c52] at H
                                                have c52b0 := eq_true c52
                                                try (have c52s := c52; simp only [ByteArray.size_append, ByteArray.size_extract] at c52s)
                                                have c52b1 : decide ((Go.bits .and .i64 t345 15) ≤ (wrap64 ((Go.bits .and .i64 t345 15) + 1))) = true := decide_eq_true c52
                                                by_cases c53 : (wrap64 ((Go.bits .and .i64 t345 15) + 1)) ≤ 16
                                                · rw [if_pos c53] at H
                                                  have c53b0 := eq_true c53
                                                  try (have c53s := c53; simp only [ByteArray.size_append, ByteArray.size_extract] at c53s)
                                                  have c53b1 : decide ((wrap64 ((Go.bits .and .i64 t345 15) + 1)) ≤ 16) = true := decide_eq_true c53
                                                  by_cases c54 : ((((⟨#[92, 117]⟩ : ByteArray) ++ ((⟨#[48, 49, 50, 51, 52, 53, 54, 55, 56, 57, 97, 98, 99, 100, 101, 102]⟩ : ByteArray).extract ((ji36) : Int).toNat ((wrap64 ((ji36) + 1)) : Int).toNat)) ++ ((⟨#[48, 49, 50, 51, 52, 53, 54, 55, 56, 57, 97, 98, 99, 100, 101, 102]⟩ : ByteArray).extract ((ji41) : Int).toNat ((wrap64 ((ji41) + 1)) : Int).toNat)) ++ ((⟨#[48, 49, 50, 51, 52, 53, 54, 55, 56, 57, 97, 98, 99, 100, 101, 102]⟩ : ByteArray).extract ((ji46) : Int).toNat ((wrap64 ((ji46) + 1)) : Int).toNat)).size + ((⟨#[48, 49, 50, 51, 52, 53, 54, 55, 56, 57, 97, 98, 99, 100, 101, 102]⟩ : ByteArray).extract ((Go.bits .and .i64 t345 15) : Int).toNat ((wrap64 ((Go.bits .and .i64 t345 15) + 1)) : Int).toNat).size ≤ 9223372036854775807
                                                  · rw [if_pos c54] at H
                                                    have c54b0 := eq_true c54
                                                    try (have c54s := c54; simp only [ByteArray.size_append, ByteArray.size_extract] at c54s)
                                                    have c54b1 : decide (((((⟨#[92, 117]⟩ : ByteArray) ++ ((⟨#[48, 49, 50, 51, 52, 53, 54, 55, 56, 57, 97, 98, 99, 100, 101, 102]⟩ : ByteArray).extract ((ji36) : Int).toNat ((wrap64 ((ji36) + 1)) : Int).toNat)) ++ ((⟨#[48, 49, 50, 51, 52, 53, 54, 55, 56, 57, 97, 98, 99, 100, 101, 102]⟩ : ByteArray).extract ((ji41) : Int).toNat ((wrap64 ((ji41) + 1)) : Int).toNat)) ++ ((⟨#[48, 49, 50, 51, 52, 53, 54, 55, 56, 57, 97, 98, 99, 100, 101, 102]⟩ : ByteArray).extract ((ji46) : Int).toNat ((wrap64 ((ji46) + 1)) : Int).toNat)).size + ((⟨#[48, 49, 50, 51, 52, 53, 54, 55, 56, 57, 97, 98, 99, 100, 101, 102]⟩ : ByteArray).extract ((Go.bits .and .i64 t345 15) : Int).toNat ((wrap64 ((Go.bits .and .i64 t345 15) + 1)) : Int).toNat).size ≤ 9223372036854775807) = true := decide_eq_true c54
                                                    try have c54b2 : (9223372036854775807 < ((((⟨#[92, 117]⟩ : ByteArray) ++ ((⟨#[48, 49, 50, 51, 52, 53, 54, 55, 56, 57, 97, 98, 99, 100, 101, 102]⟩ : ByteArray).extract ((ji36) : Int).toNat ((wrap64 ((ji36) + 1)) : Int).toNat)) ++ ((⟨#[48, 49, 50, 51, 52, 53, 54, 55, 56, 57, 97, 98, 99, 100, 101, 102]⟩ : ByteArray).extract ((ji41) : Int).toNat ((wrap64 ((ji41) + 1)) : Int).toNat)) ++ ((⟨#[48, 49, 50, 51, 52, 53, 54, 55, 56, 57, 97, 98, 99, 100, 101, 102]⟩ : ByteArray).extract ((ji46) : Int).toNat ((wrap64 ((ji46) + 1)) : Int).toNat)).size + ((⟨#[48, 49, 50, 51, 52, 53, 54, 55, 56, 57, 97, 98, 99, 100, 101, 102]⟩ : ByteArray).extract ((Go.bits .and .i64 t345 15) : Int).toNat ((wrap64 ((Go.bits .and .i64 t345 15) + 1)) : Int).toNat).size) = False := eq_false (Nat.not_lt.2 c54)
                                                    by_cases c55 : x3_1.size + (((((⟨#[92, 117]⟩ : ByteArray) ++ ((⟨#[48, 49, 50, 51, 52, 53, 54, 55, 56, 57, 97, 98, 99, 100, 101, 102]⟩ : ByteArray).extract ((ji36) : Int).toNat ((wrap64 ((ji36) + 1)) : Int).toNat)) ++ ((⟨#[48, 49, 50, 51, 52, 53, 54, 55, 56, 57, 97, 98, 99, 100, 101, 102]⟩ : ByteArray).extract ((ji41) : Int).toNat ((wrap64 ((ji41) + 1)) : Int).toNat)) ++ ((⟨#[48, 49, 50, 51, 52, 53, 54, 55, 56, 57, 97, 98, 99, 100, 101, 102]⟩ : ByteArray).extract ((ji46) : Int).toNat ((wrap64 ((ji46) + 1)) : Int).toNat)) ++ ((⟨#[48, 49, 50, 51, 52, 53, 54, 55, 56, 57, 97, 98, 99, 100, 101, 102]⟩ : ByteArray).extract ((Go.bits .and .i64 t345 15) : Int).toNat ((wrap64 ((Go.bits .and .i64 t345 15) + 1)) : Int).toNat)).size ≤ 9223372036854775807
                                                    · rw [if_pos c55] at H
                                                      have c55b0 := eq_true c55
                                                      try (have c55s := c55; simp only [ByteArray.size_append, ByteArray.size_extract] at c55s)
                                                      have c55b1 : decide (x3_1.size + (((((⟨#[92, 117]⟩ : ByteArray) ++ ((⟨#[48, 49, 50, 51, 52, 53, 54, 55, 56, 57, 97, 98, 99, 100, 101, 102]⟩ : ByteArray).extract ((ji36) : Int).toNat ((wrap64 ((ji36) + 1)) : Int).toNat)) ++ ((⟨#[48, 49, 50, 51, 52, 53, 54, 55, 56, 57, 97, 98, 99, 100, 101, 102]⟩ : ByteArray).extract ((ji41) : Int).toNat ((wrap64 ((ji41) + 1)) : Int).toNat)) ++ ((⟨#[48, 49, 50, 51, 52, 53, 54, 55, 56, 57, 97, 98, 99, 100, 101, 102]⟩ : ByteArray).extract ((ji46) : Int).toNat ((wrap64 ((ji46) + 1)) : Int).toNat)) ++ ((⟨#[48, 49, 50, 51, 52, 53, 54, 55, 56, 57, 97, 98, 99, 100, 101, 102]⟩ : ByteArray).extract ((Go.bits .and .i64 t345 15) : Int).toNat ((wrap64 ((Go.bits .and .i64 t345 15) + 1)) : Int).toNat)).size ≤ 9223372036854775807) = true := decide_eq_true c55
                                                      try have c55b2 : (9223372036854775807 < x3_1.size + (((((⟨#[92, 117]⟩ : ByteArray) ++ ((⟨#[48, 49, 50, 51, 52, 53, 54, 55, 56, 57, 97, 98, 99, 100, 101, 102]⟩ : ByteArray).extract ((ji36) : Int).toNat ((wrap64 ((ji36) + 1)) : Int).toNat)) ++ ((⟨#[48, 49, 50, 51, 52, 53, 54, 55, 56, 57, 97, 98, 99, 100, 101, 102]⟩ : ByteArray).extract ((ji41) : Int).toNat ((wrap64 ((ji41) + 1)) : Int).toNat)) ++ ((⟨#[48, 49, 50, 51, 52, 53, 54, 55, 56, 57, 97, 98, 99, 100, 101, 102]⟩ : ByteArray).extract ((ji46) : Int).toNat ((wrap64 ((ji46) + 1)) : Int).toNat)) ++ ((⟨#[48, 49, 50, 51, 52, 53, 54, 55, 56, 57, 97, 98, 99, 100, 101, 102]⟩ : ByteArray).extract ((Go.bits .and .i64 t345 15) : Int).toNat ((wrap64 ((Go.bits .and .i64 t345 15) + 1)) : Int).toNat)).size) = False := eq_false (Nat.not_lt.2 c55)
                                                      have H' := Aside0.mk H
                                                      clear H
                                                      go_wp2
                                                      repeat (go_quiet (fail); try go_wp2)
                                                      go_roundg kj5
                                                      case measure => have := HK1.out; have := HJ5.out; omega
                                                      case rel => exact ⟨(x3_1 ++ (((((⟨#[92, 117]⟩ : ByteArray) ++ ((⟨#[48, 49, 50, 51, 52, 53, 54, 55, 56, 57, 97, 98, 99, 100, 101, 102]⟩ : ByteArray).extract ((ji36) : Int).toNat ((wrap64 ((ji36) + 1)) : Int).toNat)) ++ ((⟨#[48, 49, 50, 51, 52, 53, 54, 55, 56, 57, 97, 98, 99, 100, 101, 102]⟩ : ByteArray).extract ((ji41) : Int).toNat ((wrap64 ((ji41) + 1)) : Int).toNat)) ++ ((⟨#[48, 49, 50, 51, 52, 53, 54, 55, 56, 57, 97, 98, 99, 100, 101, 102]⟩ : ByteArray).extract ((ji46) : Int).toNat ((wrap64 ((ji46) + 1)) : Int).toNat)) ++ ((⟨#[48, 49, 50, 51, 52, 53, 54, 55, 56, 57, 97, 98, 99, 100, 101, 102]⟩ : ByteArray).extract ((Go.bits .and .i64 t345 15) : Int).toNat ((wrap64 ((Go.bits .and .i64 t345 15) + 1)) : Int).toNat))), (wrap64 (x4_1 + t346)), (by first | rfl | (simp; done) | (simp only [← hji36, ← hji41, ← hji46] <;> (first | rfl | simp)) | (simp [*]; done)), (by first | rfl | (simp; done) | (simp [*]; done)), H', ⟨by have := HK1.out; have := HJ5.out; omega⟩, by repeat (first | exact Drawn0.refl _ | apply Drawn0.step)⟩
                                                    · rw [if_neg c55] at H
                                                      exact absurd H (by simp)
                                                  · rw [if_neg c54] at H
                                                    exact absurd H (by simp)
                                                · rw [if_neg c53] at H
                                                  exact absurd H (by simp)
                                              · rw [if_neg c52] at H
                                                exact absurd H (by simp)
                                            · rw [if_neg c51] at H
                                              exact absurd H (by simp)
                                          · rw [if_neg c50] at H
                                            exact absurd H (by simp)
                                        · rw [if_neg c49] at H
                                          exact absurd H (by simp)
                                      · rw [if_neg c48] at H
                                        exact absurd H (by simp)
                                    · rw [if_neg c47] at H
                                      exact absurd H (by simp)
                                  · rw [if_neg c45] at H
                                    exact absurd H (by simp)
                                · rw [if_neg c44] at H
                                  exact absurd H (by simp)
                              · rw [if_neg c43] at H
                                exact absurd H (by simp)
                            · rw [if_neg c42] at H
                              exact absurd H (by simp)
                          · rw [if_neg c40] at H
                            exact absurd H (by simp)
                        · rw [if_neg c39] at H
                          exact absurd H (by simp)
                      · rw [if_neg c38] at H
                        exact absurd H (by simp)
                    · rw [if_neg c37] at H
                      exact absurd H (by simp)
                  · rw [if_neg c35] at H
                    have c35b0 : (t345 == 127) = false := beq_eq_false_iff_ne.mpr c35
                    have c35b1 : (t345 != 127) = true := bne_iff_ne.mpr c35
                    by_cases c56 : t345 = 65279
                    · rw [if_pos c56] at H
                      have c56b0 : (t345 == 65279) = true := beq_iff_eq.mpr c56
                      have c56b1 : (t345 != 65279) = false := bne_eq_false_iff_eq.mpr c56
                      clear c56
                      obtain ⟨ji57, hji57⟩ : ∃ j_ : Int, (t345 / 4096) = j_ := ⟨_, rfl⟩
                      replace H : (if 0 ≤ (ji57) then (if (ji57) ≤ (wrap64 ((ji57) + 1)) then (if (wrap64 ((ji57) + 1)) ≤ 16 then (if 2 + ((⟨#[48, 49, 50, 51, 52, 53, 54, 55, 56, 57, 97, 98, 99, 100, 101, 102]⟩ : ByteArray).extract ((ji57) : Int).toNat ((wrap64 ((ji57) + 1)) : Int).toNat).size ≤ 9223372036854775807 then (if 0 ≤ (Go.bits .and .i64 (t345 / 256) 15) then (if (Go.bits .and .i64 (t345 / 256) 15) ≤ (wrap64 ((Go.bits .and .i64 (t345 / 256) 15) + 1)) then (if (wrap64 ((Go.bits .and .i64 (t345 / 256) 15) + 1)) ≤ 16 then (if ((⟨#[92, 117]⟩ : ByteArray) ++ ((⟨#[48, 49, 50, 51, 52, 53, 54, 55, 56, 57, 97, 98, 99, 100, 101, 102]⟩ : ByteArray).extract ((ji57) : Int).toNat ((wrap64 ((ji57) + 1)) : Int).toNat)).size + ((⟨#[48, 49, 50, 51, 52, 53, 54, 55, 56, 57, 97, 98, 99, 100, 101, 102]⟩ : ByteArray).extract ((Go.bits .and .i64 (t345 / 256) 15) : Int).toNat ((wrap64 ((Go.bits .and .i64 (t345 / 256) 15) + 1)) : Int).toNat).size ≤ 9223372036854775807 then (if 0 ≤ (Go.bits .and .i64 (t345 / 16) 15) then (if (Go.bits .and .i64 (t345 / 16) 15) ≤ (wrap64 ((Go.bits .and .i64 (t345 / 16) 15) + 1)) then (if (wrap64 ((Go.bits .and .i64 (t345 / 16) 15) + 1)) ≤ 16 then (if (((⟨#[92, 117]⟩ : ByteArray) ++ ((⟨#[48, 49, 50, 51, 52, 53, 54, 55, 56, 57, 97, 98, 99, 100, 101, 102]⟩ : ByteArray).extract ((ji57) : Int).toNat ((wrap64 ((ji57) + 1)) : Int).toNat)) ++ ((⟨#[48, 49, 50, 51, 52, 53, 54, 55, 56, 57, 97, 98, 99, 100, 101, 102]⟩ : ByteArray).extract ((Go.bits .and .i64 (t345 / 256) 15) : Int).toNat ((wrap64 ((Go.bits .and .i64 (t345 / 256) 15) + 1)) : Int).toNat)).size + ((⟨#[48, 49, 50, 51, 52, 53, 54, 55, 56, 57, 97, 98, 99, 100, 101, 102]⟩ : ByteArray).extract ((Go.bits .and .i64 (t345 / 16) 15) : Int).toNat ((wrap64 ((Go.bits .and .i64 (t345 / 16) 15) + 1)) : Int).toNat).size ≤ 9223372036854775807 then (if 0 ≤ (Go.bits .and .i64 t345 15) then (if (Go.bits .and .i64 t345 15) ≤ (wrap64 ((Go.bits .and .i64 t345 15) + 1)) then (if (wrap64 ((Go.bits .and .i64 t345 15) + 1)) ≤ 16 then (if ((((⟨#[92, 117]⟩ : ByteArray) ++ ((⟨#[48, 49, 50, 51, 52, 53, 54, 55, 56, 57, 97, 98, 99, 100, 101, 102]⟩ : ByteArray).extract ((ji57) : Int).toNat ((wrap64 ((ji57) + 1)) : Int).toNat)) ++ ((⟨#[48, 49, 50, 51, 52, 53, 54, 55, 56, 57, 97, 98, 99, 100, 101, 102]⟩ : ByteArray).extract ((Go.bits .and .i64 (t345 / 256) 15) : Int).toNat ((wrap64 ((Go.bits .and .i64 (t345 / 256) 15) + 1)) : Int).toNat)) ++ ((⟨#[48, 49, 50, 51, 52, 53, 54, 55, 56, 57, 97, 98, 99, 100, 101, 102]⟩ : ByteArray).extract ((Go.bits .and .i64 (t345 / 16) 15) : Int).toNat ((wrap64 ((Go.bits .and .i64 (t345 / 16) 15) + 1)) : Int).toNat)).size + ((⟨#[48, 49, 50, 51, 52, 53, 54, 55, 56, 57, 97, 98, 99, 100, 101, 102]⟩ : ByteArray).extract ((Go.bits .and .i64 t345 15) : Int).toNat ((wrap64 ((Go.bits .and .i64 t345 15) + 1)) : Int).toNat).size ≤ 9223372036854775807 then (if x3_1.size + (((((⟨#[92, 117]⟩ : ByteArray) ++ ((⟨#[48, 49, 50, 51, 52, 53, 54, 55, 56, 57, 97, 98, 99, 100, 101, 102]⟩ : ByteArray).extract ((ji57) : Int).toNat ((wrap64 ((ji57) + 1)) : Int).toNat)) ++ ((⟨#[48, 49, 50, 51, 52, 53, 54, 55, 56, 57, 97, 98, 99, 100, 101, 102]⟩ : ByteArray).extract ((Go.bits .and .i64 (t345 / 256) 15) : Int).toNat ((wrap64 ((Go.bits .and .i64 (t345 / 256) 15) + 1)) : Int).toNat)) ++ ((⟨#[48, 49, 50, 51, 52, 53, 54, 55, 56, 57, 97, 98, 99, 100, 101, 102]⟩ : ByteArray).extract ((Go.bits .and .i64 (t345 / 16) 15) : Int).toNat ((wrap64 ((Go.bits .and .i64 (t345 / 16) 15) + 1)) : Int).toNat)) ++ ((⟨#[48, 49, 50, 51, 52, 53, 54, 55, 56, 57, 97, 98, 99, 100, 101, 102]⟩ : ByteArray).extract ((Go.bits .and .i64 t345 15) : Int).toNat ((wrap64 ((Go.bits .and .i64 t345 15) + 1)) : Int).toNat)).size ≤ 9223372036854775807 then (spec_Quote.l0 kj5 a0 (x3_1 ++ (((((⟨#[92, 117]⟩ : ByteArray) ++ ((⟨#[48, 49, 50, 51, 52, 53, 54, 55, 56, 57, 97, 98, 99, 100, 101, 102]⟩ : ByteArray).extract ((ji57) : Int).toNat ((wrap64 ((ji57) + 1)) : Int).toNat)) ++ ((⟨#[48, 49, 50, 51, 52, 53, 54, 55, 56, 57, 97, 98, 99, 100, 101, 102]⟩ : ByteArray).extract ((Go.bits .and .i64 (t345 / 256) 15) : Int).toNat ((wrap64 ((Go.bits .and .i64 (t345 / 256) 15) + 1)) : Int).toNat)) ++ ((⟨#[48, 49, 50, 51, 52, 53, 54, 55, 56, 57, 97, 98, 99, 100, 101, 102]⟩ : ByteArray).extract ((Go.bits .and .i64 (t345 / 16) 15) : Int).toNat ((wrap64 ((Go.bits .and .i64 (t345 / 16) 15) + 1)) : Int).toNat)) ++ ((⟨#[48, 49, 50, 51, 52, 53, 54, 55, 56, 57, 97, 98, 99, 100, 101, 102]⟩ : ByteArray).extract ((Go.bits .and .i64 t345 15) : Int).toNat ((wrap64 ((Go.bits .and .i64 t345 15) + 1)) : Int).toNat))) (wrap64 (x4_1 + t346))) else (none)) else (none)) else (none)) else (none)) else (none)) else (none)) else (none)) else (none)) else (none)) else (none)) else (none)) else (none)) else (none)) else (none)) else (none)) else (none)) else (none)) = some r := by first | (rw [hji57] at H; exact H) | (simp only [hji57] at H ⊢; exact H)
                      by_cases c58 : 0 ≤ (ji57)
                      · rw [if_pos c58] at H
                        have c58b0 := eq_true c58
                        try (have c58s := c58; simp only [ByteArray.size_append, ByteArray.size_extract] at c58s)
                        have c58b1 : decide (0 ≤ (ji57)) = true := decide_eq_true c58
                        clear c58
                        by_cases c59 : (ji57) ≤ (wrap64 ((ji57) + 1))
                        · rw [if_pos c59] at H
                          have c59b0 := eq_true c59
                          try (have c59s := c59; simp only [ByteArray.size_append, ByteArray.size_extract] at c59s)
                          have c59b1 : decide ((ji57) ≤ (wrap64 ((ji57) + 1))) = true := decide_eq_true c59
                          by_cases c60 : (wrap64 ((ji57) + 1)) ≤ 16
                          · rw [if_pos c60] at H
                            have c60b0 := eq_true c60
                            try (have c60s := c60; simp only [ByteArray.size_append, ByteArray.size_extract] at c60s)
                            have c60b1 : decide ((wrap64 ((ji57) + 1)) ≤ 16) = true := decide_eq_true c60
                            by_cases c61 : 2 + ((⟨#[48, 49, 50, 51, 52, 53, 54, 55, 56, 57, 97, 98, 99, 100, 101, 102]⟩ : ByteArray).extract ((ji57) : Int).toNat ((wrap64 ((ji57) + 1)) : Int).toNat).size ≤ 9223372036854775807
                            · rw [if_pos c61] at H
                              have c61b0 := eq_true c61
                              try (have c61s := c61; simp only [ByteArray.size_append, ByteArray.size_extract] at c61s)
                              have c61b1 : decide (2 + ((⟨#[48, 49, 50, 51, 52, 53, 54, 55, 56, 57, 97, 98, 99, 100, 101, 102]⟩ : ByteArray).extract ((ji57) : Int).toNat ((wrap64 ((ji57) + 1)) : Int).toNat).size ≤ 9223372036854775807) = true := decide_eq_true c61
                              try have c61b2 : (9223372036854775807 < 2 + ((⟨#[48, 49, 50, 51, 52, 53, 54, 55, 56, 57, 97, 98, 99, 100, 101, 102]⟩ : ByteArray).extract ((ji57) : Int).toNat ((wrap64 ((ji57) + 1)) : Int).toNat).size) = False := eq_false (Nat.not_lt.2 c61)
                              obtain ⟨ji62, hji62⟩ : ∃ j_ : Int, (Go.bits .and .i64 (t345 / 256) 15) = j_ := ⟨_, rfl⟩
                              replace H : (if 0 ≤ (ji62) then (if (ji62) ≤ (wrap64 ((ji62) + 1)) then (if (wrap64 ((ji62) + 1)) ≤ 16 then (if ((⟨#[92, 117]⟩ : ByteArray) ++ ((⟨#[48, 49, 50, 51, 52, 53, 54, 55, 56, 57, 97, 98, 99, 100, 101, 102]⟩ : ByteArray).extract ((ji57) : Int).toNat ((wrap64 ((ji57) + 1)) : Int).toNat)).size + ((⟨#[48, 49, 50, 51, 52, 53, 54, 55, 56, 57, 97, 98, 99, 100, 101, 102]⟩ : ByteArray).extract ((ji62) : Int).toNat ((wrap64 ((ji62) + 1)) : Int).toNat).size ≤ 9223372036854775807 then (if 0 ≤ (Go.bits .and .i64 (t345 / 16) 15) then (if (Go.bits .and .i64 (t345 / 16) 15) ≤ (wrap64 ((Go.bits .and .i64 (t345 / 16) 15) + 1)) then (if (wrap64 ((Go.bits .and .i64 (t345 / 16) 15) + 1)) ≤ 16 then (if (((⟨#[92, 117]⟩ : ByteArray) ++ ((⟨#[48, 49, 50, 51, 52, 53, 54, 55, 56, 57, 97, 98, 99, 100, 101, 102]⟩ : ByteArray).extract ((ji57) : Int).toNat ((wrap64 ((ji57) + 1)) : Int).toNat)) ++ ((⟨#[48, 49, 50, 51, 52, 53, 54, 55, 56, 57, 97, 98, 99, 100, 101, 102]⟩ : ByteArray).extract ((ji62) : Int).toNat ((wrap64 ((ji62) + 1)) : Int).toNat)).size + ((⟨#[48, 49, 50, 51, 52, 53, 54, 55, 56, 57, 97, 98, 99, 100, 101, 102]⟩ : ByteArray).extract ((Go.bits .and .i64 (t345 / 16) 15) : Int).toNat ((wrap64 ((Go.bits .and .i64 (t345 / 16) 15) + 1)) : Int).toNat).size ≤ 9223372036854775807 then (if 0 ≤ (Go.bits .and .i64 t345 15) then (if (Go.bits .and .i64 t345 15) ≤ (wrap64 ((Go.bits .and .i64 t345 15) + 1)) then (if (wrap64 ((Go.bits .and .i64 t345 15) + 1)) ≤ 16 then (if ((((⟨#[92, 117]⟩ : ByteArray) ++ ((⟨#[48, 49, 50, 51, 52, 53, 54, 55, 56, 57, 97, 98, 99, 100, 101, 102]⟩ : ByteArray).extract ((ji57) : Int).toNat ((wrap64 ((ji57) + 1)) : Int).toNat)) ++ ((⟨#[48, 49, 50, 51, 52, 53, 54, 55, 56, 57, 97, 98, 99, 100, 101, 102]⟩ : ByteArray).extract ((ji62) : Int).toNat ((wrap64 ((ji62) + 1)) : Int).toNat)) ++ ((⟨#[48, 49, 50, 51, 52, 53, 54, 55, 56, 57, 97, 98, 99, 100, 101, 102]⟩ : ByteArray).extract ((Go.bits .and .i64 (t345 / 16) 15) : Int).toNat ((wrap64 ((Go.bits .and .i64 (t345 / 16) 15) + 1)) : Int).toNat)).size + ((⟨#[48, 49, 50, 51, 52, 53, 54, 55, 56, 57, 97, 98, 99, 100, 101, 102]⟩ : ByteArray).extract ((Go.bits .and .i64 t345 15) : Int).toNat ((wrap64 ((Go.bits .and .i64 t345 15) + 1)) : Int).toNat).size ≤ 9223372036854775807 then (if x3_1.size + (((((⟨#[92, 117]⟩ : ByteArray) ++ ((⟨#[48, 49, 50, 51, 52, 53, 54, 55, 56, 57, 97, 98, 99, 100, 101, 102]⟩ : ByteArray).extract ((ji57) : Int).toNat ((wrap64 ((ji57) + 1)) : Int).toNat)) ++ ((⟨#[48, 49, 50, 51, 52, 53, 54, 55, 56, 57, 97, 98, 99, 100, 101, 102]⟩ : ByteArray).extract ((ji62) : Int).toNat ((wrap64 ((ji62) + 1)) : Int).toNat)) ++ ((⟨#[48, 49, 50, 51, 52, 53, 54, 55, 56, 57, 97, 98, 99, 100, 101, 102]⟩ : ByteArray).extract ((Go.bits .and .i64 (t345 / 16) 15) : Int).toNat ((wrap64 ((Go.bits .and .i64 (t345 / 16) 15) + 1)) : Int).toNat)) ++ ((⟨#[48, 49, 50, 51, 52, 53, 54, 55, 56, 57, 97, 98, 99, 100, 101, 102]⟩ : ByteArray).extract ((Go.bits .and .i64 t345 15) : Int).toNat ((wrap64 ((Go.bits .and .i64 t345 15) + 1)) : Int).toNat)).size ≤ 9223372036854775807 then (spec_Quote.l0 kj5 a0 (x3_1 ++ (((((⟨#[92, 117]⟩ : ByteArray) ++ ((⟨#[48, 49, 50, 51, 52, 53, 54, 55, 56, 57, 97, 98, 99, 100, 101, 102]⟩ : ByteArray).extract ((ji57) : Int).toNat ((wrap64 ((ji57) + 1)) : Int).toNat)) ++ ((⟨#[48, 49, 50, 51, 52, 53, 54, 55, 56, 57, 97, 98, 99, 100, 101, 102]⟩ : ByteArray).extract ((ji62) : Int).toNat ((wrap64 ((ji62) + 1)) : Int).toNat)) ++ ((⟨#[48, 49, 50, 51, 52, 53, 54, 55, 56, 57, 97, 98, 99, 100, 101, 102]⟩ : ByteArray).extract ((Go.bits .and .i64 (t345 / 16) 15) : Int).toNat ((wrap64 ((Go.bits .and .i64 (t345 / 16) 15) + 1)) : Int).toNat)) ++ ((⟨#[48, 49, 50, 51, 52, 53, 54, 55, 56, 57, 97, 98, 99, 100, 101, 102]⟩ : ByteArray).extract ((Go.bits .and .i64 t345 15) : Int).toNat ((wrap64 ((Go.bits .and .i64 t345 15) + 1)) : Int).toNat))) (wrap64 (x4_1 + t346))) else (none)) else (none)) else (none)) else (none)) else (none)) else (none)) else (none)) else (none)) else (none)) else (none)) else (none)) else (none)) else (none)) = some r := by first | (rw [hji62] at H; exact H) | (simp only [hji62] at H ⊢; exact H)
                              by_cases c63 : 0 ≤ (ji62)
                              · rw [if_pos c63] at H
                                have c63b0 := eq_true c63
                                try (have c63s := c63; simp only [ByteArray.size_append, ByteArray.size_extract] at c63s)
                                have c63b1 : decide (0 ≤ (ji62)) = true := decide_eq_true c63
                                clear c63
                                by_cases c64 : (ji62) ≤ (wrap64 ((ji62) + 1))
                                · rw [if_pos c64] at H
                                  have c64b0 := eq_true c64
                                  try (have c64s := c64; simp only [ByteArray.size_append, ByteArray.size_extract] at c64s)
                                  have c64b1 : decide ((ji62) ≤ (wrap64 ((ji62) + 1))) = true := decide_eq_true c64
                                  by_cases c65 : (wrap64 ((ji62) + 1)) ≤ 16
                                  · rw [if_pos c65] at H
                                    have c65b0 := eq_true c65
                                    try (have c65s := c65; simp only [ByteArray.size_append, ByteArray.size_extract] at c65s)
                                    have c65b1 : decide ((wrap64 ((ji62) + 1)) ≤ 16) = true := decide_eq_true c65
                                    by_cases c66 : ((⟨#[92, 117]⟩ : ByteArray) ++ ((⟨#[48, 49, 50, 51, 52, 53, 54, 55, 56, 57, 97, 98, 99, 100, 101, 102]⟩ : ByteArray).extract ((ji57) : Int).toNat ((wrap64 ((ji57) + 1)) : Int).toNat)).size + ((⟨#[48, 49, 50, 51, 52, 53, 54, 55, 56, 57, 97, 98, 99, 100, 101, 102]⟩ : ByteArray).extract ((ji62) : Int).toNat ((wrap64 ((ji62) + 1)) : Int).toNat).size ≤ 9223372036854775807
                                    · rw [if_pos c66] at H
                                      have c66b0 := eq_true c66
                                      try (have c66s := c66; simp only [ByteArray.size_append, ByteArray.size_extract] at c66s)
                                      have c66b1 : decide (((⟨#[92, 117]⟩ : ByteArray) ++ ((⟨#[48, 49, 50, 51, 52, 53, 54, 55, 56, 57, 97, 98, 99, 100, 101, 102]⟩ : ByteArray).extract ((ji57) : Int).toNat ((wrap64 ((ji57) + 1)) : Int).toNat)).size + ((⟨#[48, 49, 50, 51, 52, 53, 54, 55, 56, 57, 97, 98, 99, 100, 101, 102]⟩ : ByteArray).extract ((ji62) : Int).toNat ((wrap64 ((ji62) + 1)) : Int).toNat).size ≤ 9223372036854775807) = true := decide_eq_true c66
                                      try have c66b2 : (9223372036854775807 < ((⟨#[92, 117]⟩ : ByteArray) ++ ((⟨#[48, 49, 50, 51, 52, 53, 54, 55, 56, 57, 97, 98, 99, 100, 101, 102]⟩ : ByteArray).extract ((ji57) : Int).toNat ((wrap64 ((ji57) + 1)) : Int).toNat)).size + ((⟨#[48, 49, 50, 51, 52, 53, 54, 55, 56, 57, 97, 98, 99, 100, 101, 102]⟩ : ByteArray).extract ((ji62) : Int).toNat ((wrap64 ((ji62) + 1)) : Int).toNat).size) = False := eq_false (Nat.not_lt.2 c66)
                                      obtain ⟨ji67, hji67⟩ : ∃ j_ : Int, (Go.bits .and .i64 (t345 / 16) 15) = j_ := ⟨_, rfl⟩
                                      replace H : (if 0 ≤ (ji67) then (if (ji67) ≤ (wrap64 ((ji67) + 1)) then (if (wrap64 ((ji67) + 1)) ≤ 16 then (if (((⟨#[92, 117]⟩ : ByteArray) ++ ((⟨#[48, 49, 50, 51, 52, 53, 54, 55, 56, 57, 97, 98, 99, 100, 101, 102]⟩ : ByteArray).extract ((ji57) : Int).toNat ((wrap64 ((ji57) + 1)) : Int).toNat)) ++ ((⟨#[48, 49, 50, 51, 52, 53, 54, 55, 56, 57, 97, 98, 99, 100, 101, 102]⟩ : ByteArray).extract ((ji62) : Int).toNat ((wrap64 ((ji62) + 1)) : Int).toNat)).size + ((⟨#[48, 49, 50, 51, 52, 53, 54, 55, 56, 57, 97, 98, 99, 100, 101, 102]⟩ : ByteArray).extract ((ji67) : Int).toNat ((wrap64 ((ji67) + 1)) : Int).toNat).size ≤ 9223372036854775807 then (if 0 ≤ (Go.bits .and .i64 t345 15) then (if (Go.bits .and .i64 t345 15) ≤ (wrap64 ((Go.bits .and .i64 t345 15) + 1)) then (if (wrap64 ((Go.bits .and .i64 t345 15) + 1)) ≤ 16 then (if ((((⟨#[92, 117]⟩ : ByteArray) ++ ((⟨#[48, 49, 50, 51, 52, 53, 54, 55, 56, 57, 97, 98, 99, 100, 101, 102]⟩ : ByteArray).extract ((ji57) : Int).toNat ((wrap64 ((ji57) + 1)) : Int).toNat)) ++ ((⟨#[48, 49, 50, 51, 52, 53, 54, 55, 56, 57, 97, 98, 99, 100, 101, 102]⟩ : ByteArray).extract ((ji62) : Int).toNat ((wrap64 ((ji62) + 1)) : Int).toNat)) ++ ((⟨#[48, 49, 50, 51, 52, 53, 54, 55, 56, 57, 97, 98, 99, 100, 101, 102]⟩ : ByteArray).extract ((ji67) : Int).toNat ((wrap64 ((ji67) + 1)) : Int).toNat)).size + ((⟨#[48, 49, 50, 51, 52, 53, 54, 55, 56, 57, 97, 98, 99, 100, 101, 102]⟩ : ByteArray).extract ((Go.bits .and .i64 t345 15) : Int).toNat ((wrap64 ((Go.bits .and .i64 t345 15) + 1)) : Int).toNat).size ≤ 9223372036854775807 then (if x3_1.size + (((((⟨#[92, 117]⟩ : ByteArray) ++ ((⟨#[48, 49, 50, 51, 52, 53, 54, 55, 56, 57, 97, 98, 99, 100, 101, 102]⟩ : ByteArray).extract ((ji57) : Int).toNat ((wrap64 ((ji57) + 1)) : Int).toNat)) ++ ((⟨#[48, 49, 50, 51, 52, 53, 54, 55, 56, 57, 97, 98, 99, 100, 101, 102]⟩ : ByteArray).extract ((ji62) : Int).toNat ((wrap64 ((ji62) + 1)) : Int).toNat)) ++ ((⟨#[48, 49, 50, 51, 52, 53, 54, 55, 56, 57, 97, 98, 99, 100, 101, 102]⟩ : ByteArray).extract ((ji67) : Int).toNat ((wrap64 ((ji67) + 1)) : Int).toNat)) ++ ((⟨#[48, 49, 50, 51, 52, 53, 54, 55, 56, 57, 97, 98, 99, 100, 101, 102]⟩ : ByteArray).extract ((Go.bits .and .i64 t345 15) : Int).toNat ((wrap64 ((Go.bits .and .i64 t345 15) + 1)) : Int).toNat)).size ≤ 9223372036854775807 then (spec_Quote.l0 kj5 a0 (x3_1 ++ (((((⟨#[92, 117]⟩ : ByteArray) ++ ((⟨#[48, 49, 50, 51, 52, 53, 54, 55, 56, 57, 97, 98, 99, 100, 101, 102]⟩ : ByteArray).extract ((ji57) : Int).toNat ((wrap64 ((ji57) + 1)) : Int).toNat)) ++ ((⟨#[48, 49, 50, 51, 52, 53, 54, 55, 56, 57, 97, 98, 99, 100, 101, 102]⟩ : ByteArray).extract ((ji62) : Int).toNat ((wrap64 ((ji62) + 1)) : Int).toNat)) ++ ((⟨#[48, 49, 50, 51, 52, 53, 54, 55, 56, 57, 97, 98, 99, 100, 101, 102]⟩ : ByteArray).extract ((ji67) : Int).toNat ((wrap64 ((ji67) + 1)) : Int).toNat)) ++ ((⟨#[48, 49, 50, 51, 52, 53, 54, 55, 56, 57, 97, 98, 99, 100, 101, 102]⟩ : ByteArray).extract ((Go.bits .and .i64 t345 15) : Int).toNat ((wrap64 ((Go.bits .and .i64 t345 15) + 1)) : Int).toNat))) (wrap64 (x4_1 + t346))) else (none)) else (none)) else (none)) else (none)) else (none)) else (none)) else (none)) else (none)) else (none)) = some r := by first | (rw [hji67] at H; exact H) | (simp only [hji67] at H ⊢; exact H)
                                      by_cases c68 : 0 ≤ (ji67)
                                      · rw [if_pos c68] at H
                                        have c68b0 := eq_true c68
                                        try (have c68s := c68; simp only [ByteArray.size_append, ByteArray.size_extract] at c68s)
                                        have c68b1 : decide (0 ≤ (ji67)) = true := decide_eq_true c68
                                        clear c68
                                        by_cases c69 : (ji67) ≤ (wrap64 ((ji67) + 1))
                                        · rw [if_pos c69] at H
                                          have c69b0 := eq_true c69
                                          try (have c69s := c69; simp only [ByteArray.size_append, ByteArray.size_extract] at c69s)
                                          have c69b1 : decide ((ji67) ≤ (wrap64 ((ji67) + 1))) = true := decide_eq_true c69
                                          by_cases c70 : (wrap64 ((ji67) + 1)) ≤ 16
                                          · rw [if_pos c70] at H
                                            have c70b0 := eq_true c70
                                            try (have c70s := c70; simp only [ByteArray.size_append, ByteArray.size_extract] at c70s)
                                            have c70b1 : decide ((wrap64 ((ji67) + 1)) ≤ 16) = true := decide_eq_true c70
                                            by_cases c71 : (((⟨#[92, 117]⟩ : ByteArray) ++ ((⟨#[48, 49, 50, 51, 52, 53, 54, 55, 56, 57, 97, 98, 99, 100, 101, 102]⟩ : ByteArray).extract ((ji57) : Int).toNat ((wrap64 ((ji57) + 1)) : Int).toNat)) ++ ((⟨#[48, 49, 50, 51, 52, 53, 54, 55, 56, 57, 97, 98, 99, 100, 101, 102]⟩ : ByteArray).extract ((ji62) : Int).toNat ((wrap64 ((ji62) + 1)) : Int).toNat)).size + ((⟨#[48, 49, 50, 51, 52, 53, 54, 55, 56, 57, 97, 98, 99, 100, 101, 102]⟩ : ByteArray).extract ((ji67) : Int).toNat ((wrap64 ((ji67) + 1)) : Int).toNat).size ≤ 9223372036854775807
                                            · rw [if_pos c71] at H
                                              have c71b0 := eq_true c71
                                              try (have c71s := c71; simp only [ByteArray.size_append, ByteArray.size_extract] at c71s)
                                              have c71b1 : decide ((((⟨#[92, 117]⟩ : ByteArray) ++ ((⟨#[48, 49, 50, 51, 52, 53, 54, 55, 56, 57, 97, 98, 99, 100, 101, 102]⟩ : ByteArray).extract ((ji57) : Int).toNat ((wrap64 ((ji57) + 1)) : Int).toNat)) ++ ((⟨#[48, 49, 50, 51, 52, 53, 54, 55, 56, 57, 97, 98, 99, 100, 101, 102]⟩ : ByteArray).extract ((ji62) : Int).toNat ((wrap64 ((ji62) + 1)) : Int).toNat)).size + ((⟨#[48, 49, 50, 51, 52, 53, 54, 55, 56, 57, 97, 98, 99, 100, 101, 102]⟩ : ByteArray).extract ((ji67) : Int).toNat ((wrap64 ((ji67) + 1)) : Int).toNat).size ≤ 9223372036854775807) = true := decide_eq_true c71
                                              try have c71b2 : (9223372036854775807 < (((⟨#[92, 117]⟩ : ByteArray) ++ ((⟨#[48, 49, 50, 51, 52, 53, 54, 55, 56, 57, 97, 98, 99, 100, 101, 102]⟩ : ByteArray).extract ((ji57) : Int).toNat ((wrap64 ((ji57) + 1)) : Int).toNat)) ++ ((⟨#[48, 49, 50, 51, 52, 53, 54, 55, 56, 57, 97, 98, 99, 100, 101, 102]⟩ : ByteArray).extract ((ji62) : Int).toNat ((wrap64 ((ji62) + 1)) : Int).toNat)).size + ((⟨#[48, 49, 50, 51, 52, 53, 54, 55, 56, 57, 97, 98, 99, 100, 101, 102]⟩ : ByteArray).extract ((ji67) : Int).toNat ((wrap64 ((ji67) + 1)) : Int).toNat).size) = False := eq_false (Nat.not_lt.2 c71)
                                              by_cases c72 : 0 ≤ (Go.bits .and .i64 t345 15)
                                              · rw [if_pos c72] at H
                                                have c72b0 := eq_true c72
                                                try (have c72s := c72; simp only [ByteArray.size_append, ByteArray.size_extract] at c72s)
                                                have c72b1 : decide (0 ≤ (Go.bits .and .i64 t345 15)) = true := decide_eq_true c72
                                                clear c72
                                                by_cases c73 : (Go.bits .and .i64 t345 15) ≤ (wrap64 ((Go.bits .and .i64 t345 15) + 1))
                                                · rw [if_pos c73] at H
                                                  have c73b0 := eq_true c73
                                                  try (have c73s := c73; simp only [ByteArray.size_append, ByteArray.size_extract] at c73s)
                                                  have c73b1 : decide ((Go.bits .and .i64 t345 15) ≤ (wrap64 ((Go.bits .and .i64 t345 15) + 1))) = true := decide_eq_true c73
                                                  by_cases c74 : (wrap64 ((Go.bits .and .i64 t345 15) + 1)) ≤ 16
                                                  · rw [if_pos c74] at H
                                                    have c74b0 := eq_true c74
                                                    try (have c74s := c74; simp only [ByteArray.size_append, ByteArray.size_extract] at c74s)
                                                    have c74b1 : decide ((wrap64 ((Go.bits .and .i64 t345 15) + 1)) ≤ 16) = true := decide_eq_true c74
                                                    by_cases c75 : ((((⟨#[92, 117]⟩ : ByteArray) ++ ((⟨#[48, 49, 50, 51, 52, 53, 54, 55, 56, 57, 97, 98, 99, 100, 101, 102]⟩ : ByteArray).extract ((ji57) : Int).toNat ((wrap64 ((ji57) + 1)) : Int).toNat)) ++ ((⟨#[48, 49, 50, 51, 52, 53, 54, 55, 56, 57, 97, 98, 99, 100, 101, 102]⟩ : ByteArray).extract ((ji62) : Int).toNat ((wrap64 ((ji62) + 1)) : Int).toNat)) ++ ((⟨#[48, 49, 50, 51, 52, 53, 54, 55, 56, 57, 97, 98, 99, 100, 101, 102]⟩ : ByteArray).extract ((ji67) : Int).toNat ((wrap64 ((ji67) + 1)) : Int).toNat)).size + ((⟨#[48, 49, 50, 51, 52, 53, 54, 55, 56, 57, 97, 98, 99, 100, 101, 102]⟩ : ByteArray).extract ((Go.bits .and .i64 t345 15) : Int).toNat ((wrap64 ((Go.bits .and .i64 t345 15) + 1)) : Int).toNat).size ≤ 9223372036854775807
                                                    · rw [if_pos c75] at H
                                                      have c75b0 := eq_true c75
                                                      try (have c75s := c75; simp only [ByteArray.size_append, ByteArray.size_extract] at c75s)
                                                      have c75b1 : decide (((((⟨#[92, 117]⟩ : ByteArray) ++ ((⟨#[48, 49, 50, 51, 52, 53, 54, 55, 56, 57, 97, 98, 99, 100, 101, 102]⟩ : ByteArray).extract ((ji57) : Int).toNat ((wrap64 ((ji57) + 1)) : Int).toNat)) ++ ((⟨#[48, 49, 50, 51, 52, 53, 54, 55, 56, 57, 97, 98, 99, 100, 101, 102]⟩ : ByteArray).extract ((ji62) : Int).toNat ((wrap64 ((ji62) + 1)) : Int).toNat)) ++ ((⟨#[48, 49, 50, 51, 52, 53, 54, 55, 56, 57, 97, 98, 99, 100, 101, 102]⟩ : ByteArray).extract ((ji67) : Int).toNat ((wrap64 ((ji67) + 1)) : Int).toNat)).size + ((⟨#[48, 49, 50, 51, 52, 53, 54, 55, 56, 57, 97, 98, 99, 100, 101, 102]⟩ : ByteArray).extract ((Go.bits .and .i64 t345 15) : Int).toNat ((wrap64 ((Go.bits .and .i64 t345 15) + 1)) : Int).toNat).size ≤ 9223372036854775807) = true := decide_eq_true c75
                                                      try have c75b2 : (9223372036854775807 < ((((⟨#[92, 117]⟩ : ByteArray) ++ ((⟨#[48, 49, 50, 51, 52, 53, 54, 55, 56, 57, 97, 98, 99, 100, 101, 102]⟩ : ByteArray).extract ((ji57) : Int).toNat ((wrap64 ((ji57) + 1)) : Int).toNat)) ++ ((⟨#[48, 49, 50, 51, 52, 53, 54, 55, 56, 57, 97, 98, 99, 100, 101, 102]⟩ : ByteArray).extract ((ji62) : Int).toNat ((wrap64 ((ji62) + 1)) : Int).toNat)) ++ ((⟨#[48, 49, 50, 51, 52, 53, 54, 55, 56, 57, 97, 98, 99, 100, 101, 102]⟩ : ByteArray).extract ((ji67) : Int).toNat ((wrap64 ((ji67) + 1)) : Int).toNat)).size + ((⟨#[48, 49, 50, 51, 52, 53, 54, 55, 56, 57, 97, 98, 99, 100, 101, 102]⟩ : ByteArray).extract ((Go.bits .and .i64 t345 15) : Int).toNat ((wrap64 ((Go.bits .and .i64 t345 15) + 1)) : Int).toNat).size) = False := eq_false (Nat.not_lt.2 c75)
                                                      by_cases c76 : x3_1.size + (((((⟨#[92, 117]⟩ : ByteArray) ++ ((⟨#[48, 49, 50, 51, 52, 53, 54, 55, 56, 57, 97, 98, 99, 100, 101, 102]⟩ : ByteArray).extract ((ji57) : Int).toNat ((wrap64 ((ji57) + 1)) : Int).toNat)) ++ ((⟨#[48, 49, 50, 51, 52, 53, 54, 55, 56, 57, 97, 98, 99, 100, 101, 102]⟩ : ByteArray).extract ((ji62) : Int).toNat ((wrap64 ((ji62) + 1)) : Int).toNat)) ++ ((⟨#[48, 49, 50, 51, 52, 53, 54, 55, 56, 57, 97, 98, 99, 100, 101, 102]⟩ : ByteArray).extract ((ji67) : Int).toNat ((wrap64 ((ji67) + 1)) : Int).toNat)) ++ ((⟨#[48, 49, 50, 51, 52, 53, 54, 55, 56, 57, 97, 98, 99, 100, 101, 102]⟩ : ByteArray).extract ((Go.bits .and .i64 t345 15) : Int).toNat ((wrap64 ((Go.bits .and .i64 t345 15) + 1)) : Int).toNat)).size ≤ 9223372036854775807
                                                      · rw [if_pos c76] at H
                                                        have c76b0 := eq_true c76
                                                        try (have c76s := c76; simp only [ByteArray.size_append, ByteArray.size_extract] at c76s)
                                                        have c76b1 : decide (x3_1.size + (((((⟨#[92, 117]⟩ : ByteArray) ++ ((⟨#[48, 49, 50, 51, 52, 53, 54, 55, 56, 57, 97, 98, 99, 100, 101, 102]⟩ : ByteArray).extract ((ji57) : Int).toNat ((wrap64 ((ji57) + 1)) : Int).toNat)) ++ ((⟨#[48, 49, 50, 51, 52, 53, 54, 55, 56, 57, 97, 98, 99, 100, 101, 102]⟩ : ByteArray).extract ((ji62) : Int).toNat ((wrap64 ((ji62) + 1)) : Int).toNat)) ++ ((⟨#[48, 49, 50, 51, 52, 53, 54, 55, 56, 57, 97, 98, 99, 100, 101, 102]⟩ : ByteArray).extract ((ji67) : Int).toNat ((wrap64 ((ji67) + 1)) : Int).toNat)) ++ ((⟨#[48, 49, 50, 51, 52, 53, 54, 55, 56, 57, 97, 98, 99, 100, 101, 102]⟩ : ByteArray).extract ((Go.bits .and .i64 t345 15) : Int).toNat ((wrap64 ((Go.bits .and .i64 t345 15) + 1)) : Int).toNat)).size ≤ 9223372036854775807) = true := decide_eq_true c76
                                                        try have c76b2 : (9223372036854775807 < x3_1.size + (((((⟨#[92, 117]⟩ : ByteArray) ++ ((⟨#[48, 49, 50, 51, 52, 53, 54, 55, 56, 57, 97, 98, 99, 100, 101, 102]⟩ : ByteArray).extract ((ji57) : Int).toNat ((wrap64 ((ji57) + 1)) : Int).toNat)) ++ ((⟨#[48, 49, 50, 51, 52, 53, 54, 55, 56, 57, 97, 98, 99, 100, 101, 102]⟩ : ByteArray).extract ((ji62) : Int).toNat ((wrap64 ((ji62) + 1)) : Int).toNat)) ++ ((⟨#[48, 49, 50, 51, 52, 53, 54, 55, 56, 57, 97, 98, 99, 100, 101, 102]⟩ : ByteArray).extract ((ji67) : Int).toNat ((wrap64 ((ji67) + 1)) : Int).toNat)) ++ ((⟨#[48, 49, 50, 51, 52, 53, 54, 55, 56, 57, 97, 98, 99, 100, 101, 102]⟩ : ByteArray).extract ((Go.bits .and .i64 t345 15) : Int).toNat ((wrap64 ((Go.bits .and .i64 t345 15) + 1)) : Int).toNat)).size) = False := eq_false (Nat.not_lt.2 c76)
                                                        have H' := Aside0.mk H
                                                        clear H
                                                        go_wp2
                                                        repeat (go_quiet (fail); try go_wp2)
                                                        go_roundg kj5
                                                        case measure => have := HK1.out; have := HJ5.out; omega
                                                        case rel => exact ⟨(x3_1 ++ (((((⟨#[92, 117]⟩ : ByteArray) ++ ((⟨#[48, 49, 50, 51, 52, 53, 54, 55, 56, 57, 97, 98, 99, 100, 101, 102]⟩ : ByteArray).extract ((ji57) : Int).toNat ((wrap64 ((ji57) + 1)) : Int).toNat)) ++ ((⟨#[48, 49, 50, 51, 52, 53, 54, 55, 56, 57, 97, 98, 99, 100, 101, 102]⟩ : ByteArray).extract ((ji62) : Int).toNat ((wrap64 ((ji62) + 1)) : Int).toNat)) ++ ((⟨#[48, 49, 50, 51, 52, 53, 54, 55, 56, 57, 97, 98, 99, 100, 101, 102]⟩ : ByteArray).extract ((ji67) : Int).toNat ((wrap64 ((ji67) + 1)) : Int).toNat)) ++ ((⟨#[48, 49, 50, 51, 52, 53, 54, 55, 56, 57, 97, 98, 99, 100, 101, 102]⟩ : ByteArray).extract ((Go.bits .and .i64 t345 15) : Int).toNat ((wrap64 ((Go.bits .and .i64 t345 15) + 1)) : Int).toNat))), (wrap64 (x4_1 + t346)), (by first | rfl | (simp; done) | (simp only [← hji57, ← hji62, ← hji67] <;> (first | rfl | simp)) | (simp [*]; done)), (by first | rfl | (simp; done) | (simp [*]; done)), H', ⟨by have := HK1.out; have := HJ5.out; omega⟩, by repeat (first | exact Drawn0.refl _ | apply Drawn0.step)⟩
                                                      · rw [if_neg c76] at H
                                                        exact absurd H (by simp)
                                                    · rw [if_neg c75] at H
                                                      exact absurd H (by simp)
                                                  · rw [if_neg c74] at H
                                                    exact absurd H (by simp)
                                                · rw [if_neg c73] at H
                                                  exact absurd H (by simp)
                                              · rw [if_neg c72] at H
                                                exact absurd H (by simp)
                                            · rw [if_neg c71] at H
                                              exact absurd H (by simp)
                                          · rw [if_neg c70] at H
                                            exact absurd H (by simp)
                                        · rw [if_neg c69] at H
                                          exact absurd H (by simp)
                                      · rw [if_neg c68] at H
                                        exact absurd H (by simp)
                                    · rw [if_neg c66] at H
                                      exact absurd H (by simp)
                                  · rw [if_neg c65] at H
                                    exact absurd H (by simp)
                                · rw [if_neg c64] at H
                                  exact absurd H (by simp)
                              · rw [if_neg c63] at H
                                exact absurd H (by simp)
                            · rw [if_neg c61] at H
                              exact absurd H (by simp)
                          · rw [if_neg c60] at H
                            exact absurd H (by simp)
                        · rw [if_neg c59] at H
                          exact absurd H (by simp)
                      · rw [if_neg c58] at H
                        exact absurd H (by simp)
                    · rw [if_neg c56] at H
                      have c56b0 : (t345 == 65279) = false := beq_eq_false_iff_ne.mpr c56
                      have c56b1 : (t345 != 65279) = true := bne_iff_ne.mpr c56
                      by_cases c77 : 0 ≤ x4_1
                      · rw [if_pos c77] at H
                        have c77b0 := eq_true c77
                        try (have c77s := c77; simp only [ByteArray.size_append, ByteArray.size_extract] at c77s)
                        have c77b1 : decide (0 ≤ x4_1) = true := decide_eq_true c77
                        clear c77
                        by_cases c78 : x4_1 ≤ (wrap64 (x4_1 + t346))
                        · rw [if_pos c78] at H
                          have c78b0 := eq_true c78
                          try (have c78s := c78; simp only [ByteArray.size_append, ByteArray.size_extract] at c78s)
                          have c78b1 : decide (x4_1 ≤ (wrap64 (x4_1 + t346))) = true := decide_eq_true c78
                          by_cases c79 : (wrap64 (x4_1 + t346)) ≤ (a0.size : Int)
                          · rw [if_pos c79] at H
                            have c79b0 := eq_true c79
                            try (have c79s := c79; simp only [ByteArray.size_append, ByteArray.size_extract] at c79s)
                            have c79b1 : decide ((wrap64 (x4_1 + t346)) ≤ (a0.size : Int)) = true := decide_eq_true c79
                            by_cases c80 : x3_1.size + (a0.extract (x4_1 : Int).toNat ((wrap64 (x4_1 + t346)) : Int).toNat).size ≤ 9223372036854775807
                            · rw [if_pos c80] at H
                              have c80b0 := eq_true c80
                              try (have c80s := c80; simp only [ByteArray.size_append, ByteArray.size_extract] at c80s)
                              have c80b1 : decide (x3_1.size + (a0.extract (x4_1 : Int).toNat ((wrap64 (x4_1 + t346)) : Int).toNat).size ≤ 9223372036854775807) = true := decide_eq_true c80
                              try have c80b2 : (9223372036854775807 < x3_1.size + (a0.extract (x4_1 : Int).toNat ((wrap64 (x4_1 + t346)) : Int).toNat).size) = False := eq_false (Nat.not_lt.2 c80)
                              have H' := Aside0.mk H
                              clear H
                              go_wp2
                              repeat (go_quiet (fail); try go_wp2)
                              go_roundg kj5
                              case measure => have := HK1.out; have := HJ5.out; omega
                              case rel => exact ⟨(x3_1 ++ (a0.extract (x4_1 : Int).toNat ((wrap64 (x4_1 + t346)) : Int).toNat)), (wrap64 (x4_1 + t346)), (by first | rfl | (simp; done) | (simp [*]; done)), (by first | rfl | (simp; done) | (simp [*]; done)), H', ⟨by have := HK1.out; have := HJ5.out; omega⟩, by repeat (first | exact Drawn0.refl _ | apply Drawn0.step)⟩
                            · rw [if_neg c80] at H
                              exact absurd H (by simp)
                          · rw [if_neg c79] at H
                            exact absurd H (by simp)
                        · rw [if_neg c78] at H
                          exact absurd H (by simp)
                      · rw [if_neg c77] at H
                        exact absurd H (by simp)
      · rw [if_neg c2] at H
        have c2b0 : decide (x4_1 < (a0.size : Int)) = false := decide_eq_false c2
        clear c2
        by_cases c81 : x3_1.size + 1 ≤ 9223372036854775807
        · rw [if_pos c81] at H
          have c81b0 := eq_true c81
          try (have c81s := c81; simp only [ByteArray.size_append, ByteArray.size_extract] at c81s)
          have c81b1 : decide (x3_1.size + 1 ≤ 9223372036854775807) = true := decide_eq_true c81
          try have c81b2 : (9223372036854775807 < x3_1.size + 1) = False := eq_false (Nat.not_lt.2 c81)
          obtain rfl := Option.some.inj H
          go_wp2
          repeat (go_quiet (fail); try go_wp2)
          go_ret
          exact ⟨by first | rfl | (simp; done) | (simp [*]; done), by repeat (first | exact Drawn0.refl _ | apply Drawn0.step)⟩
        · rw [if_neg c81] at H
          exact absurd H (by simp)

-- NOT PRINTED: function 8 (spec_SameDocument)

/-! ### spec_Block: function 9 -/
def spec_Block.l0 : Nat → ByteArray → ByteArray → Int → Option (ByteArray)
  | 0, _, _, _ => none
  | k + 1, x0, x3, x4 => if x4 < (x0.size : Int) then ((spec_starts.f x0 x4 (⟨#[34, 34, 34]⟩ : ByteArray)).bind fun t351 => (if t351 = true then (if x3.size + 4 ≤ 9223372036854775807 then (spec_Block.l0 k x0 (x3 ++ (⟨#[92, 34, 34, 34]⟩ : ByteArray)) (wrap64 (x4 + 3))) else (none)) else (if 0 ≤ x4 then (if x4 ≤ (wrap64 (x4 + 1)) then (if (wrap64 (x4 + 1)) ≤ (x0.size : Int) then (if x3.size + (x0.extract (x4 : Int).toNat ((wrap64 (x4 + 1)) : Int).toNat).size ≤ 9223372036854775807 then (spec_Block.l0 k x0 (x3 ++ (x0.extract (x4 : Int).toNat ((wrap64 (x4 + 1)) : Int).toNat)) (wrap64 (x4 + 1))) else (none)) else (none)) else (none)) else (none)))) else (if x3.size + 4 ≤ 9223372036854775807 then (some (x3 ++ (⟨#[10, 34, 34, 34]⟩ : ByteArray))) else (none))
def spec_Block.f (k : Nat) (a0 : ByteArray) : Option (ByteArray) := spec_Block.l0 k a0 (⟨#[34, 34, 34, 10]⟩ : ByteArray) 0
theorem spec_Block.mono_l : ∀ k, (∀ y0 y1 y2, LeO (spec_Block.l0 k y0 y1 y2) (spec_Block.l0 (k + 1) y0 y1 y2))
  | 0 => fun _ _ _ r h => by simp [spec_Block.l0] at h
  | k + 1 => by
    have ih0 := spec_Block.mono_l k
    · intro y0 y1 y2
      unfold spec_Block.l0
      repeat' first
      | (with_reducible exact ih0 _ _ _)
      | (with_reducible exact LeO.refl _)
      | (with_reducible exact LeO.none _)
      | (with_reducible refine LeO.ite ?_ ?_)
      | (with_reducible refine LeO.bind ?_ (fun _ => ?_))
      | exact ih0 _ _ _
      | exact LeO.none _
      | refine LeO.ite ?_ ?_
      | refine LeO.bind ?_ (fun _ => ?_)
theorem spec_Block.mono : ∀ a0 k, LeO (spec_Block.f k a0) (spec_Block.f (k + 1) a0) := by
  intro a0 k
  have ih0 := spec_Block.mono_l k
  unfold spec_Block.f
  repeat' first
      | (with_reducible exact ih0 _ _ _)
      | (with_reducible exact LeO.refl _)
      | (with_reducible exact LeO.none _)
      | (with_reducible refine LeO.ite ?_ ?_)
      | (with_reducible refine LeO.bind ?_ (fun _ => ?_))
      | exact ih0 _ _ _
      | exact LeO.none _
      | refine LeO.ite ?_ ?_
      | refine LeO.bind ?_ (fun _ => ?_)
set_option maxHeartbeats 8000000 in
set_option maxRecDepth 100000 in
theorem spec_Block.calls (k : Nat) (a0 : ByteArray) (r : ByteArray) (w : World) (h : spec_Block.f k a0 = some r) :
    Calls Tryz.prog 9 #[.string a0] w fun e w' => e = .returned (.string r) ∧ Drawn0 w w' := by
  have H : (spec_Block.l0 k a0 (⟨#[34, 34, 34, 10]⟩ : ByteArray) 0) = some r := h
  clear h
  have H' := Aside0.mk H
  clear H
  go_enter Tryz.func9, Tryz.ntmps9
  go_wp2
  go_loopg [3, 4] k (fun kq v3 v4 w' => ∃ (x3_1 : ByteArray) (x4_1 : Int), v3 = .string x3_1 ∧ v4 = .int .i64 x4_1 ∧ Aside0 (spec_Block.l0 kq a0 x3_1 x4_1 = some r) ∧ Aside0 (kq ≤ k) ∧ Drawn0 w w')
  case atStart => exact ⟨((⟨#[34, 34, 34, 10]⟩ : ByteArray)), (0), (by first | rfl | (simp; done) | (simp [*]; done)), (by first | rfl | (simp; done) | (simp [*]; done)), H', ⟨Nat.le_refl _⟩, by repeat (first | exact Drawn0.refl _ | apply Drawn0.step)⟩
  case round =>
    clear H'
    obtain ⟨x3_1, x4_1, rfl, rfl, HA, HK1, ⟨m1, rfl⟩⟩ := hrel
    cases gk with
    | zero => exact absurd HA.out (by simp [spec_Block.l0])
    | succ k1 =>
      have H := HA.out
      clear HA
      simp only [spec_Block.l0] at H
      by_cases c2 : x4_1 < (a0.size : Int)
      · rw [if_pos c2] at H
        have c2b0 : decide (x4_1 < (a0.size : Int)) = true := decide_eq_true c2
        clear c2
        replace H := Option.bind_eq_some_iff.mp H
        obtain ⟨t351, A30, H⟩ := H
        replace H : (if t351 = true then (if x3_1.size + 4 ≤ 9223372036854775807 then (spec_Block.l0 k1 a0 (x3_1 ++ (⟨#[92, 34, 34, 34]⟩ : ByteArray)) (wrap64 (x4_1 + 3))) else (none)) else (if 0 ≤ x4_1 then (if x4_1 ≤ (wrap64 (x4_1 + 1)) then (if (wrap64 (x4_1 + 1)) ≤ (a0.size : Int) then (if x3_1.size + (a0.extract (x4_1 : Int).toNat ((wrap64 (x4_1 + 1)) : Int).toNat).size ≤ 9223372036854775807 then (spec_Block.l0 k1 a0 (x3_1 ++ (a0.extract (x4_1 : Int).toNat ((wrap64 (x4_1 + 1)) : Int).toNat)) (wrap64 (x4_1 + 1))) else (none)) else (none)) else (none)) else (none))) = some r := H
        have A3 := Aside0.mk A30
        clear A30
        by_cases c4 : t351 = true
        · subst c4
          have H1 : (if x3_1.size + 4 ≤ 9223372036854775807 then (spec_Block.l0 k1 a0 (x3_1 ++ (⟨#[92, 34, 34, 34]⟩ : ByteArray)) (wrap64 (x4_1 + 3))) else (none)) = some r := by rw [if_pos rfl] at H; exact H
          clear H
          have H := H1
          clear H1
          by_cases c5 : x3_1.size + 4 ≤ 9223372036854775807
          · rw [if_pos c5] at H
            have c5b0 := eq_true c5
            try (have c5s := c5; simp only [ByteArray.size_append, ByteArray.size_extract] at c5s)
            have c5b1 : decide (x3_1.size + 4 ≤ 9223372036854775807) = true := decide_eq_true c5
            try have c5b2 : (9223372036854775807 < x3_1.size + 4) = False := eq_false (Nat.not_lt.2 c5)
            have H' := Aside0.mk H
            clear H
            go_wp2_with (first | ((with_reducible refine gate_callee (f := 15) rfl ?_); refine goesL_ (some 11) rfl rfl Tryz.func15 (by kernel_rfl) rfl #[.string a0, .int .i64 x4_1, .string (⟨#[34, 34, 34]⟩ : ByteArray)] rfl (by (try simp only [List.map_toArray, List.map_cons, List.map_nil]); first | done | rfl | (simp only [List.length_drop, List.length_take]; rfl)) ?_; (with_reducible refine (spec_starts.calls a0 x4_1 (⟨#[34, 34, 34]⟩ : ByteArray) true _ A3.out).mono ?_); rintro e w' ⟨rfl, ⟨nd, rfl⟩⟩; refine ⟨_, rfl, ?_⟩))
            go_roundg k1
            case measure => have := HK1.out; omega
            case rel => exact ⟨(x3_1 ++ (⟨#[92, 34, 34, 34]⟩ : ByteArray)), (wrap64 (x4_1 + 3)), (by first | rfl | (simp; done) | (simp [*]; done)), (by first | rfl | (simp; done) | (simp [*]; done)), H', ⟨by have := HK1.out; omega⟩, by repeat (first | exact Drawn0.refl _ | apply Drawn0.step)⟩
          · rw [if_neg c5] at H
            exact absurd H (by simp)
        · replace c4 := Bool.eq_false_iff.mpr c4
          subst c4
          have H1 : (if 0 ≤ x4_1 then (if x4_1 ≤ (wrap64 (x4_1 + 1)) then (if (wrap64 (x4_1 + 1)) ≤ (a0.size : Int) then (if x3_1.size + (a0.extract (x4_1 : Int).toNat ((wrap64 (x4_1 + 1)) : Int).toNat).size ≤ 9223372036854775807 then (spec_Block.l0 k1 a0 (x3_1 ++ (a0.extract (x4_1 : Int).toNat ((wrap64 (x4_1 + 1)) : Int).toNat)) (wrap64 (x4_1 + 1))) else (none)) else (none)) else (none)) else (none)) = some r := by rw [if_neg (show ¬ (false = true) by decide)] at H; exact H
          clear H
          have H := H1
          clear H1
          by_cases c6 : 0 ≤ x4_1
          · rw [if_pos c6] at H
            have c6b0 := eq_true c6
            try (have c6s := c6; simp only [ByteArray.size_append, ByteArray.size_extract] at c6s)
            have c6b1 : decide (0 ≤ x4_1) = true := decide_eq_true c6
            clear c6
            by_cases c7 : x4_1 ≤ (wrap64 (x4_1 + 1))
            · rw [if_pos c7] at H
              have c7b0 := eq_true c7
              try (have c7s := c7; simp only [ByteArray.size_append, ByteArray.size_extract] at c7s)
              have c7b1 : decide (x4_1 ≤ (wrap64 (x4_1 + 1))) = true := decide_eq_true c7
              by_cases c8 : (wrap64 (x4_1 + 1)) ≤ (a0.size : Int)
              · rw [if_pos c8] at H
                have c8b0 := eq_true c8
                try (have c8s := c8; simp only [ByteArray.size_append, ByteArray.size_extract] at c8s)
                have c8b1 : decide ((wrap64 (x4_1 + 1)) ≤ (a0.size : Int)) = true := decide_eq_true c8
                by_cases c9 : x3_1.size + (a0.extract (x4_1 : Int).toNat ((wrap64 (x4_1 + 1)) : Int).toNat).size ≤ 9223372036854775807
                · rw [if_pos c9] at H
                  have c9b0 := eq_true c9
                  try (have c9s := c9; simp only [ByteArray.size_append, ByteArray.size_extract] at c9s)
                  have c9b1 : decide (x3_1.size + (a0.extract (x4_1 : Int).toNat ((wrap64 (x4_1 + 1)) : Int).toNat).size ≤ 9223372036854775807) = true := decide_eq_true c9
                  try have c9b2 : (9223372036854775807 < x3_1.size + (a0.extract (x4_1 : Int).toNat ((wrap64 (x4_1 + 1)) : Int).toNat).size) = False := eq_false (Nat.not_lt.2 c9)
                  have H' := Aside0.mk H
                  clear H
                  go_wp2_with (first | ((with_reducible refine gate_callee (f := 15) rfl ?_); refine goesL_ (some 11) rfl rfl Tryz.func15 (by kernel_rfl) rfl #[.string a0, .int .i64 x4_1, .string (⟨#[34, 34, 34]⟩ : ByteArray)] rfl (by (try simp only [List.map_toArray, List.map_cons, List.map_nil]); first | done | rfl | (simp only [List.length_drop, List.length_take]; rfl)) ?_; (with_reducible refine (spec_starts.calls a0 x4_1 (⟨#[34, 34, 34]⟩ : ByteArray) false _ A3.out).mono ?_); rintro e w' ⟨rfl, ⟨nd, rfl⟩⟩; refine ⟨_, rfl, ?_⟩))
                  go_roundg k1
                  case measure => have := HK1.out; omega
                  case rel => exact ⟨(x3_1 ++ (a0.extract (x4_1 : Int).toNat ((wrap64 (x4_1 + 1)) : Int).toNat)), (wrap64 (x4_1 + 1)), (by first | rfl | (simp; done) | (simp [*]; done)), (by first | rfl | (simp; done) | (simp [*]; done)), H', ⟨by have := HK1.out; omega⟩, by repeat (first | exact Drawn0.refl _ | apply Drawn0.step)⟩
                · rw [if_neg c9] at H
                  exact absurd H (by simp)
              · rw [if_neg c8] at H
                exact absurd H (by simp)
            · rw [if_neg c7] at H
              exact absurd H (by simp)
          · rw [if_neg c6] at H
            exact absurd H (by simp)
      · rw [if_neg c2] at H
        have c2b0 : decide (x4_1 < (a0.size : Int)) = false := decide_eq_false c2
        clear c2
        by_cases c10 : x3_1.size + 4 ≤ 9223372036854775807
        · rw [if_pos c10] at H
          have c10b0 := eq_true c10
          try (have c10s := c10; simp only [ByteArray.size_append, ByteArray.size_extract] at c10s)
          have c10b1 : decide (x3_1.size + 4 ≤ 9223372036854775807) = true := decide_eq_true c10
          try have c10b2 : (9223372036854775807 < x3_1.size + 4) = False := eq_false (Nat.not_lt.2 c10)
          obtain rfl := Option.some.inj H
          go_wp2
          go_ret
          exact ⟨by first | rfl | (simp; done) | (simp [*]; done), by repeat (first | exact Drawn0.refl _ | apply Drawn0.step)⟩
        · rw [if_neg c10] at H
          exact absurd H (by simp)

-- NOT PRINTED: function 3 (laws_FnTextWritten)

end Go.Proofs.YtfblohdfmaankaaGreatDoor.PFnTextWritten
