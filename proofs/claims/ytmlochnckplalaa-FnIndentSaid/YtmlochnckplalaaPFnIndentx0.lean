/- FnIndent: the Go functions that the law reaches as Lean functions, and that the Go code answers what these answer, for every input and in every world that the statements name. Written by this session's program extprint.py over hand-written contracts of some functions. -/
import Derived.Test.YtmlochnckplalaaProg
import Derived.Below
import Derived.Deep.Draws
import Derived.Deep.AppendLies
import Derived.Maps.AppendAt
import Derived.OwnWalk
import Derived.Laws.BytesArg
import Derived.Laws.MakeOwn
import Derived.Laws.OwnMore
import Derived.Deep.OwnRows
import Derived.Tactics
import Derived.Lib.ConvBytes
import Derived.Laws.Slices
import Derived.WalkKit
import Derived.KernelRfl
import Derived.RowKit3
import Derived.Deep.LoopGhost
import Derived.Deep.QuietTactic
import Derived.BigQuiet
import Derived.WideLaws
import Derived.Deep.DeepCutAuto
import Derived.Deep.CutBlock
import Derived.Deep.RegionHeld3
import Derived.Laws.Rows
import Derived.Lib.AppendStr
import Derived.ArgAppend
import Derived.Laws.IdiomCopy
import Derived.OrdersHeld
import Derived.Laws.BitsLemmas
import Derived.RowKit
import Derived.Test.YtmlochnckplalaaWWords
import Derived.Test.YtmlochnckplalaaWLast
import Derived.Test.YtmlochnckplalaaWTab
import Derived.Test.YtmlochnckplalaaWFour
import Derived.Test.YtmlochnckplalaaWQPut
import Derived.Test.YtmlochnckplalaaWApart
import Derived.Test.YtmlochnckplalaaWArr
import Derived.Test.YtmlochnckplalaaWZeros
import Derived.Test.YtmlochnckplalaaWFoot
import Derived.Test.YtmlochnckplalaaWKept
import Derived.Test.YtmlochnckplalaaWShare
import Derived.Test.YtmlochnckplalaaWN
import Derived.Test.YtmlochnckplalaaWFootNe
import Derived.Test.YtmlochnckplalaaWAt
import Derived.Test.YtmlochnckplalaaWEqStruct
import Derived.Test.YtmlochnckplalaaWRepsOne
import Derived.Test.YtmlochnckplalaaWInv
import Derived.Test.YtmlochnckplalaaWInvWords
import Derived.Test.YtmlochnckplalaaWGuard
import Derived.Test.YtmlochnckplalaaWNEv
import Derived.Test.YtmlochnckplalaaWMore
namespace Go.Proofs.Ytmlochnckplalaa.PFnIndent
open Go.RowKit Go.Proofs.YtmlochnckplalaaW.PrintWords Go.Proofs.YtmlochnckplalaaW.PrintLast Go.Proofs.YtmlochnckplalaaW.PrintMore
attribute [local go_sem] max2_int min2_int max_two min_two max_three min_three max_four min_four   -- for this text's walks alone
set_option linter.unusedVariables false
set_option linter.unusedSimpArgs false



def errW : Option Int → Value
  | none => .nilIface
  | some c => .iface 0 (.int .i64 c)
theorem errW_none : errW none = .nilIface := rfl
theorem errW_some (c : Int) : errW (some c) = .iface 0 (.int .i64 c) := rfl

theorem info5 : (Try.prog.info? 5).map (fun i => (i.zero, i.size, i.bytes)) = some (some (.int .u8 0), 1, 1) := by kernel_rfl
theorem info9 : (Try.prog.info? 9).map (fun i => (i.zero, i.size, i.bytes)) = some (some (.string ⟨#[]⟩), 1, 16) := by kernel_rfl
-- the values' own types

end Go.Proofs.Ytmlochnckplalaa.PFnIndent
