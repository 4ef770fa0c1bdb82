-- PRINTED BY print.sh 35421559b90ae4d0a3588c463048766b98c2df88dd9212a6774a882060cdf62d: not written by this session
import Derived.Test.YtkjepgahnaieaaaProg
import Derived.Below
import Derived.Deep.Draws
import Derived.Deep.AppendLies
import Derived.Maps.AppendAt
import Derived.OwnWalk
import Derived.Laws.BytesArg
import Derived.Laws.MakeOwn
import Derived.Laws.OwnMore
import Derived.Deep.OwnRows
import Derived.Tactics
import Derived.Lib.ConvBytes
import Derived.Laws.Slices
import Derived.WalkKit
import Derived.KernelRfl
import Derived.RowKit3
import Derived.Deep.LoopGhost
import Derived.Deep.QuietTactic
import Derived.BigQuiet
import Derived.WideLaws
import Derived.Deep.DeepCutAuto
import Derived.Deep.CutBlock
import Derived.Deep.RegionHeld3
import Derived.Laws.Rows
import Derived.Lib.AppendStr
import Derived.ArgAppend
import Derived.Laws.IdiomCopy
import Derived.OrdersHeld
import Derived.Laws.BitsLemmas
import Derived.RowKit
import Derived.Test.YtkjepgahnaieaaaWWords
import Derived.Test.YtkjepgahnaieaaaWLast
import Derived.Test.YtkjepgahnaieaaaWTab
import Derived.Test.YtkjepgahnaieaaaWFour
import Derived.Test.YtkjepgahnaieaaaWQPut
import Derived.Test.YtkjepgahnaieaaaWApart
import Derived.Test.YtkjepgahnaieaaaWArr
import Derived.Test.YtkjepgahnaieaaaWZeros
import Derived.Test.YtkjepgahnaieaaaWFoot
import Derived.Test.YtkjepgahnaieaaaWKept
import Derived.Test.YtkjepgahnaieaaaWShare
import Derived.Test.YtkjepgahnaieaaaWN
import Derived.Test.YtkjepgahnaieaaaWFootNe
import Derived.Test.YtkjepgahnaieaaaWAt
import Derived.Test.YtkjepgahnaieaaaWEqStruct
import Derived.Test.YtkjepgahnaieaaaWRepsOne
import Derived.Test.YtkjepgahnaieaaaWInv
import Derived.Test.YtkjepgahnaieaaaWInvWords
import Derived.Test.YtkjepgahnaieaaaWGuard
import Derived.Test.YtkjepgahnaieaaaWNEv
import Derived.Test.YtkjepgahnaieaaaWMore
namespace Go.Proofs.Ytkjepgahnaieaaa.PFnTokens
open Go.RowKit Go.Proofs.YtkjepgahnaieaaaW.PrintWords Go.Proofs.YtkjepgahnaieaaaW.PrintLast Go.Proofs.YtkjepgahnaieaaaW.PrintMore
attribute [local go_sem] max2_int min2_int max_two min_two max_three min_three max_four min_four   -- for this text's walks alone
set_option linter.unusedVariables false
set_option linter.unusedSimpArgs false



def errW : Option Int → Value
  | none => .nilIface
  | some c => .iface 0 (.int .i64 c)
theorem errW_none : errW none = .nilIface := rfl
theorem errW_some (c : Int) : errW (some c) = .iface 0 (.int .i64 c) := rfl

theorem info9 : (Try.prog.info? 9).map (fun i => (i.zero, i.size, i.bytes)) = some (some (.string ⟨#[]⟩), 1, 16) := by kernel_rfl
-- the values' own types

end Go.Proofs.Ytkjepgahnaieaaa.PFnTokens
