/- Functions and their contracts, printed by a program out of the translation. -/
import Derived.Test.YtmenkckgpiafiaaGreatProg
import Derived.Below
import Derived.Deep.Draws
import Derived.Deep.AppendLies
import Derived.Maps.AppendAt
import Derived.OwnWalk
import Derived.Laws.BytesArg
import Derived.Laws.MakeOwn
import Derived.Laws.OwnMore
import Derived.Deep.OwnRows
import Derived.Tactics
import Derived.Lib.ConvBytes
import Derived.Laws.Slices
import Derived.WalkKit
import Derived.KernelRfl
import Derived.RowKit3
import Derived.Deep.LoopGhost
import Derived.Deep.QuietTactic
import Derived.BigQuiet
import Derived.WideLaws
import Derived.Deep.DeepCutAuto
import Derived.Deep.CutBlock
import Derived.Deep.RegionHeld3
import Derived.Laws.Rows
import Derived.Lib.AppendStr
import Derived.ArgAppend
import Derived.Laws.IdiomCopy
import Derived.OrdersHeld
import Derived.Laws.BitsLemmas
import Derived.RowKit
import Derived.Test.YtmenkckgpiafiaaGreatWWords
import Derived.Test.YtmenkckgpiafiaaGreatWLast
import Derived.Test.YtmenkckgpiafiaaGreatWTab
import Derived.Test.YtmenkckgpiafiaaGreatWFour
import Derived.Test.YtmenkckgpiafiaaGreatWQPut
import Derived.Test.YtmenkckgpiafiaaGreatWApart
import Derived.Test.YtmenkckgpiafiaaGreatWArr
import Derived.Test.YtmenkckgpiafiaaGreatWZeros
import Derived.Test.YtmenkckgpiafiaaGreatWFoot
import Derived.Test.YtmenkckgpiafiaaGreatWKept
import Derived.Test.YtmenkckgpiafiaaGreatWShare
import Derived.Test.YtmenkckgpiafiaaGreatWN
import Derived.Test.YtmenkckgpiafiaaGreatWFootNe
import Derived.Test.YtmenkckgpiafiaaGreatWAt
import Derived.Test.YtmenkckgpiafiaaGreatWEqStruct
import Derived.Test.YtmenkckgpiafiaaGreatWRepsOne
import Derived.Test.YtmenkckgpiafiaaGreatWInv
import Derived.Test.YtmenkckgpiafiaaGreatWInvWords
import Derived.Test.YtmenkckgpiafiaaGreatWGuard
import Derived.Test.YtmenkckgpiafiaaGreatWNEv
import Derived.Test.YtmenkckgpiafiaaGreatWMore
import Derived.Test.YtmenkckgpiafiaaGreatKK
namespace Go.Proofs.YtmenkckgpiafiaaGreat.PA
open Go.Proofs.YtmenkckgpiafiaaGreat.KK Go.RowKit Go.Proofs.YtmenkckgpiafiaaGreatW.PrintWords Go.Proofs.YtmenkckgpiafiaaGreatW.PrintLast Go.Proofs.YtmenkckgpiafiaaGreatW.PrintMore
attribute [local go_sem] max2_int min2_int max_two min_two max_three min_three max_four min_four   -- for this text's walks alone
set_option linter.unusedVariables false
set_option linter.unusedSimpArgs false



def errW : Option Int → Value
  | none => .nilIface
  | some c => .iface 0 (.int .i64 c)
theorem errW_none : errW none = .nilIface := rfl
theorem errW_some (c : Int) : errW (some c) = .iface 0 (.int .i64 c) := rfl

theorem info89 : (Tryz.prog.info? 89).map (fun i => (i.zero, i.size, i.bytes)) = some (some (.agg #[(.string ⟨#[]⟩), (.string ⟨#[]⟩)]), 2, 32) := by kernel_rfl
theorem info266 : (Tryz.prog.info? 266).map (fun i => (i.zero, i.size, i.bytes)) = some (some (.agg #[(.string ⟨#[]⟩), (.string ⟨#[]⟩)]), 2, 32) := by kernel_rfl

end Go.Proofs.YtmenkckgpiafiaaGreat.PA
