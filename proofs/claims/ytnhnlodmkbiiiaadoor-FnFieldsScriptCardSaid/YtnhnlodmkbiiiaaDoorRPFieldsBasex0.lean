/- Printed by a program of this session (it drives the print of the kit, with contracts proved by hand beside): the Go functions of one law as Lean functions, and that the Go code comes to what they say. -/
import Derived.Test.YtnhnlodmkbiiiaaDoorProg
import Derived.Test.YtnhnlodmkbiiiaaDoorShelf
import Derived.WalkSpells
import Derived.WalkLawsBesides
import Derived.Below
import Derived.Deep.Draws
import Derived.Deep.AppendLies
import Derived.Maps.AppendAt
import Derived.OwnWalk
import Derived.Laws.BytesArg
import Derived.Laws.MakeOwn
import Derived.Laws.OwnMore
import Derived.Deep.OwnRows
import Derived.Tactics
import Derived.Lib.ConvBytes
import Derived.Laws.Slices
import Derived.WalkKit
import Derived.KernelRfl
import Derived.RowKit3
import Derived.Deep.LoopGhost
import Derived.Deep.QuietTactic
import Derived.BigQuiet
import Derived.WideLaws
import Derived.Deep.DeepCutAuto
import Derived.Deep.CutBlock
import Derived.Deep.RegionHeld3
import Derived.Laws.Rows
import Derived.Lib.AppendStr
import Derived.ArgAppend
import Derived.Laws.IdiomCopy
import Derived.OrdersHeld
import Derived.Laws.BitsLemmas
import Derived.RowKit
import Derived.Test.YtnhnlodmkbiiiaaDoorLOwn
import Derived.Test.YtnhnlodmkbiiiaaDoorLOwn2
import Derived.Test.YtnhnlodmkbiiiaaDoorWWords
import Derived.Test.YtnhnlodmkbiiiaaDoorWLast
import Derived.Test.YtnhnlodmkbiiiaaDoorWQPut
import Derived.Test.YtnhnlodmkbiiiaaDoorWApart
import Derived.Test.YtnhnlodmkbiiiaaDoorWArr
import Derived.Test.YtnhnlodmkbiiiaaDoorWZeros
import Derived.Test.YtnhnlodmkbiiiaaDoorWFoot
import Derived.Test.YtnhnlodmkbiiiaaDoorWKept
import Derived.Test.YtnhnlodmkbiiiaaDoorWShare
import Derived.Test.YtnhnlodmkbiiiaaDoorWN
import Derived.Test.YtnhnlodmkbiiiaaDoorWFootNe
import Derived.Test.YtnhnlodmkbiiiaaDoorWRepsOne
import Derived.Test.YtnhnlodmkbiiiaaDoorWNEv
import Derived.Test.YtnhnlodmkbiiiaaDoorWMore
namespace Go.Proofs.YtnhnlodmkbiiiaaDoor.PFieldsBase
open Go.RowKit Go.Proofs.YtnhnlodmkbiiiaaDoorL Go.Proofs.YtnhnlodmkbiiiaaDoorW.PrintWords Go.Proofs.YtnhnlodmkbiiiaaDoorW.PrintLast Go.Proofs.YtnhnlodmkbiiiaaDoorW.PrintMore
attribute [local go_sem] max2_int min2_int max_two min_two max_three min_three max_four min_four   -- for this text's walks alone
set_option linter.unusedVariables false
set_option linter.unusedSimpArgs false

def errV : Option Int → TypeId → Value → Value
 | none, _, _ => .nilIface
 | some _, T, x => .iface T x
-- the values' own types
end Go.Proofs.YtnhnlodmkbiiiaaDoor.PFieldsBase
