/- Printed by a program of this session (it drives the print of the kit, with contracts proved by hand beside): the Go functions of one law as Lean functions, and that the Go code comes to what they say. -/
import Derived.Test.YtbmeegkgcipmoaaDoorPFnCidSafeFirstx0
import Derived.Test.YtbmeegkgcipmoaaDoorPFnCidSafeFirstx1
import Derived.Test.YtbmeegkgcipmoaaDoorPFnCidSafeFirstx2
import Derived.Test.YtbmeegkgcipmoaaDoorPFnCidSafeFirstx3
import Derived.Test.YtbmeegkgcipmoaaDoorPFnCidSafeFirstx4
import Derived.Test.YtbmeegkgcipmoaaDoorPFnCidSafeFirstx5
import Derived.Test.YtbmeegkgcipmoaaDoorPFnCidSafeFirstx6
import Derived.Test.YtbmeegkgcipmoaaDoorPFnCidSafeFirstx7
import Derived.Test.YtbmeegkgcipmoaaDoorPFnCidSafeFirstx8
namespace Go.Proofs.YtbmeegkgcipmoaaDoor.PFnCidSafeFirst
open Go.RowKit Go.Proofs.YtbmeegkgcipmoaaDoorL Go.Proofs.YtbmeegkgcipmoaaDoorW.PrintWords Go.Proofs.YtbmeegkgcipmoaaDoorW.PrintLast Go.Proofs.YtbmeegkgcipmoaaDoorW.PrintMore
attribute [local go_sem] max2_int min2_int max_two min_two max_three min_three max_four min_four   -- for this text's walks alone
set_option linter.unusedVariables false
set_option linter.unusedSimpArgs false

end Go.Proofs.YtbmeegkgcipmoaaDoor.PFnCidSafeFirst
