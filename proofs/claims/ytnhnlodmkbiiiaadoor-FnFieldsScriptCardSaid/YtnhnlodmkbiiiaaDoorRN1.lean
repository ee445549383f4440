/- The bytes of a node of a file with data and sizes of parts are those of its message. -/
import Derived.Test.YtnhnlodmkbiiiaaDoorRN0
namespace Go.Proofs.YtnhnlodmkbiiiaaDoor.HandFields
open Go Go.RowKit Go.Proofs.YtnhnlodmkbiiiaaDoorL Go.Proofs.YtnhnlodmkbiiiaaDoorW.PrintWords Go.Proofs.YtnhnlodmkbiiiaaDoorW.PrintLast Go.Proofs.YtnhnlodmkbiiiaaDoorW.PrintMore Go.Proofs.YtnhnlodmkbiiiaaDoor.PFieldsBase
attribute [local go_sem] max2_int min2_int max_two min_two max_three min_three max_four min_four
set_option linter.unusedVariables false
set_option linter.unusedSimpArgs false
/-- A row grown in a block that was made just now. -/
theorem grown_new {w1 wa : World} {o : Obj} {v : Value} (hg : (w1.alloc o).grownBy wa v.ownBlock) (hv : v.ownBlock = some w1.heap.size) (k : Nat) (hk : k < w1.heap.size) : wa.heap[k]? = w1.heap[k]? :=
 (hg.block k (by rw [size_alloc]; omega) (by rw [hv]; intro e; injection e with e; omega)).trans ((below_alloc (Below.refl _ w1) o).block k hk)
theorem rd_mem {l : List Int} {j : Nat} (hj : j < l.length) : rd l (j : Int) ∈ l := by
 unfold rd
 rw [Int.toNat_natCast, List.getD_eq_getElem?_getD, List.getElem?_eq_getElem hj]
 exact List.getElem_mem hj
end Go.Proofs.YtnhnlodmkbiiiaaDoor.HandFields
