/- A link without what does not count: the function of the package spec, by value. -/
import Derived.Test.YtnhnlodmkbiiiaaDoorG3
namespace Go.Proofs.YtnhnlodmkbiiiaaDoor.HandFields
open Go Go.RowKit Go.Proofs.YtnhnlodmkbiiiaaDoorL Go.Proofs.YtnhnlodmkbiiiaaDoorW.PrintWords Go.Proofs.YtnhnlodmkbiiiaaDoorW.PrintLast Go.Proofs.YtnhnlodmkbiiiaaDoorW.PrintMore Go.Proofs.YtnhnlodmkbiiiaaDoor.PFieldsBase
attribute [local go_sem] max2_int min2_int max_two min_two max_three min_three max_four min_four
set_option linter.unusedVariables false
set_option linter.unusedSimpArgs false
set_option maxHeartbeats 4000000 in
theorem PbPlain_walk (w : World) (a b c : Bool) (v3 : Value) (s : ByteArray) (z : Int) (hv : ∃ A n cp, v3 = .slice A n cp) :
    Calls Tryd.prog 53 #[.agg #[.bool a, .bool b, .bool c, v3, .string s, .int .u64 z]] w fun e w' => e = .returned (.agg #[.bool a, .bool b, .bool c, if a then v3 else .slice none 0 0, .string (if b then s else ⟨#[]⟩), .int .u64 (if c then z else 0)]) ∧ Below w.heap.size w w' := by
  obtain ⟨A, n, cp, rfl⟩ := hv
  cases a <;> cases b <;> cases c
  all_goals
    go_enter Tryd.func53, Tryd.ntmps53
    go_wp2_with fail
    refine bodyPost_ret (results_cell_row rfl _ _ (w.heap.size + 1) 27 _ (0, 0) _ rfl (heap2_1 w _ _) Tryd.underlying27 rfl (by kernel_rfl)) rfl ?_
    exact ⟨rfl, below_alloc (below_alloc (Below.refl _ w) _) _⟩
end Go.Proofs.YtnhnlodmkbiiiaaDoor.HandFields
