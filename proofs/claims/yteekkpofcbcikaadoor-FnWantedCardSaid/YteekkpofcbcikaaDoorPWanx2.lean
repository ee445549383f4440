/- Printed by a program of this session (it drives the print of the kit, with contracts proved by hand beside): the Go functions of one law as Lean functions, and that the Go code comes to what they say. -/
import Derived.Test.YteekkpofcbcikaaDoorPWanx0
namespace Go.Proofs.YteekkpofcbcikaaDoor.PWan
open Go.RowKit Go.Proofs.YteekkpofcbcikaaDoorL Go.Proofs.YteekkpofcbcikaaDoorW.PrintWords Go.Proofs.YteekkpofcbcikaaDoorW.PrintLast Go.Proofs.YteekkpofcbcikaaDoorW.PrintMore
attribute [local go_sem] max2_int min2_int max_two min_two max_three min_three max_four min_four   -- for this text's walks alone
set_option linter.unusedVariables false
set_option linter.unusedSimpArgs false

/-! ### slices_partitionOrdered_string: function 105, by hand -/
-- HAND slices.partitionOrdered[string]
-- making: yes
/-- Not called by what is printed. -/
def slices_partitionOrdered_string.f : Unit := ()


/-! ### slices_pdqsortOrdered_string: function 73, by hand -/
-- HAND slices.pdqsortOrdered[string]
-- making: yes
/-- Not called by what is printed. -/
def slices_pdqsortOrdered_string.f : Unit := ()


/-! ### slices_Sort_string_string: function 34, by hand -/
-- HAND slices.Sort[[]string,string]
-- making: yes
/-- Not called by what is printed. -/
def slices_Sort_string_string.f (l0 : List ByteArray) : Option Unit := none


/-! ### errors_New: function 76, by hand -/
-- HAND errors.New
-- making: yes
/-- A new error, never nil. -/
def errors_New.f (a0 : ByteArray) : Option (Option Int) := some (some 0)
set_option maxHeartbeats 2000000 in
set_option maxRecDepth 100000 in
theorem errors_New.calls (a0 : ByteArray) (r : Option Int) (w : World) (h : errors_New.f a0 = some r) :
    Calls Tryd.prog 76 #[.string a0] w fun e w' => ExE fun eT0_ eX0_ => e = .returned (errV r eT0_ eX0_) ∧ Below w.heap.size w w' := by
  obtain rfl := Option.some.inj h
  clear h
  have HB := Aside0.mk (Below.refl w.heap.size w)
  go_enter Tryd.func76, Tryd.ntmps76
  go_wp2
  go_ret
  exact ExE.intro _ _ ⟨rfl, below_alloc HB.out _⟩


end Go.Proofs.YteekkpofcbcikaaDoor.PWan
