/- The identifiers are read as themselves. -/
import Derived.Test.YtnhnlodmkbiiiaaDoorD4
namespace Go.Proofs.YtnhnlodmkbiiiaaDoor.HandDif
open Go Go.RowKit Go.Proofs.YtnhnlodmkbiiiaaDoorL Go.Proofs.YtnhnlodmkbiiiaaDoorW.PrintWords Go.Proofs.YtnhnlodmkbiiiaaDoorW.PrintLast Go.Proofs.YtnhnlodmkbiiiaaDoorW.PrintMore Go.Proofs.YtnhnlodmkbiiiaaDoor.PDif
attribute [local go_sem] max2_int min2_int max_two min_two max_three min_three max_four min_four
set_option linter.unusedVariables false
set_option linter.unusedSimpArgs false
theorem cast_0 (x : Int) : gocid_Cast.f 100 (18 :: 32 :: (List.replicate 31 0 ++ [x])) = some (strOfNums (18 :: 32 :: (List.replicate 31 0 ++ [x])), none) := by kernel_rfl
theorem cast_1 (x : Int) : gocid_Cast.f 100 (1 :: 112 :: 18 :: 32 :: (List.replicate 31 0 ++ [x])) = some (strOfNums (1 :: 112 :: 18 :: 32 :: (List.replicate 31 0 ++ [x])), none) := by kernel_rfl
theorem cast_2 (x : Int) : gocid_Cast.f 100 (1 :: 85 :: 18 :: 32 :: (List.replicate 31 0 ++ [x])) = some (strOfNums (1 :: 85 :: 18 :: 32 :: (List.replicate 31 0 ++ [x])), none) := by kernel_rfl
theorem cast_id (n : Nat) : gocid_Cast.f 100 (idB n) = some (strOfNums (idB n), none) := by
  unfold idB hashN
  split
  · exact cast_0 _
  split
  · exact cast_1 _
  · exact cast_2 _
end Go.Proofs.YtnhnlodmkbiiiaaDoor.HandDif
