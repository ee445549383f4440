/- Bytes read as a link: the code's way and the reference tell the same, wherever the reference says that they are of known fields. Plain lists and numbers. -/
import Derived.Test.YtnhnlodmkbiiiaaDoorQG5
namespace Go.Proofs.YtnhnlodmkbiiiaaDoor.HandPb
open Go Go.RowKit Go.Proofs.YtnhnlodmkbiiiaaDoorL Go.Proofs.YtnhnlodmkbiiiaaDoorW.PrintWords Go.Proofs.YtnhnlodmkbiiiaaDoorW.PrintLast Go.Proofs.YtnhnlodmkbiiiaaDoorW.PrintMore Go.Proofs.YtnhnlodmkbiiiaaDoor.HandFields Go.Proofs.YtnhnlodmkbiiiaaDoor.PPbShare
attribute [local go_sem] max2_int min2_int max_two min_two max_three min_three max_four min_four
set_option linter.unusedVariables false
set_option linter.unusedSimpArgs false
theorem umL_len {k : Nat} {l l1 : List Int} {s : Lnk} {key : Nat} (h0 : l ≠ []) (h : rdv 10 l = some (some (key, l1))) (hk : key = 10 ∨ key = 18) : umL (k + 1) l s = lenR k l1 (fun x => if key = 10 then { s with hash := some x } else { s with name := some x }) := by
 unfold umL lenR; rw [if_neg h0, h]
 rcases hk with rfl | rfl <;> rfl
theorem umL_num {k : Nat} {l l1 : List Int} {s : Lnk} (h0 : l ≠ []) (h : rdv 10 l = some (some (24, l1))) : umL (k + 1) l s = numR k l1 (fun x => { s with ts := some x }) := by
 unfold umL numR; rw [if_neg h0, h]; rfl
end Go.Proofs.YtnhnlodmkbiiiaaDoor.HandPb
