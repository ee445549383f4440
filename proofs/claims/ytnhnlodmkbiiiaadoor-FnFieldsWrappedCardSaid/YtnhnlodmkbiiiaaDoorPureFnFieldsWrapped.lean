/- FnFieldsWrapped: what is wrapped is unwrapped, and has its size: the plain law, over lists of numbers. -/
import Derived.Test.YtnhnlodmkbiiiaaDoorPFnFieldsWrappedx4
namespace Go.Proofs.YtnhnlodmkbiiiaaDoor.Pure
open Go.RowKit Go.Proofs.YtnhnlodmkbiiiaaDoor.PFnFieldsWrapped Go.Proofs.YtnhnlodmkbiiiaaDoorW.PrintWords Go.Proofs.YtnhnlodmkbiiiaaDoorW.PrintLast 
open Go.Proofs.YtnhnlodmkbiiiaaDoor.HandFields (Fit marsh parse parse_marsh)

theorem same_refl (l : List Int) : spec_SameBytes.f l l = some true := by unfold spec_SameBytes.f; rw [beq_self_eq_true]
theorem awake : laws_folderAwake.f = some true := rfl
theorem FnFieldsWrapped : laws_FnFieldsWrapped.Pure := by
  intro l0 hm hb hw
  unfold laws_FnFieldsWrapped.f
  by_cases h1 : (l0.length : Int) > 2147483647
  · rw [if_pos h1]
  rw [if_neg h1]
  by_cases h2 : (l0.length : Int) > 2000
  · rw [if_pos h2, awake, Option.bind_some]
  rw [if_neg h2, Option.bind_some, if_pos (by simp; omega), List.nil_append]
  have hf : Fit ⟨0, some l0, some l0.length, []⟩ := ⟨show (0:Nat) < 1000 by decide, fun xs h => by cases h; omega, fun n h => by cases h; omega, by simp, show (0:Nat) ≤ 1000000 by decide⟩
  have e1 : impl_Wrapped.f l0 = some (marsh ⟨0, some l0, some l0.length, []⟩) := by unfold impl_Wrapped.f; rw [if_pos (by omega)]
  have e2 : impl_Unwrapped.f (marsh ⟨0, some l0, some l0.length, []⟩) = some (l0, true) := by
    unfold impl_Unwrapped.f
    rw [parse_marsh hf, Option.bind_some]
    rfl
  have e3 : impl_DataSize.f (marsh ⟨0, some l0, some l0.length, []⟩) = some ((l0.length : Int), true) := by
    unfold impl_DataSize.f
    rw [parse_marsh hf, Option.bind_some, if_pos (.inl rfl)]
    rfl
  have e4 : IntKind.u64.wrap (l0.length : Int) = (l0.length : Int) := by unfold IntKind.wrap; simp [IntKind.bits, IntKind.signed]; omega
  rw [e1, Option.bind_some, e2, Option.bind_some, e3, Option.bind_some, if_pos rfl, if_pos rfl, same_refl, Option.bind_some, if_pos rfl, e4, if_pos rfl, awake]
  rfl
end Go.Proofs.YtnhnlodmkbiiiaaDoor.Pure
