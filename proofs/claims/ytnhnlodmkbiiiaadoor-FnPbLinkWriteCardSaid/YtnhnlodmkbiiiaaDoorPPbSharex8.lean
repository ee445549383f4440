/- Printed by a program of this session (it drives the print of the kit, with contracts proved by hand beside): the Go functions of one law as Lean functions, and that the Go code comes to what they say. -/
import Derived.Test.YtnhnlodmkbiiiaaDoorPPbSharex0
namespace Go.Proofs.YtnhnlodmkbiiiaaDoor.PPbShare
open Go.RowKit Go.Proofs.YtnhnlodmkbiiiaaDoorL Go.Proofs.YtnhnlodmkbiiiaaDoorW.PrintWords Go.Proofs.YtnhnlodmkbiiiaaDoorW.PrintLast Go.Proofs.YtnhnlodmkbiiiaaDoorW.PrintMore
attribute [local go_sem] max2_int min2_int max_two min_two max_three min_three max_four min_four   -- for this text's walks alone
set_option linter.unusedVariables false
set_option linter.unusedSimpArgs false

/-! ### spec_PbPlain: function 53, by hand -/
-- HAND pub-tholos/spec.PbPlain
-- making: yes
-- share: 0.3
-- rsh: 3
/-- A link without what does not count. -/
def spec_PbPlain.f (a0_0 : Bool) (a0_1 : Bool) (a0_2 : Bool) (l0_3 : List Int) (a0_4 : ByteArray) (a0_5 : Int) : Option (Bool × Bool × Bool × List Int × ByteArray × Int) := some (a0_0, a0_1, a0_2, if a0_0 = true then l0_3 else [], if a0_1 = true then a0_4 else ⟨#[]⟩, if a0_2 = true then a0_5 else 0)
theorem spec_PbPlain.calls (a0_0 : Bool) (a0_1 : Bool) (a0_2 : Bool) (P0_3_ : Nat → Prop) (A0_3 : Option Addr) (c0_3 : Nat) (l0_3 : List Int) (a0_4 : ByteArray) (a0_5 : Int) (r1 : Bool) (r2 : Bool) (r3 : Bool) (r4 : List Int) (r5 : ByteArray) (r6 : Int) (w : World) (hs0_3 : Kd.V (Kd.int .u8) 5 w w.heap.size (fun k_ => P0_3_ k_) (.slice A0_3 l0_3.length c0_3) l0_3) (h : spec_PbPlain.f a0_0 a0_1 a0_2 l0_3 a0_4 a0_5 = some (r1, r2, r3, r4, r5, r6)) :
    Calls Tryd.prog 53 #[.agg #[.bool a0_0, .bool a0_1, .bool a0_2, .slice A0_3 l0_3.length c0_3, .string a0_4, .int .u64 a0_5]] w fun e w' => ∃ v3_ : Value, e = .returned (.agg #[.bool r1, .bool r2, .bool r3, v3_, .string r5, .int .u64 r6]) ∧ Kd.V (Kd.int .u8) 5 w' w.heap.size (fun k_ => (P0_3_ k_ ∨ w.heap.size ≤ k_)) v3_ r4 ∧ Below w.heap.size w w' := by
  have h' := Option.some.inj h
  clear h
  simp only [Prod.mk.injEq] at h'
  obtain ⟨rfl, rfl, rfl, rfl, rfl, rfl⟩ := h'
  refine (Go.Proofs.YtnhnlodmkbiiiaaDoor.HandFields.PbPlain_walk w a0_0 a0_1 a0_2 (.slice A0_3 l0_3.length c0_3) a0_4 a0_5 ⟨_, _, _, rfl⟩).mono ?_
  rintro e w' ⟨rfl, hB⟩
  refine ⟨_, rfl, ?_, hB⟩
  cases a0_0
  · exact Kd.V_nil _ _ _ _ _
  · exact Kd.V_mono (Kd.V_below hs0_3 hB) (fun _ hk => .inl hk)


end Go.Proofs.YtnhnlodmkbiiiaaDoor.PPbShare
