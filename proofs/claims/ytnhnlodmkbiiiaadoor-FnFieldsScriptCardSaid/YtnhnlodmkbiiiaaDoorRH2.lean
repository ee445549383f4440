/- The fixed example of the laws on messages of unixfs is told as it is. -/
import Derived.Test.YtnhnlodmkbiiiaaDoorRH1
import Derived.Lib.SlBytesConst
namespace Go.Proofs.YtnhnlodmkbiiiaaDoor.HandFields
open Go Go.RowKit Go.Proofs.YtnhnlodmkbiiiaaDoorL Go.Proofs.YtnhnlodmkbiiiaaDoorW.PrintWords Go.Proofs.YtnhnlodmkbiiiaaDoorW.PrintLast Go.Proofs.YtnhnlodmkbiiiaaDoorW.PrintMore Go.Proofs.YtnhnlodmkbiiiaaDoor.PFieldsBase
attribute [local go_sem] max2_int min2_int max_two min_two max_three min_three max_four min_four
set_option linter.unusedVariables false
set_option linter.unusedSimpArgs false
theorem fitF : Fit ⟨2, some [97, 98], some 7, []⟩ := ⟨by decide, fun xs h => by cases h; decide, fun n h => by cases h; decide, by simp, by decide⟩
/-- Two bytes in a block of their own. -/
theorem C_two (W : World) (g : Nat) (a b : Int) (t : TypeId) (fz : Nat × Nat) (h : W.heap[g]? = some (.cells #[.int .u8 a, .int .u8 b] t fz)) : Kd.C (Kd.int .u8) W (some ⟨g, 0, none⟩) 2 [a, b] := by
 refine Kd.C_of_reads (d := (0 : Int)) ⟨rfl, by decide, fun _ => ⟨⟨g, 0, none⟩, rfl, fun i hi => ?_⟩⟩
 have h0 := fun j => cell_of_row W g j _ t fz h
 match i, hi with
 | 0, _ => exact h0 0
 | 1, _ => exact h0 1
theorem same_refl (l : List Int) : spec_SameBytes.f l l = some true := by unfold spec_SameBytes.f; rw [beq_self_eq_true]
set_option maxHeartbeats 8000000 in
set_option maxRecDepth 100000 in
theorem laws_folderAwake (w : World) : Calls Tryd.prog 25 #[] w fun e w' => e = .returned (.bool true) ∧ Below w.heap.size w w' := by
 have kc := fun (w : World) (C : Array Value) (n c : Nat) => Lib.run_convert_bytes_const (P := Tryd.prog) w 22 5 C n c Tryd.underlying22 Tryd.underlying5
 go_enter Tryd.func25, Tryd.ntmps25
 go_wp2_with (first | (go_at_call 62; refine (impl_FileData _ (some ⟨w.heap.size, 0, none⟩) 2 [97, 98] 7 (C_two _ _ _ _ 5 _ (blk_new w _)) (Nat.le_refl _) (by decide) (by decide)).mono ?_; rintro e w1 ⟨v1, rfl, hR, hB⟩; obtain ⟨A1, c1, rfl⟩ := Kd.R_slice hR; have HR1 := Aside0.mk (Kd.R_reads' hR); have HB1 := Aside0.mk (below_step (below_alloc (Below.refl _ w) _) hB); clear hR hB) | (go_at_call 28; refine (impl_DataSize _ A1 c1 _ fitF 7 rfl (.inr rfl) HR1.out.2.2 HR1.out.2.1).mono ?_; rintro e w2 ⟨rfl, hB⟩; have HB2 := Aside0.mk (below_step HB1.out hB); clear hB) | (go_at_call 63; refine (impl_FolderData _).mono ?_; rintro e w3 ⟨v3, rfl, hR, hB⟩; obtain ⟨A3, c3, rfl⟩ := Kd.R_slice hR; have HR3 := Aside0.mk (Kd.R_reads' hR); have HB3 := Aside0.mk (below_step HB2.out hB); clear hR hB) | (go_at_call 20; refine (spec_SameBytes.calls A3 c3 [8, 1] (some ⟨w3.heap.size, 0, none⟩) 2 [8, 1] true _ (Kd.C_alloc HR3.out.2.2 _) HR3.out.2.1 (C_two _ _ _ _ 5 _ (blk_new w3 _)) (Nat.le_refl _) (same_refl _)).mono ?_; rintro e w4 ⟨rfl, nd, rfl⟩))
 go_ret
 exact ⟨rfl, pw_below_drewN (below_alloc HB3.out _) _⟩
end Go.Proofs.YtnhnlodmkbiiiaaDoor.HandFields
