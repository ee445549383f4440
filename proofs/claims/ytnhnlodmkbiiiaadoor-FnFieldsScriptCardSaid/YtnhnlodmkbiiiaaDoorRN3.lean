/- What some bytes tell as a message of unixfs, as plain data. -/
import Derived.Test.YtnhnlodmkbiiiaaDoorRN2
namespace Go.Proofs.YtnhnlodmkbiiiaaDoor.HandFields
open Go Go.RowKit Go.Proofs.YtnhnlodmkbiiiaaDoorL Go.Proofs.YtnhnlodmkbiiiaaDoorW.PrintWords Go.Proofs.YtnhnlodmkbiiiaaDoorW.PrintLast Go.Proofs.YtnhnlodmkbiiiaaDoorW.PrintMore Go.Proofs.YtnhnlodmkbiiiaaDoor.PFieldsBase
attribute [local go_sem] max2_int min2_int max_two min_two max_three min_three max_four min_four
set_option linter.unusedVariables false
set_option linter.unusedSimpArgs false
set_option maxHeartbeats 8000000 in
theorem plainFS_calls {w : World} {g p1 : Nat} {d : Dat} {vD v3 vB : Value} (h : RdDat w g d p1 vD v3 vB 167) (hf : Fit d) : Calls Tryd.prog 72 #[.pointer (some ⟨g, 0, none⟩)] w fun e w' => ∃ v1 v3, e = .returned (.agg #[.int .i64 (d.ty : Int), v1, .int .u64 (fsz d), v3, .int .u64 0, .int .u64 0]) ∧ Kd.R (Kd.int .u8) 5 w' w.heap.size (fun _ => True) v1 (d.data.getD []) ∧ Kd.R (Kd.int .u64) 24 w' w.heap.size (fun _ => True) v3 d.blocks ∧ Below w.heap.size w w' := by
 have RD := Aside0.mk h
 have FT := Aside0.mk hf
 obtain ⟨A, c, rfl, hl, hC⟩ := h.dataC
 obtain ⟨AB, cB, rfl, hlB, hCB⟩ := h.blks
 have HL := Aside0.mk hl
 have HC := Aside0.mk hC
 have HLB := Aside0.mk hlB
 have HCB := Aside0.mk hCB
 have hcl : bytes_Clone.f (d.data.getD []) = some (d.data.getD []) := by
  unfold bytes_Clone.f; rw [if_pos]
  cases hd : d.data with
  | none => exact Nat.zero_le _
  | some xs => have := hf.data xs hd; simp; omega
 have HCL := Aside0.mk hcl
 have hcb : Clone64.f d.blocks = some d.blocks := by unfold Clone64.f; rw [if_pos (by have := hf.many; omega)]
 have HCLB := Aside0.mk hcb
 have hty : IntKind.i64.wrap (d.ty : Int) = (d.ty : Int) := words_i64 _ (by omega) (by have := hf.ty; omega)
 have hty2 : wrap64 (d.ty : Int) = (d.ty : Int) := (i64_w _).symm.trans hty
 clear h hf hl hC hlB hCB hcl hcb
 have RD0 := Aside0.mk (RD.out.below (below_alloc (Below.refl _ w) (.cells #[.int .i64 0, .slice none 0 0, .int .u64 0, .slice none 0 0, .int .u64 0, .int .u64 0] 56)))
 have HB0 := Aside0.mk (below_alloc (Below.refl w.heap.size w) (.cells #[.int .i64 0, .slice none 0 0, .int .u64 0, .slice none 0 0, .int .u64 0, .int .u64 0] 56))
 have HG0 := Aside0.mk (blk_new w (.cells #[.int .i64 0, .slice none 0 0, .int .u64 0, .slice none 0 0, .int .u64 0, .int .u64 0] 56))
 go_enter Tryd.func72, Tryd.ntmps72
 go_wp2_with (first
  | (go_at_call 106; refine (Fs106_calls RD0.out).mono ?_; rintro e w1 ⟨rfl, hw⟩; rw [hw]; clear hw)
  | (go_at_call 105; refine (Fs105_calls RD0.out).mono ?_; rintro e w1 ⟨rfl, hw⟩; rw [hw]; clear hw)
  | (go_at_call 51; refine (bytes_Clone.calls A c (d.data.getD []) (d.data.getD []) _ (Kd.C_below HC.out HB0.out) HL.out HCL.out).mono ?_; rintro e w2 ⟨v2, rfl, hR, hB⟩; obtain ⟨A2, c2, rfl⟩ := Kd.R_slice hR; have HR2 := Aside0.mk hR; have HB2 := Aside0.mk hB; have RD2 := Aside0.mk (RD0.out.below hB); have HG2 := Aside0.mk ((hB.block _ (blk_lt HG0.out)).trans HG0.out); clear hR hB)
  | (go_at_call 107; refine (Fs107_calls RD2.out FT.out).mono ?_; rintro e w3 ⟨rfl, hB⟩; have HR3 := Aside0.mk (Kd.R_below HR2.out hB); have HB3 := Aside0.mk (below_then HB2.out HB2.out.size hB); have RD3 := Aside0.mk (RD2.out.below hB); have HG3 := Aside0.mk ((hB.block _ (blk_lt HG2.out)).trans HG2.out); clear hB)
  | (go_at_call 109; refine (Fs109_calls RD3.out).mono ?_; rintro e w1 ⟨rfl, hw⟩; rw [hw]; clear hw)
  | (go_at_call 108; refine (Clone64.calls AB cB d.blocks d.blocks _ (Kd.C_below HCB.out (below_step HB0.out HB3.out)) HLB.out HCLB.out).mono ?_; rintro e w4 ⟨v4, rfl, hR, hB⟩; obtain ⟨A4, c4, rfl⟩ := Kd.R_slice hR; have HR4b := Aside0.mk hR; have HR4 := Aside0.mk (Kd.R_below HR3.out hB); have HB4 := Aside0.mk (below_then HB3.out HB3.out.size hB); have RD4 := Aside0.mk (RD3.out.below hB); have hg4 := (hB.block _ (blk_lt HG3.out)).trans HG3.out; have HG4 := Aside0.mk hg4; have hk0 := (blk_cell hg4 0).trans rfl; have hk1 := (blk_cell hg4 1).trans rfl; have hk2 := (blk_cell hg4 2).trans rfl; have hk3 := (blk_cell hg4 3).trans rfl; have hk4 := (blk_cell hg4 4).trans rfl; have hk5 := (blk_cell hg4 5).trans rfl; have hkf := blk_frozen hg4; clear hR hB hg4)
  | (go_at_call 110; refine (Fs110_calls RD4.out).mono ?_; rintro e w1 ⟨rfl, hw⟩; rw [hw]; clear hw)
  | (go_at_call 111; refine (Fs111_calls RD4.out).mono ?_; rintro e w1 ⟨rfl, hw⟩; rw [hw]; clear hw))
 have HB5 := below_step HB0.out HB4.out
 have hb5 := set6_blk HG4.out (.int .i64 (d.ty : Int)) (.slice A2 (d.data.getD []).length c2) (.int .u64 (fsz d)) (.slice A4 d.blocks.length c4) (.int .u64 0) (.int .u64 0)
 refine bodyPost_ret (results_cell_row rfl _ _ w.heap.size 56 #[.int .i64 (d.ty : Int), .slice A2 (d.data.getD []).length c2, .int .u64 (fsz d), .slice A4 d.blocks.length c4, .int .u64 0, .int .u64 0] (0, 0) _ rfl hb5 Tryd.underlying56 rfl (by kernel_rfl)) rfl ?_
 exact ⟨_, _, rfl, R_lowI (set6_row HR4.out (by rw [size_alloc]; omega) _ _ _ _ _ _) (by rw [size_alloc]; omega), R_lowI (set6_row HR4b.out (by have := HB3.out.size; rw [size_alloc] at this; omega) _ _ _ _ _ _) (by have := HB3.out.size; rw [size_alloc] at this; omega), set6_below HB5 (Nat.le_refl _) _ _ _ _ _ _⟩
/-- A message whose size is told anew. -/
theorem Told_walk (w : World) (a0 : Int) (A1 : Option Addr) (c1 : Nat) (l1 : List Int) (a2 : Int) (A3 : Option Addr) (c3 : Nat) (l3 : List Int) (a4 a5 r1 : Int) (r2 : Bool) (hS : ∀ W : World, Below w.heap.size w W → Calls Tryd.prog 73 #[.agg #[.int .i64 a0, .slice A1 l1.length c1, .int .u64 a2, .slice A3 l3.length c3, .int .u64 a4, .int .u64 a5]] W fun e w' => e = .returned (.tuple #[.int .u64 r1, .bool r2]) ∧ Below W.heap.size W w') :
  Calls Tryd.prog 34 #[.agg #[.int .i64 a0, .slice A1 l1.length c1, .int .u64 a2, .slice A3 l3.length c3, .int .u64 a4, .int .u64 a5]] w fun e w' => e = .returned (.agg #[.int .i64 a0, .slice A1 l1.length c1, .int .u64 r1, .slice A3 l3.length c3, .int .u64 a4, .int .u64 a5]) ∧ Below w.heap.size w w' := by
 have HS := Aside0.mk hS
 clear hS
 go_enter Tryd.func34, Tryd.ntmps34
 go_wp2_with (go_at_call 73; refine (HS.out _ (below_alloc (below_alloc (Below.refl _ w) _) _)).mono ?_; rintro e w1 ⟨rfl, hB⟩; have HB1 := Aside0.mk (below_step (below_alloc (below_alloc (Below.refl _ w) _) _) hB); have h0 := (hB.block _ (blk_lt (heap2_0 w _ _))).trans (heap2_0 w _ _); have h1 := (hB.block _ (blk_lt (heap2_1 w _ _))).trans (heap2_1 w _ _); have H0 := Aside0.mk h0; have H1 := Aside0.mk h1; have hk0 := (blk_cell h0 0).trans rfl; have hk1 := (blk_cell h0 1).trans rfl; have hk2 := (blk_cell h0 2).trans rfl; have hk3 := (blk_cell h0 3).trans rfl; have hk4 := (blk_cell h0 4).trans rfl; have hk5 := (blk_cell h0 5).trans rfl; have hkf := blk_frozen h0; have hj0 := (blk_cell h1 0).trans rfl; have hj1 := (blk_cell h1 1).trans rfl; have hj2 := (blk_cell h1 2).trans rfl; have hj3 := (blk_cell h1 3).trans rfl; have hj4 := (blk_cell h1 4).trans rfl; have hj5 := (blk_cell h1 5).trans rfl; have hjf := blk_frozen h1; clear hB h0 h1)
 have hb5 := set6_blk (blk_far H1.out (p := ⟨w.heap.size, 2, none⟩) (by simp) (.int .u64 r1)) (.int .i64 a0) (.slice A1 l1.length c1) (.int .u64 r1) (.slice A3 l3.length c3) (.int .u64 a4) (.int .u64 a5)
 refine bodyPost_ret (results_cell_row rfl _ _ (w.heap.size + 1) 56 #[.int .i64 a0, .slice A1 l1.length c1, .int .u64 r1, .slice A3 l3.length c3, .int .u64 a4, .int .u64 a5] (0, 0) _ rfl hb5 Tryd.underlying56 rfl (by kernel_rfl)) rfl ?_
 exact ⟨rfl, set6_below (below_set HB1.out (Nat.le_refl _)) (Nat.le_succ _) _ _ _ _ _ _⟩
end Go.Proofs.YtnhnlodmkbiiiaaDoor.HandFields
