/- How many bytes a message has: the function Size, walked in each of the ways in which data and size are there. -/
import Derived.Test.YtnhnlodmkbiiiaaDoorRF0
namespace Go.Proofs.YtnhnlodmkbiiiaaDoor.HandFields
open Go Go.RowKit Go.Proofs.YtnhnlodmkbiiiaaDoorL Go.Proofs.YtnhnlodmkbiiiaaDoorW.PrintWords Go.Proofs.YtnhnlodmkbiiiaaDoorW.PrintLast Go.Proofs.YtnhnlodmkbiiiaaDoorW.PrintMore Go.Proofs.YtnhnlodmkbiiiaaDoor.PFieldsBase
attribute [local go_sem] max2_int min2_int max_two min_two max_three min_three max_four min_four
set_option linter.unusedVariables false
set_option linter.unusedSimpArgs false
set_option maxHeartbeats 8000000 in
set_option maxRecDepth 100000 in
theorem Size_11 (w : World) (g p1 : Nat) (d : Dat) (vD v3 vB : Value) (t : TypeId) (h : RdDat w g d p1 vD v3 vB t) (hf : Fit d) (xs : List Int) (hd : d.data = some xs) (m : Nat) (hs : d.size = some m) :
  Calls Tryd.prog 120 #[.pointer (some ⟨g, 0, none⟩)] w fun e w' => e = .returned (.int .i64 ((marsh d).length : Int)) ∧ w' = w := by
 obtain ⟨AB, cB, rfl, hlB, hCB⟩ := h.blks
 obtain ⟨AD, cD, rfl, hlD, hCD⟩ := h.data1 xs hd
 obtain ⟨bS, rfl, hcS⟩ := h.size1 m hs
 have FT := Aside0.mk hf
 have hc0 := (blk_cell h.blk 0).trans rfl
 have hc1 := (blk_cell h.blk 1).trans rfl
 have hc2 := (blk_cell h.blk 2).trans rfl
 have hc3 := (blk_cell h.blk 3).trans rfl
 have hc4 := (blk_cell h.blk 4).trans rfl
 have hc5 := (blk_cell h.blk 5).trans rfl
 have hc6 := (blk_cell h.blk 6).trans rfl
 have hcT := h.ty
 have L1b := uv_len d.ty (by have := hf.ty; omega)
 obtain ⟨L1, hL1⟩ : ∃ L, L = (uv d.ty).length := ⟨_, rfl⟩
 rw [← hL1] at L1b
 have HL1 := Aside0.mk hL1
 have hq1 : IntKind.u64.wrap (d.ty : Int) = (d.ty : Int) := by have := hf.ty; unfold IntKind.wrap; simp [IntKind.bits, IntKind.signed]; omega
 obtain ⟨x1, hx1⟩ : ∃ x : Int, wrap64 (1 + (L1 : Int)) = x := ⟨_, rfl⟩
 have hx1w : IntKind.i64.wrap (1 + (L1 : Int)) = x1 := (i64_w _).trans hx1
 have X1 := Aside0.mk (show x1 = ((1 + L1 : Nat) : Int) by rw [← hx1]; unfold wrap64; omega)
 have X1a := X1.out
 obtain ⟨y1, hy1⟩ : ∃ x : Int, wrap64 (x1) = x := ⟨_, rfl⟩
 have hy1w : IntKind.i64.wrap (x1) = y1 := (i64_w _).trans hy1
 have Y1 := Aside0.mk (show y1 = ((1 + L1 : Nat) : Int) by rw [← hy1]; unfold wrap64; omega)
 have hy1m : wrap64 (0 + x1) = y1 := by rw [← hy1]; congr 1; omega
 have hy1n : IntKind.i64.wrap (0 + x1) = y1 := (i64_w _).trans hy1m
 have Y1a := Y1.out
 have hxl := hf.data xs hd
 have L2b := uv_len xs.length (by omega)
 obtain ⟨L2, hL2⟩ : ∃ L, L = (uv xs.length).length := ⟨_, rfl⟩
 rw [← hL2] at L2b
 have HL2 := Aside0.mk hL2
 have HXL := Aside0.mk hxl
 obtain ⟨x2, hx2⟩ : ∃ x : Int, wrap64 (1 + (xs.length : Int)) = x := ⟨_, rfl⟩
 have hx2w : IntKind.i64.wrap (1 + (xs.length : Int)) = x2 := (i64_w _).trans hx2
 have X2 := Aside0.mk (show x2 = ((1 + xs.length : Nat) : Int) by rw [← hx2]; unfold wrap64; omega)
 have X2a := X2.out
 obtain ⟨x3, hx3⟩ : ∃ x : Int, wrap64 (x2 + (L2 : Int)) = x := ⟨_, rfl⟩
 have hx3w : IntKind.i64.wrap (x2 + (L2 : Int)) = x3 := (i64_w _).trans hx3
 have X3 := Aside0.mk (show x3 = ((1 + xs.length + L2 : Nat) : Int) by rw [← hx3]; unfold wrap64; omega)
 have X3a := X3.out
 obtain ⟨y2, hy2⟩ : ∃ x : Int, wrap64 (y1 + x3) = x := ⟨_, rfl⟩
 have hy2w : IntKind.i64.wrap (y1 + x3) = y2 := (i64_w _).trans hy2
 have Y2 := Aside0.mk (show y2 = ((1 + L1 + (1 + xs.length + L2) : Nat) : Int) by rw [← hy2]; unfold wrap64; omega)
 have Y2a := Y2.out
 have hq2 : IntKind.u64.wrap (xs.length : Int) = (xs.length : Int) := by unfold IntKind.wrap; simp [IntKind.bits, IntKind.signed]; omega
 have L3b := uv_len m (hf.size m hs)
 obtain ⟨L3, hL3⟩ : ∃ L, L = (uv m).length := ⟨_, rfl⟩
 rw [← hL3] at L3b
 have HL3 := Aside0.mk hL3
 have HM := Aside0.mk (hf.size m hs)
 obtain ⟨x4, hx4⟩ : ∃ x : Int, wrap64 (1 + (L3 : Int)) = x := ⟨_, rfl⟩
 have hx4w : IntKind.i64.wrap (1 + (L3 : Int)) = x4 := (i64_w _).trans hx4
 have X4 := Aside0.mk (show x4 = ((1 + L3 : Nat) : Int) by rw [← hx4]; unfold wrap64; omega)
 have X4a := X4.out
 obtain ⟨y3, hy3⟩ : ∃ x : Int, wrap64 (y2 + x4) = x := ⟨_, rfl⟩
 have hy3w : IntKind.i64.wrap (y2 + x4) = y3 := (i64_w _).trans hy3
 have Y3 := Aside0.mk (show y3 = ((1 + L1 + (1 + xs.length + L2) + (1 + L3) : Nat) : Int) by rw [← hy3]; unfold wrap64; omega)
 have Y3a := Y3.out
 obtain ⟨T, hT⟩ : ∃ T : Nat, T = 1 + L1 + (1 + xs.length + L2) + (1 + L3) := ⟨_, rfl⟩
 have HT := Aside0.mk (show T + (blkF d.blocks).length = (marsh d).length by rw [hT]; unfold marsh; rw [hd, hs]; simp only [List.length_append, List.length_cons, List.length_nil, dataF, sizeF]; omega)
 have HTb := Aside0.mk (show T ≤ 2000000 by rw [hT]; omega)
 have YT := Aside0.mk (show y3 = (T : Int) by rw [hT, Y3.out])
 have HCB := Aside0.mk hCB
 have HN := Aside0.mk hf.many
 clear hT hf hCB hlB hL1 L1b X1a Y1a X1 Y1 h L2b hL2 X2a X3a Y2a X2 X3 Y2 hxl hlD hCD L3b hL3 X4a Y3a X4 Y3 hd hs
 go_enter Tryd.func120, Tryd.ntmps120
 by_cases h0 : d.blocks.length = 0
 ·have q0 : decide ((0 : Int) < (d.blocks.length : Int)) = false := decide_eq_false (by omega)
  have q0n : decide (0 < d.blocks.length) = false := decide_eq_false (by omega)
  have e0 : blkF d.blocks = [] := by rw [List.eq_nil_of_length_eq_zero h0]; rfl
  have HT2 := HT.out
  rw [e0] at HT2
  have HT3 := Aside0.mk HT2
  clear HT2 e0 h0
  go_wp2_with (first | (go_at_call 129; refine (sov_calls d.ty (by have := FT.out.ty; omega) w).mono ?_; rintro e w1 ⟨rfl, hw⟩; rw [hw]; clear hw; rw [← HL1.out]) | (go_at_call 129; refine (sov_calls xs.length (by have := HXL.out; omega) w).mono ?_; rintro e w1 ⟨rfl, hw⟩; rw [hw]; clear hw; rw [← HL2.out]) | (go_at_call 129; refine (sov_calls m HM.out w).mono ?_; rintro e w1 ⟨rfl, hw⟩; rw [hw]; clear hw; rw [← HL3.out]))
  go_ret
  have e := HT3.out
  simp only [List.length_nil, Nat.add_zero] at e
  exact ⟨by rw [← e, ← YT.out]; first | rfl | (simp; done), rfl⟩
 ·have q0 : decide ((0 : Int) < (d.blocks.length : Int)) = true := decide_eq_true (by omega)
  have q0n : decide (0 < d.blocks.length) = true := decide_eq_true (by omega)
  have HP := Aside0.mk (show 0 < d.blocks.length by omega)
  clear h0
  go_wp2_with (first | (go_at_call 129; refine (sov_calls d.ty (by have := FT.out.ty; omega) w).mono ?_; rintro e w1 ⟨rfl, hw⟩; rw [hw]; clear hw; rw [← HL1.out]) | (go_at_call 129; refine (sov_calls xs.length (by have := HXL.out; omega) w).mono ?_; rintro e w1 ⟨rfl, hw⟩; rw [hw]; clear hw; rw [← HL2.out]) | (go_at_call 129; refine (sov_calls m HM.out w).mono ?_; rintro e w1 ⟨rfl, hw⟩; rw [hw]; clear hw; rw [← HL3.out]))
  go_loopg [2, 68] d.blocks.length (fun kq v2 v68 w' => ∃ (y i : Int), v2 = .int .i64 y ∧ v68 = .int .i64 i ∧ Aside0 (∃ j : Nat, i = (j : Int) ∧ j + kq = d.blocks.length ∧ y = ((T + (blkF (d.blocks.take j)).length : Nat) : Int)) ∧ Aside0 (w' = w))
  case atStart => exact ⟨_, _, rfl, rfl, ⟨0, rfl, by omega, by rw [YT.out]; simp [blkF]⟩, ⟨rfl⟩⟩
  case round =>
   obtain ⟨y, i, rfl, rfl, HJ, HW⟩ := hrel
   have ew := HW.out
   subst ew
   by_cases hi : i < (d.blocks.length : Int)
   ·have q1 : decide (i < (d.blocks.length : Int)) = true := decide_eq_true hi
    have hi0 : 0 ≤ i := by obtain ⟨j, e, _⟩ := HJ.out; omega
    obtain ⟨ad, eA, hx⟩ := Kd.at_int HCB.out i hi0 hi
    subst eA
    have p1_ := eq_true hi0
    have p2_ := eq_true hi
    have hr := rd_fit FT.out i
    obtain ⟨v, hv⟩ : ∃ v : Nat, rd d.blocks i = (v : Int) := ⟨(rd d.blocks i).toNat, by omega⟩
    rw [hv] at hx
    have HV := Aside0.mk (show v < 2 ^ 64 by omega)
    have HVr := Aside0.mk hv
    have Lb := uv_len v (by omega)
    obtain ⟨L, hL⟩ : ∃ L, L = (uv v).length := ⟨_, rfl⟩
    rw [← hL] at Lb
    have HLv := Aside0.mk hL
    obtain ⟨x5, hx5⟩ : ∃ x : Int, wrap64 (1 + (L : Int)) = x := ⟨_, rfl⟩
    have hx5w : IntKind.i64.wrap (1 + (L : Int)) = x5 := (i64_w _).trans hx5
    have X5 := Aside0.mk (show x5 = ((1 + L : Nat) : Int) by rw [← hx5]; unfold wrap64; omega)
    obtain ⟨y5, hy5⟩ : ∃ x : Int, wrap64 (y + x5) = x := ⟨_, rfl⟩
    have hy5w : IntKind.i64.wrap (y + x5) = y5 := (i64_w _).trans hy5
    obtain ⟨i5, hi5⟩ : ∃ x : Int, wrap64 (i + 1) = x := ⟨_, rfl⟩
    have hi5w : IntKind.i64.wrap (i + 1) = i5 := (i64_w _).trans hi5
    have HJ5 : Aside0 (i5 = i + 1 ∧ y5 = y + x5) := ⟨by obtain ⟨j, e1, e2, e3⟩ := HJ.out; have h1 := blkF_len (d.blocks.take j) (fun x hx => FT.out.blks x (List.mem_of_mem_take hx)); have h2 := HTb.out; have h3 := FT.out.many; have h4 := X5.out; rw [List.length_take] at h1; have h5 : (blkF (d.blocks.take j)).length ≤ 11000000 := by { have := Nat.min_le_right j d.blocks.length; omega }; refine ⟨?_, ?_⟩; (rw [← hi5]; unfold wrap64; omega); (rw [← hy5]; unfold wrap64; omega)⟩
    clear hi hi0 hr hv hL Lb HW
    go_wp2_with (go_at_call 129; refine (sov_calls v HV.out _).mono ?_; rintro e w1 ⟨rfl, hw⟩; rw [hw]; clear hw; rw [← HLv.out])
    go_roundg (gk - 1)
    case measure => obtain ⟨j, e1, e2, e3⟩ := HJ.out; have := of_eq_true p2_; omega
    case rel =>
     obtain ⟨j, e1, e2, e3⟩ := HJ.out
     have hjl : j < d.blocks.length := by have := of_eq_true p2_; omega
     refine ⟨y5, i5, rfl, rfl, ⟨j + 1, by rw [HJ5.out.1, e1]; omega, by omega, ?_⟩, ⟨rfl⟩⟩
     have hb := blkF_snoc d.blocks j hjl
     rw [← e1, HVr.out, Int.toNat_natCast] at hb
     rw [hb, HJ5.out.2, e3, X5.out, HLv.out]
     simp only [List.length_append, List.length_cons]
     omega
   ·have q1 : decide (i < (d.blocks.length : Int)) = false := decide_eq_false hi
    have HE : Aside0 (y = ((marsh d).length : Int)) := ⟨by obtain ⟨j, e1, e2, e3⟩ := HJ.out; have : j = d.blocks.length := by { omega }; rw [e3, ← HT.out, this, List.take_length]⟩
    clear hi HJ HW
    go_wp2
    go_ret
    exact ⟨by rw [← HE.out]; first | rfl | (simp; done), rfl⟩
set_option maxHeartbeats 8000000 in
set_option maxRecDepth 100000 in
theorem Size_01 (w : World) (g p1 : Nat) (d : Dat) (vD v3 vB : Value) (t : TypeId) (h : RdDat w g d p1 vD v3 vB t) (hf : Fit d) (hd : d.data = none) (m : Nat) (hs : d.size = some m) :
  Calls Tryd.prog 120 #[.pointer (some ⟨g, 0, none⟩)] w fun e w' => e = .returned (.int .i64 ((marsh d).length : Int)) ∧ w' = w := by
 obtain ⟨AB, cB, rfl, hlB, hCB⟩ := h.blks
 obtain rfl := h.data0 hd
 obtain ⟨bS, rfl, hcS⟩ := h.size1 m hs
 have FT := Aside0.mk hf
 have hc0 := (blk_cell h.blk 0).trans rfl
 have hc1 := (blk_cell h.blk 1).trans rfl
 have hc2 := (blk_cell h.blk 2).trans rfl
 have hc3 := (blk_cell h.blk 3).trans rfl
 have hc4 := (blk_cell h.blk 4).trans rfl
 have hc5 := (blk_cell h.blk 5).trans rfl
 have hc6 := (blk_cell h.blk 6).trans rfl
 have hcT := h.ty
 have L1b := uv_len d.ty (by have := hf.ty; omega)
 obtain ⟨L1, hL1⟩ : ∃ L, L = (uv d.ty).length := ⟨_, rfl⟩
 rw [← hL1] at L1b
 have HL1 := Aside0.mk hL1
 have hq1 : IntKind.u64.wrap (d.ty : Int) = (d.ty : Int) := by have := hf.ty; unfold IntKind.wrap; simp [IntKind.bits, IntKind.signed]; omega
 obtain ⟨x1, hx1⟩ : ∃ x : Int, wrap64 (1 + (L1 : Int)) = x := ⟨_, rfl⟩
 have hx1w : IntKind.i64.wrap (1 + (L1 : Int)) = x1 := (i64_w _).trans hx1
 have X1 := Aside0.mk (show x1 = ((1 + L1 : Nat) : Int) by rw [← hx1]; unfold wrap64; omega)
 have X1a := X1.out
 obtain ⟨y1, hy1⟩ : ∃ x : Int, wrap64 (x1) = x := ⟨_, rfl⟩
 have hy1w : IntKind.i64.wrap (x1) = y1 := (i64_w _).trans hy1
 have Y1 := Aside0.mk (show y1 = ((1 + L1 : Nat) : Int) by rw [← hy1]; unfold wrap64; omega)
 have hy1m : wrap64 (0 + x1) = y1 := by rw [← hy1]; congr 1; omega
 have hy1n : IntKind.i64.wrap (0 + x1) = y1 := (i64_w _).trans hy1m
 have Y1a := Y1.out
 have L3b := uv_len m (hf.size m hs)
 obtain ⟨L3, hL3⟩ : ∃ L, L = (uv m).length := ⟨_, rfl⟩
 rw [← hL3] at L3b
 have HL3 := Aside0.mk hL3
 have HM := Aside0.mk (hf.size m hs)
 obtain ⟨x4, hx4⟩ : ∃ x : Int, wrap64 (1 + (L3 : Int)) = x := ⟨_, rfl⟩
 have hx4w : IntKind.i64.wrap (1 + (L3 : Int)) = x4 := (i64_w _).trans hx4
 have X4 := Aside0.mk (show x4 = ((1 + L3 : Nat) : Int) by rw [← hx4]; unfold wrap64; omega)
 have X4a := X4.out
 obtain ⟨y3, hy3⟩ : ∃ x : Int, wrap64 (y1 + x4) = x := ⟨_, rfl⟩
 have hy3w : IntKind.i64.wrap (y1 + x4) = y3 := (i64_w _).trans hy3
 have Y3 := Aside0.mk (show y3 = ((1 + L1 + (1 + L3) : Nat) : Int) by rw [← hy3]; unfold wrap64; omega)
 have Y3a := Y3.out
 obtain ⟨T, hT⟩ : ∃ T : Nat, T = 1 + L1 + (1 + L3) := ⟨_, rfl⟩
 have HT := Aside0.mk (show T + (blkF d.blocks).length = (marsh d).length by rw [hT]; unfold marsh; rw [hd, hs]; simp only [List.length_append, List.length_cons, List.length_nil, dataF, sizeF]; omega)
 have HTb := Aside0.mk (show T ≤ 2000000 by rw [hT]; omega)
 have YT := Aside0.mk (show y3 = (T : Int) by rw [hT, Y3.out])
 have HCB := Aside0.mk hCB
 have HN := Aside0.mk hf.many
 clear hT hf hCB hlB hL1 L1b X1a Y1a X1 Y1 h L3b hL3 X4a Y3a X4 Y3 hd hs
 go_enter Tryd.func120, Tryd.ntmps120
 by_cases h0 : d.blocks.length = 0
 ·have q0 : decide ((0 : Int) < (d.blocks.length : Int)) = false := decide_eq_false (by omega)
  have q0n : decide (0 < d.blocks.length) = false := decide_eq_false (by omega)
  have e0 : blkF d.blocks = [] := by rw [List.eq_nil_of_length_eq_zero h0]; rfl
  have HT2 := HT.out
  rw [e0] at HT2
  have HT3 := Aside0.mk HT2
  clear HT2 e0 h0
  go_wp2_with (first | (go_at_call 129; refine (sov_calls d.ty (by have := FT.out.ty; omega) w).mono ?_; rintro e w1 ⟨rfl, hw⟩; rw [hw]; clear hw; rw [← HL1.out]) | (go_at_call 129; refine (sov_calls m HM.out w).mono ?_; rintro e w1 ⟨rfl, hw⟩; rw [hw]; clear hw; rw [← HL3.out]))
  go_ret
  have e := HT3.out
  simp only [List.length_nil, Nat.add_zero] at e
  exact ⟨by rw [← e, ← YT.out]; first | rfl | (simp; done), rfl⟩
 ·have q0 : decide ((0 : Int) < (d.blocks.length : Int)) = true := decide_eq_true (by omega)
  have q0n : decide (0 < d.blocks.length) = true := decide_eq_true (by omega)
  have HP := Aside0.mk (show 0 < d.blocks.length by omega)
  clear h0
  go_wp2_with (first | (go_at_call 129; refine (sov_calls d.ty (by have := FT.out.ty; omega) w).mono ?_; rintro e w1 ⟨rfl, hw⟩; rw [hw]; clear hw; rw [← HL1.out]) | (go_at_call 129; refine (sov_calls m HM.out w).mono ?_; rintro e w1 ⟨rfl, hw⟩; rw [hw]; clear hw; rw [← HL3.out]))
  go_loopg [2, 68] d.blocks.length (fun kq v2 v68 w' => ∃ (y i : Int), v2 = .int .i64 y ∧ v68 = .int .i64 i ∧ Aside0 (∃ j : Nat, i = (j : Int) ∧ j + kq = d.blocks.length ∧ y = ((T + (blkF (d.blocks.take j)).length : Nat) : Int)) ∧ Aside0 (w' = w))
  case atStart => exact ⟨_, _, rfl, rfl, ⟨0, rfl, by omega, by rw [YT.out]; simp [blkF]⟩, ⟨rfl⟩⟩
  case round =>
   obtain ⟨y, i, rfl, rfl, HJ, HW⟩ := hrel
   have ew := HW.out
   subst ew
   by_cases hi : i < (d.blocks.length : Int)
   ·have q1 : decide (i < (d.blocks.length : Int)) = true := decide_eq_true hi
    have hi0 : 0 ≤ i := by obtain ⟨j, e, _⟩ := HJ.out; omega
    obtain ⟨ad, eA, hx⟩ := Kd.at_int HCB.out i hi0 hi
    subst eA
    have p1_ := eq_true hi0
    have p2_ := eq_true hi
    have hr := rd_fit FT.out i
    obtain ⟨v, hv⟩ : ∃ v : Nat, rd d.blocks i = (v : Int) := ⟨(rd d.blocks i).toNat, by omega⟩
    rw [hv] at hx
    have HV := Aside0.mk (show v < 2 ^ 64 by omega)
    have HVr := Aside0.mk hv
    have Lb := uv_len v (by omega)
    obtain ⟨L, hL⟩ : ∃ L, L = (uv v).length := ⟨_, rfl⟩
    rw [← hL] at Lb
    have HLv := Aside0.mk hL
    obtain ⟨x5, hx5⟩ : ∃ x : Int, wrap64 (1 + (L : Int)) = x := ⟨_, rfl⟩
    have hx5w : IntKind.i64.wrap (1 + (L : Int)) = x5 := (i64_w _).trans hx5
    have X5 := Aside0.mk (show x5 = ((1 + L : Nat) : Int) by rw [← hx5]; unfold wrap64; omega)
    obtain ⟨y5, hy5⟩ : ∃ x : Int, wrap64 (y + x5) = x := ⟨_, rfl⟩
    have hy5w : IntKind.i64.wrap (y + x5) = y5 := (i64_w _).trans hy5
    obtain ⟨i5, hi5⟩ : ∃ x : Int, wrap64 (i + 1) = x := ⟨_, rfl⟩
    have hi5w : IntKind.i64.wrap (i + 1) = i5 := (i64_w _).trans hi5
    have HJ5 : Aside0 (i5 = i + 1 ∧ y5 = y + x5) := ⟨by obtain ⟨j, e1, e2, e3⟩ := HJ.out; have h1 := blkF_len (d.blocks.take j) (fun x hx => FT.out.blks x (List.mem_of_mem_take hx)); have h2 := HTb.out; have h3 := FT.out.many; have h4 := X5.out; rw [List.length_take] at h1; have h5 : (blkF (d.blocks.take j)).length ≤ 11000000 := by { have := Nat.min_le_right j d.blocks.length; omega }; refine ⟨?_, ?_⟩; (rw [← hi5]; unfold wrap64; omega); (rw [← hy5]; unfold wrap64; omega)⟩
    clear hi hi0 hr hv hL Lb HW
    go_wp2_with (go_at_call 129; refine (sov_calls v HV.out _).mono ?_; rintro e w1 ⟨rfl, hw⟩; rw [hw]; clear hw; rw [← HLv.out])
    go_roundg (gk - 1)
    case measure => obtain ⟨j, e1, e2, e3⟩ := HJ.out; have := of_eq_true p2_; omega
    case rel =>
     obtain ⟨j, e1, e2, e3⟩ := HJ.out
     have hjl : j < d.blocks.length := by have := of_eq_true p2_; omega
     refine ⟨y5, i5, rfl, rfl, ⟨j + 1, by rw [HJ5.out.1, e1]; omega, by omega, ?_⟩, ⟨rfl⟩⟩
     have hb := blkF_snoc d.blocks j hjl
     rw [← e1, HVr.out, Int.toNat_natCast] at hb
     rw [hb, HJ5.out.2, e3, X5.out, HLv.out]
     simp only [List.length_append, List.length_cons]
     omega
   ·have q1 : decide (i < (d.blocks.length : Int)) = false := decide_eq_false hi
    have HE : Aside0 (y = ((marsh d).length : Int)) := ⟨by obtain ⟨j, e1, e2, e3⟩ := HJ.out; have : j = d.blocks.length := by { omega }; rw [e3, ← HT.out, this, List.take_length]⟩
    clear hi HJ HW
    go_wp2
    go_ret
    exact ⟨by rw [← HE.out]; first | rfl | (simp; done), rfl⟩
set_option maxHeartbeats 8000000 in
set_option maxRecDepth 100000 in
theorem Size_00 (w : World) (g p1 : Nat) (d : Dat) (vD v3 vB : Value) (t : TypeId) (h : RdDat w g d p1 vD v3 vB t) (hf : Fit d) (hd : d.data = none) (hs : d.size = none) :
  Calls Tryd.prog 120 #[.pointer (some ⟨g, 0, none⟩)] w fun e w' => e = .returned (.int .i64 ((marsh d).length : Int)) ∧ w' = w := by
 obtain ⟨AB, cB, rfl, hlB, hCB⟩ := h.blks
 obtain rfl := h.data0 hd
 obtain rfl := h.size0 hs
 have FT := Aside0.mk hf
 have hc0 := (blk_cell h.blk 0).trans rfl
 have hc1 := (blk_cell h.blk 1).trans rfl
 have hc2 := (blk_cell h.blk 2).trans rfl
 have hc3 := (blk_cell h.blk 3).trans rfl
 have hc4 := (blk_cell h.blk 4).trans rfl
 have hc5 := (blk_cell h.blk 5).trans rfl
 have hc6 := (blk_cell h.blk 6).trans rfl
 have hcT := h.ty
 have L1b := uv_len d.ty (by have := hf.ty; omega)
 obtain ⟨L1, hL1⟩ : ∃ L, L = (uv d.ty).length := ⟨_, rfl⟩
 rw [← hL1] at L1b
 have HL1 := Aside0.mk hL1
 have hq1 : IntKind.u64.wrap (d.ty : Int) = (d.ty : Int) := by have := hf.ty; unfold IntKind.wrap; simp [IntKind.bits, IntKind.signed]; omega
 obtain ⟨x1, hx1⟩ : ∃ x : Int, wrap64 (1 + (L1 : Int)) = x := ⟨_, rfl⟩
 have hx1w : IntKind.i64.wrap (1 + (L1 : Int)) = x1 := (i64_w _).trans hx1
 have X1 := Aside0.mk (show x1 = ((1 + L1 : Nat) : Int) by rw [← hx1]; unfold wrap64; omega)
 have X1a := X1.out
 obtain ⟨y1, hy1⟩ : ∃ x : Int, wrap64 (x1) = x := ⟨_, rfl⟩
 have hy1w : IntKind.i64.wrap (x1) = y1 := (i64_w _).trans hy1
 have Y1 := Aside0.mk (show y1 = ((1 + L1 : Nat) : Int) by rw [← hy1]; unfold wrap64; omega)
 have hy1m : wrap64 (0 + x1) = y1 := by rw [← hy1]; congr 1; omega
 have hy1n : IntKind.i64.wrap (0 + x1) = y1 := (i64_w _).trans hy1m
 have Y1a := Y1.out
 obtain ⟨T, hT⟩ : ∃ T : Nat, T = 1 + L1 := ⟨_, rfl⟩
 have HT := Aside0.mk (show T + (blkF d.blocks).length = (marsh d).length by rw [hT]; unfold marsh; rw [hd, hs]; simp only [List.length_append, List.length_cons, List.length_nil, dataF, sizeF]; omega)
 have HTb := Aside0.mk (show T ≤ 2000000 by rw [hT]; omega)
 have YT := Aside0.mk (show y1 = (T : Int) by rw [hT, Y1.out])
 have HCB := Aside0.mk hCB
 have HN := Aside0.mk hf.many
 clear hT hf hCB hlB hL1 L1b X1a Y1a X1 Y1 h hd hs
 go_enter Tryd.func120, Tryd.ntmps120
 by_cases h0 : d.blocks.length = 0
 ·have q0 : decide ((0 : Int) < (d.blocks.length : Int)) = false := decide_eq_false (by omega)
  have q0n : decide (0 < d.blocks.length) = false := decide_eq_false (by omega)
  have e0 : blkF d.blocks = [] := by rw [List.eq_nil_of_length_eq_zero h0]; rfl
  have HT2 := HT.out
  rw [e0] at HT2
  have HT3 := Aside0.mk HT2
  clear HT2 e0 h0
  go_wp2_with (first | (go_at_call 129; refine (sov_calls d.ty (by have := FT.out.ty; omega) w).mono ?_; rintro e w1 ⟨rfl, hw⟩; rw [hw]; clear hw; rw [← HL1.out]))
  go_ret
  have e := HT3.out
  simp only [List.length_nil, Nat.add_zero] at e
  exact ⟨by rw [← e, ← YT.out]; first | rfl | (simp; done), rfl⟩
 ·have q0 : decide ((0 : Int) < (d.blocks.length : Int)) = true := decide_eq_true (by omega)
  have q0n : decide (0 < d.blocks.length) = true := decide_eq_true (by omega)
  have HP := Aside0.mk (show 0 < d.blocks.length by omega)
  clear h0
  go_wp2_with (first | (go_at_call 129; refine (sov_calls d.ty (by have := FT.out.ty; omega) w).mono ?_; rintro e w1 ⟨rfl, hw⟩; rw [hw]; clear hw; rw [← HL1.out]))
  go_loopg [2, 68] d.blocks.length (fun kq v2 v68 w' => ∃ (y i : Int), v2 = .int .i64 y ∧ v68 = .int .i64 i ∧ Aside0 (∃ j : Nat, i = (j : Int) ∧ j + kq = d.blocks.length ∧ y = ((T + (blkF (d.blocks.take j)).length : Nat) : Int)) ∧ Aside0 (w' = w))
  case atStart => exact ⟨_, _, rfl, rfl, ⟨0, rfl, by omega, by rw [YT.out]; simp [blkF]⟩, ⟨rfl⟩⟩
  case round =>
   obtain ⟨y, i, rfl, rfl, HJ, HW⟩ := hrel
   have ew := HW.out
   subst ew
   by_cases hi : i < (d.blocks.length : Int)
   ·have q1 : decide (i < (d.blocks.length : Int)) = true := decide_eq_true hi
    have hi0 : 0 ≤ i := by obtain ⟨j, e, _⟩ := HJ.out; omega
    obtain ⟨ad, eA, hx⟩ := Kd.at_int HCB.out i hi0 hi
    subst eA
    have p1_ := eq_true hi0
    have p2_ := eq_true hi
    have hr := rd_fit FT.out i
    obtain ⟨v, hv⟩ : ∃ v : Nat, rd d.blocks i = (v : Int) := ⟨(rd d.blocks i).toNat, by omega⟩
    rw [hv] at hx
    have HV := Aside0.mk (show v < 2 ^ 64 by omega)
    have HVr := Aside0.mk hv
    have Lb := uv_len v (by omega)
    obtain ⟨L, hL⟩ : ∃ L, L = (uv v).length := ⟨_, rfl⟩
    rw [← hL] at Lb
    have HLv := Aside0.mk hL
    obtain ⟨x5, hx5⟩ : ∃ x : Int, wrap64 (1 + (L : Int)) = x := ⟨_, rfl⟩
    have hx5w : IntKind.i64.wrap (1 + (L : Int)) = x5 := (i64_w _).trans hx5
    have X5 := Aside0.mk (show x5 = ((1 + L : Nat) : Int) by rw [← hx5]; unfold wrap64; omega)
    obtain ⟨y5, hy5⟩ : ∃ x : Int, wrap64 (y + x5) = x := ⟨_, rfl⟩
    have hy5w : IntKind.i64.wrap (y + x5) = y5 := (i64_w _).trans hy5
    obtain ⟨i5, hi5⟩ : ∃ x : Int, wrap64 (i + 1) = x := ⟨_, rfl⟩
    have hi5w : IntKind.i64.wrap (i + 1) = i5 := (i64_w _).trans hi5
    have HJ5 : Aside0 (i5 = i + 1 ∧ y5 = y + x5) := ⟨by obtain ⟨j, e1, e2, e3⟩ := HJ.out; have h1 := blkF_len (d.blocks.take j) (fun x hx => FT.out.blks x (List.mem_of_mem_take hx)); have h2 := HTb.out; have h3 := FT.out.many; have h4 := X5.out; rw [List.length_take] at h1; have h5 : (blkF (d.blocks.take j)).length ≤ 11000000 := by { have := Nat.min_le_right j d.blocks.length; omega }; refine ⟨?_, ?_⟩; (rw [← hi5]; unfold wrap64; omega); (rw [← hy5]; unfold wrap64; omega)⟩
    clear hi hi0 hr hv hL Lb HW
    go_wp2_with (go_at_call 129; refine (sov_calls v HV.out _).mono ?_; rintro e w1 ⟨rfl, hw⟩; rw [hw]; clear hw; rw [← HLv.out])
    go_roundg (gk - 1)
    case measure => obtain ⟨j, e1, e2, e3⟩ := HJ.out; have := of_eq_true p2_; omega
    case rel =>
     obtain ⟨j, e1, e2, e3⟩ := HJ.out
     have hjl : j < d.blocks.length := by have := of_eq_true p2_; omega
     refine ⟨y5, i5, rfl, rfl, ⟨j + 1, by rw [HJ5.out.1, e1]; omega, by omega, ?_⟩, ⟨rfl⟩⟩
     have hb := blkF_snoc d.blocks j hjl
     rw [← e1, HVr.out, Int.toNat_natCast] at hb
     rw [hb, HJ5.out.2, e3, X5.out, HLv.out]
     simp only [List.length_append, List.length_cons]
     omega
   ·have q1 : decide (i < (d.blocks.length : Int)) = false := decide_eq_false hi
    have HE : Aside0 (y = ((marsh d).length : Int)) := ⟨by obtain ⟨j, e1, e2, e3⟩ := HJ.out; have : j = d.blocks.length := by { omega }; rw [e3, ← HT.out, this, List.take_length]⟩
    clear hi HJ HW
    go_wp2
    go_ret
    exact ⟨by rw [← HE.out]; first | rfl | (simp; done), rfl⟩
end Go.Proofs.YtnhnlodmkbiiiaaDoor.HandFields
