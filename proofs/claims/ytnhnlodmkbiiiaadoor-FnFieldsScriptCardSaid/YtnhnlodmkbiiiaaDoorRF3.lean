/- Marshal hands back the bytes of the message, in a row of its own; the messages of folders, files and wrapped bytes. -/
import Derived.Test.YtnhnlodmkbiiiaaDoorRF1
import Derived.Test.YtnhnlodmkbiiiaaDoorRF2
namespace Go.Proofs.YtnhnlodmkbiiiaaDoor.HandFields
open Go Go.RowKit Go.Proofs.YtnhnlodmkbiiiaaDoorL Go.Proofs.YtnhnlodmkbiiiaaDoorW.PrintWords Go.Proofs.YtnhnlodmkbiiiaaDoorW.PrintLast Go.Proofs.YtnhnlodmkbiiiaaDoorW.PrintMore Go.Proofs.YtnhnlodmkbiiiaaDoor.PFieldsBase
attribute [local go_sem] max2_int min2_int max_two min_two max_three min_three max_four min_four
set_option linter.unusedVariables false
set_option linter.unusedSimpArgs false
theorem marsh_len {d : Dat} (hf : Fit d) : 2 ≤ (marsh d).length ∧ (marsh d).length ≤ 40000000 := by
 have h1 := uv_len d.ty (by have := hf.ty; omega)
 have h0 := uvF_pos 10 d.ty
 have h2 := blkF_len d.blocks hf.blks
 have h3 := hf.many
 have h4 : (dataF d.data).length ≤ 1000020 := by
  cases hd : d.data with
  | none => simp [dataF]
  | some xs =>
   have := hf.data xs hd
   have h5 := uv_len xs.length (by omega)
   simp only [dataF, List.length_cons, List.length_append]
   omega
 have h5 : (sizeF d.size).length ≤ 11 := by
  cases hs : d.size with
  | none => simp [sizeF]
  | some m =>
   have := uv_len m (hf.size m hs)
   simp only [sizeF, List.length_cons]
   omega
 have h6 : 1 ≤ (uv d.ty).length := h0
 unfold marsh
 simp only [List.length_append, List.length_cons]
 omega
set_option maxHeartbeats 8000000 in
set_option maxRecDepth 100000 in
theorem Mar_000 (w : World) (g p1 : Nat) (d : Dat) (vD v3 vB : Value) (t : TypeId) (h : RdDat w g d p1 vD v3 vB t) (hf : Fit d) (hd : d.data = none) (hs : d.size = none) (h0 : d.blocks.length = 0) :
  Calls Tryd.prog 101 #[.pointer (some ⟨g, 0, none⟩)] w fun e w' => ∃ gb cap, e = .returned (.tuple #[.slice (some ⟨gb, 0, none⟩) (marsh d).length cap, .nilIface]) ∧ Kd.R (Kd.int .u8) 5 w' w.heap.size (fun k => k = gb) (.slice (some ⟨gb, 0, none⟩) (marsh d).length cap) (marsh d) ∧ Below w.heap.size w w' := by
 obtain ⟨n, hn⟩ : ∃ n, n = (marsh d).length := ⟨_, rfl⟩
 have hml := marsh_len hf
 rw [← hn] at hml ⊢
 have HML := Aside0.mk hml
 have HN := Aside0.mk hn
 have RD := Aside0.mk h
 have FT := Aside0.mk hf
 have HD := Aside0.mk hd
 have HSZ := Aside0.mk hs
 have H0 := Aside0.mk h0
 obtain ⟨i05, hi05, hsz5⟩ : ∃ i, Tryd.prog.info? 5 = some i ∧ i.size = 1 := Option.map_eq_some_iff.1 (show (Tryd.prog.info? 5).map (·.size) = some 1 by kernel_rfl)
 have HI5 := Aside0.mk hi05
 have info5 : (Tryd.prog.info? 5).map (fun i => (i.zero, i.size, i.bytes)) = some (some (.int .u8 0), 1, 1) := by kernel_rfl
 have I5 := Aside0.mk info5
 clear hml hn h hf hd hs h0 hi05 hsz5 info5
 go_enter Tryd.func101, Tryd.ntmps101
 go_wp2_with (first | (go_at_call 120; refine (Size_00 w g p1 d vD v3 vB t RD.out FT.out HD.out HSZ.out).mono ?_; rintro e w1 ⟨rfl, hw⟩; rw [hw]; clear hw; rw [← HN.out]) | (refine Kd.R_make (Kd.int .u8) w.heap.size 5 rfl (N := 9) rfl 22 _ _ rfl (n : Int) rfl rfl Tryd.underlying22 (.int .u8 0) 1 I5.out rfl (by decide) (by decide) 0 (ok := fun k => k = w.heap.size) (okp := fun _ => False) rfl (fun _ hk => hk.elim) rfl (by omega) (by have := HML.out; omega) (Below.refl _ _) (Nat.le_refl _) ?_; intro v1 w2 ho hb hgr hnew; clear hnew hgr; rw [Int.toNat_natCast] at ho; generalize hxs : List.replicate n (0 : Int) = zs at ho; have hzl : zs.length = n := (by rw [← hxs]; simp); clear hxs; obtain ⟨gb, cap, rfl, hge, hlt, hnc, hR⟩ := made_buf ho (by have := HML.out; omega); rw [hzl] at hnc hR ⊢; have HNC := Aside0.mk hnc; have HS0 := Aside0.mk (zst hR hzl hb); have hcut := cut_to (P := Tryd.prog) 22 5 .i64 Tryd.underlying22 HI5.out (some ⟨gb, 0, none⟩) n cap (n : Int) (by omega) (Int.le_refl _) hnc; have hlc : (n : Int) ≤ (cap : Int) := (by omega); clear hzl ho hb hge hlt hR hnc) | (go_at_call 121; refine (Mts_000 w _ g p1 d vD v3 vB t RD.out FT.out gb n cap w.heap HS0.out HN.out HNC.out HD.out HSZ.out H0.out).mono ?_; rintro e w3 ⟨rfl, hS⟩; have HS1 := Aside0.mk hS; clear hS))
 go_ret2
 have hB := HS1.out.all
 refine ⟨gb, cap, ?_, ?_, hB.below⟩
 ·first | rfl | (simp; done)
 ·have := hB.row
  rw [← HN.out] at this
  exact this
set_option maxHeartbeats 8000000 in
set_option maxRecDepth 100000 in
theorem Mar_010 (w : World) (g p1 : Nat) (d : Dat) (vD v3 vB : Value) (t : TypeId) (h : RdDat w g d p1 vD v3 vB t) (hf : Fit d) (hd : d.data = none) (m : Nat) (hs : d.size = some m) (h0 : d.blocks.length = 0) :
  Calls Tryd.prog 101 #[.pointer (some ⟨g, 0, none⟩)] w fun e w' => ∃ gb cap, e = .returned (.tuple #[.slice (some ⟨gb, 0, none⟩) (marsh d).length cap, .nilIface]) ∧ Kd.R (Kd.int .u8) 5 w' w.heap.size (fun k => k = gb) (.slice (some ⟨gb, 0, none⟩) (marsh d).length cap) (marsh d) ∧ Below w.heap.size w w' := by
 obtain ⟨n, hn⟩ : ∃ n, n = (marsh d).length := ⟨_, rfl⟩
 have hml := marsh_len hf
 rw [← hn] at hml ⊢
 have HML := Aside0.mk hml
 have HN := Aside0.mk hn
 have RD := Aside0.mk h
 have FT := Aside0.mk hf
 have HD := Aside0.mk hd
 have HSZ := Aside0.mk hs
 have H0 := Aside0.mk h0
 obtain ⟨i05, hi05, hsz5⟩ : ∃ i, Tryd.prog.info? 5 = some i ∧ i.size = 1 := Option.map_eq_some_iff.1 (show (Tryd.prog.info? 5).map (·.size) = some 1 by kernel_rfl)
 have HI5 := Aside0.mk hi05
 have info5 : (Tryd.prog.info? 5).map (fun i => (i.zero, i.size, i.bytes)) = some (some (.int .u8 0), 1, 1) := by kernel_rfl
 have I5 := Aside0.mk info5
 clear hml hn h hf hd hs h0 hi05 hsz5 info5
 go_enter Tryd.func101, Tryd.ntmps101
 go_wp2_with (first | (go_at_call 120; refine (Size_01 w g p1 d vD v3 vB t RD.out FT.out HD.out m HSZ.out).mono ?_; rintro e w1 ⟨rfl, hw⟩; rw [hw]; clear hw; rw [← HN.out]) | (refine Kd.R_make (Kd.int .u8) w.heap.size 5 rfl (N := 9) rfl 22 _ _ rfl (n : Int) rfl rfl Tryd.underlying22 (.int .u8 0) 1 I5.out rfl (by decide) (by decide) 0 (ok := fun k => k = w.heap.size) (okp := fun _ => False) rfl (fun _ hk => hk.elim) rfl (by omega) (by have := HML.out; omega) (Below.refl _ _) (Nat.le_refl _) ?_; intro v1 w2 ho hb hgr hnew; clear hnew hgr; rw [Int.toNat_natCast] at ho; generalize hxs : List.replicate n (0 : Int) = zs at ho; have hzl : zs.length = n := (by rw [← hxs]; simp); clear hxs; obtain ⟨gb, cap, rfl, hge, hlt, hnc, hR⟩ := made_buf ho (by have := HML.out; omega); rw [hzl] at hnc hR ⊢; have HNC := Aside0.mk hnc; have HS0 := Aside0.mk (zst hR hzl hb); have hcut := cut_to (P := Tryd.prog) 22 5 .i64 Tryd.underlying22 HI5.out (some ⟨gb, 0, none⟩) n cap (n : Int) (by omega) (Int.le_refl _) hnc; have hlc : (n : Int) ≤ (cap : Int) := (by omega); clear hzl ho hb hge hlt hR hnc) | (go_at_call 121; refine (Mts_010 w _ g p1 d vD v3 vB t RD.out FT.out gb n cap w.heap HS0.out HN.out HNC.out HD.out m HSZ.out H0.out).mono ?_; rintro e w3 ⟨rfl, hS⟩; have HS1 := Aside0.mk hS; clear hS))
 go_ret2
 have hB := HS1.out.all
 refine ⟨gb, cap, ?_, ?_, hB.below⟩
 ·first | rfl | (simp; done)
 ·have := hB.row
  rw [← HN.out] at this
  exact this
set_option maxHeartbeats 8000000 in
set_option maxRecDepth 100000 in
theorem Mar_110 (w : World) (g p1 : Nat) (d : Dat) (vD v3 vB : Value) (t : TypeId) (h : RdDat w g d p1 vD v3 vB t) (hf : Fit d) (xs : List Int) (hd : d.data = some xs) (m : Nat) (hs : d.size = some m) (h0 : d.blocks.length = 0) :
  Calls Tryd.prog 101 #[.pointer (some ⟨g, 0, none⟩)] w fun e w' => ∃ gb cap, e = .returned (.tuple #[.slice (some ⟨gb, 0, none⟩) (marsh d).length cap, .nilIface]) ∧ Kd.R (Kd.int .u8) 5 w' w.heap.size (fun k => k = gb) (.slice (some ⟨gb, 0, none⟩) (marsh d).length cap) (marsh d) ∧ Below w.heap.size w w' := by
 obtain ⟨n, hn⟩ : ∃ n, n = (marsh d).length := ⟨_, rfl⟩
 have hml := marsh_len hf
 rw [← hn] at hml ⊢
 have HML := Aside0.mk hml
 have HN := Aside0.mk hn
 have RD := Aside0.mk h
 have FT := Aside0.mk hf
 have HD := Aside0.mk hd
 have HSZ := Aside0.mk hs
 have H0 := Aside0.mk h0
 obtain ⟨i05, hi05, hsz5⟩ : ∃ i, Tryd.prog.info? 5 = some i ∧ i.size = 1 := Option.map_eq_some_iff.1 (show (Tryd.prog.info? 5).map (·.size) = some 1 by kernel_rfl)
 have HI5 := Aside0.mk hi05
 have info5 : (Tryd.prog.info? 5).map (fun i => (i.zero, i.size, i.bytes)) = some (some (.int .u8 0), 1, 1) := by kernel_rfl
 have I5 := Aside0.mk info5
 clear hml hn h hf hd hs h0 hi05 hsz5 info5
 go_enter Tryd.func101, Tryd.ntmps101
 go_wp2_with (first | (go_at_call 120; refine (Size_11 w g p1 d vD v3 vB t RD.out FT.out xs HD.out m HSZ.out).mono ?_; rintro e w1 ⟨rfl, hw⟩; rw [hw]; clear hw; rw [← HN.out]) | (refine Kd.R_make (Kd.int .u8) w.heap.size 5 rfl (N := 9) rfl 22 _ _ rfl (n : Int) rfl rfl Tryd.underlying22 (.int .u8 0) 1 I5.out rfl (by decide) (by decide) 0 (ok := fun k => k = w.heap.size) (okp := fun _ => False) rfl (fun _ hk => hk.elim) rfl (by omega) (by have := HML.out; omega) (Below.refl _ _) (Nat.le_refl _) ?_; intro v1 w2 ho hb hgr hnew; clear hnew hgr; rw [Int.toNat_natCast] at ho; generalize hxs : List.replicate n (0 : Int) = zs at ho; have hzl : zs.length = n := (by rw [← hxs]; simp); clear hxs; obtain ⟨gb, cap, rfl, hge, hlt, hnc, hR⟩ := made_buf ho (by have := HML.out; omega); rw [hzl] at hnc hR ⊢; have HNC := Aside0.mk hnc; have HS0 := Aside0.mk (zst hR hzl hb); have hcut := cut_to (P := Tryd.prog) 22 5 .i64 Tryd.underlying22 HI5.out (some ⟨gb, 0, none⟩) n cap (n : Int) (by omega) (Int.le_refl _) hnc; have hlc : (n : Int) ≤ (cap : Int) := (by omega); clear hzl ho hb hge hlt hR hnc) | (go_at_call 121; refine (Mts_110 w _ g p1 d vD v3 vB t RD.out FT.out gb n cap w.heap HS0.out HN.out HNC.out xs HD.out m HSZ.out H0.out).mono ?_; rintro e w3 ⟨rfl, hS⟩; have HS1 := Aside0.mk hS; clear hS))
 go_ret2
 have hB := HS1.out.all
 refine ⟨gb, cap, ?_, ?_, hB.below⟩
 ·first | rfl | (simp; done)
 ·have := hB.row
  rw [← HN.out] at this
  exact this
set_option maxHeartbeats 8000000 in
set_option maxRecDepth 100000 in
theorem Mar_011 (w : World) (g p1 : Nat) (d : Dat) (vD v3 vB : Value) (t : TypeId) (h : RdDat w g d p1 vD v3 vB t) (hf : Fit d) (hd : d.data = none) (m : Nat) (hs : d.size = some m) (h0 : 0 < d.blocks.length) :
  Calls Tryd.prog 101 #[.pointer (some ⟨g, 0, none⟩)] w fun e w' => ∃ gb cap, e = .returned (.tuple #[.slice (some ⟨gb, 0, none⟩) (marsh d).length cap, .nilIface]) ∧ Kd.R (Kd.int .u8) 5 w' w.heap.size (fun k => k = gb) (.slice (some ⟨gb, 0, none⟩) (marsh d).length cap) (marsh d) ∧ Below w.heap.size w w' := by
 obtain ⟨n, hn⟩ : ∃ n, n = (marsh d).length := ⟨_, rfl⟩
 have hml := marsh_len hf
 rw [← hn] at hml ⊢
 have HML := Aside0.mk hml
 have HN := Aside0.mk hn
 have RD := Aside0.mk h
 have FT := Aside0.mk hf
 have HD := Aside0.mk hd
 have HSZ := Aside0.mk hs
 have H0 := Aside0.mk h0
 obtain ⟨i05, hi05, hsz5⟩ : ∃ i, Tryd.prog.info? 5 = some i ∧ i.size = 1 := Option.map_eq_some_iff.1 (show (Tryd.prog.info? 5).map (·.size) = some 1 by kernel_rfl)
 have HI5 := Aside0.mk hi05
 have info5 : (Tryd.prog.info? 5).map (fun i => (i.zero, i.size, i.bytes)) = some (some (.int .u8 0), 1, 1) := by kernel_rfl
 have I5 := Aside0.mk info5
 clear hml hn h hf hd hs h0 hi05 hsz5 info5
 go_enter Tryd.func101, Tryd.ntmps101
 go_wp2_with (first | (go_at_call 120; refine (Size_01 w g p1 d vD v3 vB t RD.out FT.out HD.out m HSZ.out).mono ?_; rintro e w1 ⟨rfl, hw⟩; rw [hw]; clear hw; rw [← HN.out]) | (refine Kd.R_make (Kd.int .u8) w.heap.size 5 rfl (N := 9) rfl 22 _ _ rfl (n : Int) rfl rfl Tryd.underlying22 (.int .u8 0) 1 I5.out rfl (by decide) (by decide) 0 (ok := fun k => k = w.heap.size) (okp := fun _ => False) rfl (fun _ hk => hk.elim) rfl (by omega) (by have := HML.out; omega) (Below.refl _ _) (Nat.le_refl _) ?_; intro v1 w2 ho hb hgr hnew; clear hnew hgr; rw [Int.toNat_natCast] at ho; generalize hxs : List.replicate n (0 : Int) = zs at ho; have hzl : zs.length = n := (by rw [← hxs]; simp); clear hxs; obtain ⟨gb, cap, rfl, hge, hlt, hnc, hR⟩ := made_buf ho (by have := HML.out; omega); rw [hzl] at hnc hR ⊢; have HNC := Aside0.mk hnc; have HS0 := Aside0.mk (zst hR hzl hb); have hcut := cut_to (P := Tryd.prog) 22 5 .i64 Tryd.underlying22 HI5.out (some ⟨gb, 0, none⟩) n cap (n : Int) (by omega) (Int.le_refl _) hnc; have hlc : (n : Int) ≤ (cap : Int) := (by omega); clear hzl ho hb hge hlt hR hnc) | (go_at_call 121; refine (Mts_011 w _ g p1 d vD v3 vB t RD.out FT.out gb n cap w.heap HS0.out HN.out HNC.out HD.out m HSZ.out H0.out).mono ?_; rintro e w3 ⟨rfl, hS⟩; have HS1 := Aside0.mk hS; clear hS))
 go_ret2
 have hB := HS1.out.all
 refine ⟨gb, cap, ?_, ?_, hB.below⟩
 ·first | rfl | (simp; done)
 ·have := hB.row
  rw [← HN.out] at this
  exact this
set_option maxHeartbeats 8000000 in
set_option maxRecDepth 100000 in
theorem Mar_111 (w : World) (g p1 : Nat) (d : Dat) (vD v3 vB : Value) (t : TypeId) (h : RdDat w g d p1 vD v3 vB t) (hf : Fit d) (xs : List Int) (hd : d.data = some xs) (m : Nat) (hs : d.size = some m) (h0 : 0 < d.blocks.length) :
  Calls Tryd.prog 101 #[.pointer (some ⟨g, 0, none⟩)] w fun e w' => ∃ gb cap, e = .returned (.tuple #[.slice (some ⟨gb, 0, none⟩) (marsh d).length cap, .nilIface]) ∧ Kd.R (Kd.int .u8) 5 w' w.heap.size (fun k => k = gb) (.slice (some ⟨gb, 0, none⟩) (marsh d).length cap) (marsh d) ∧ Below w.heap.size w w' := by
 obtain ⟨n, hn⟩ : ∃ n, n = (marsh d).length := ⟨_, rfl⟩
 have hml := marsh_len hf
 rw [← hn] at hml ⊢
 have HML := Aside0.mk hml
 have HN := Aside0.mk hn
 have RD := Aside0.mk h
 have FT := Aside0.mk hf
 have HD := Aside0.mk hd
 have HSZ := Aside0.mk hs
 have H0 := Aside0.mk h0
 obtain ⟨i05, hi05, hsz5⟩ : ∃ i, Tryd.prog.info? 5 = some i ∧ i.size = 1 := Option.map_eq_some_iff.1 (show (Tryd.prog.info? 5).map (·.size) = some 1 by kernel_rfl)
 have HI5 := Aside0.mk hi05
 have info5 : (Tryd.prog.info? 5).map (fun i => (i.zero, i.size, i.bytes)) = some (some (.int .u8 0), 1, 1) := by kernel_rfl
 have I5 := Aside0.mk info5
 clear hml hn h hf hd hs h0 hi05 hsz5 info5
 go_enter Tryd.func101, Tryd.ntmps101
 go_wp2_with (first | (go_at_call 120; refine (Size_11 w g p1 d vD v3 vB t RD.out FT.out xs HD.out m HSZ.out).mono ?_; rintro e w1 ⟨rfl, hw⟩; rw [hw]; clear hw; rw [← HN.out]) | (refine Kd.R_make (Kd.int .u8) w.heap.size 5 rfl (N := 9) rfl 22 _ _ rfl (n : Int) rfl rfl Tryd.underlying22 (.int .u8 0) 1 I5.out rfl (by decide) (by decide) 0 (ok := fun k => k = w.heap.size) (okp := fun _ => False) rfl (fun _ hk => hk.elim) rfl (by omega) (by have := HML.out; omega) (Below.refl _ _) (Nat.le_refl _) ?_; intro v1 w2 ho hb hgr hnew; clear hnew hgr; rw [Int.toNat_natCast] at ho; generalize hxs : List.replicate n (0 : Int) = zs at ho; have hzl : zs.length = n := (by rw [← hxs]; simp); clear hxs; obtain ⟨gb, cap, rfl, hge, hlt, hnc, hR⟩ := made_buf ho (by have := HML.out; omega); rw [hzl] at hnc hR ⊢; have HNC := Aside0.mk hnc; have HS0 := Aside0.mk (zst hR hzl hb); have hcut := cut_to (P := Tryd.prog) 22 5 .i64 Tryd.underlying22 HI5.out (some ⟨gb, 0, none⟩) n cap (n : Int) (by omega) (Int.le_refl _) hnc; have hlc : (n : Int) ≤ (cap : Int) := (by omega); clear hzl ho hb hge hlt hR hnc) | (go_at_call 121; refine (Mts_111 w _ g p1 d vD v3 vB t RD.out FT.out gb n cap w.heap HS0.out HN.out HNC.out xs HD.out m HSZ.out H0.out).mono ?_; rintro e w3 ⟨rfl, hS⟩; have HS1 := Aside0.mk hS; clear hS))
 go_ret2
 have hB := HS1.out.all
 refine ⟨gb, cap, ?_, ?_, hB.below⟩
 ·first | rfl | (simp; done)
 ·have := hB.row
  rw [← HN.out] at this
  exact this
theorem rd_fold (w : World) : RdDat ((w.alloc (.cells #[.pointer (some ⟨w.heap.size + 1, 0, none⟩), .slice none 0 0, .pointer none, .slice none 0 0, .pointer none, .pointer none, .slice none 0 0, .int .i32 0] 163)).alloc (.cells #[.int .i32 1] 121)) w.heap.size ⟨1, none, none, []⟩ (w.heap.size + 1) (.slice none 0 0) (.pointer none) (.slice none 0 0) 163 := by
 refine ⟨heap2_0 w _ _, blk_cell (heap2_1 w _ _) 0, fun _ => rfl, fun xs hx => (by cases hx), fun _ => rfl, fun n hn => (by cases hn), none, 0, rfl, Nat.le_refl _, ?_⟩
 exact Kd.C_nil _ _
theorem fit_fold : Fit ⟨1, none, none, []⟩ := ⟨by decide, by simp, by simp, by simp, by decide⟩
set_option maxHeartbeats 8000000 in
theorem Folder_calls (w : World) : Calls Tryd.prog 99 #[] w fun e w' => ∃ gb cap, e = .returned (.slice (some ⟨gb, 0, none⟩) 2 cap) ∧ Kd.R (Kd.int .u8) 5 w' w.heap.size (fun k => k = gb) (.slice (some ⟨gb, 0, none⟩) 2 cap) [8, 1] ∧ Below w.heap.size w w' := by
 go_enter Tryd.func99, Tryd.ntmps99
 go_wp2_with (go_at_call 101; refine (Mar_000 _ w.heap.size (w.heap.size + 1) ⟨1, none, none, []⟩ _ _ _ 163 (rd_fold w) fit_fold rfl rfl rfl).mono ?_; rintro e w1 ⟨gb, cap, rfl, hR, hB⟩; have HR := Aside0.mk hR; have HB := Aside0.mk hB; clear hR hB)
 go_ret
 refine ⟨gb, cap, rfl, ?_, ?_⟩
 ·exact R_low HR.out (below_alloc (below_alloc (Below.refl _ _) _) _).size
 ·exact below_step (below_alloc (below_alloc (Below.refl _ _) _) _) HB.out
set_option maxHeartbeats 8000000 in
theorem Uint64_calls (m : Int) (w : World) : Calls Tryd.prog 100 #[.int .u64 m] w fun e w' => e = .returned (.pointer (some ⟨w.heap.size, 0, none⟩)) ∧ w' = w.alloc (.cells #[.int .u64 m] 24) := by
 go_enter Tryd.func100, Tryd.ntmps100
 go_wp2_with fail
 go_ret
 exact ⟨rfl, rfl⟩
theorem rd_three (w : World) (A : Addr) (n c m : Nat) (xs : List Int) (hl : xs.length = n) (hnc : n ≤ c) (hC : Kd.C (Kd.int .u8) w (some A) n xs) (k : Nat) : RdDat (((w.alloc (.cells #[.pointer (some ⟨w.heap.size + 1, 0, none⟩), .slice (some A) n c, .pointer (some ⟨w.heap.size + 1 + 1, 0, none⟩), .slice none 0 0, .pointer none, .pointer none, .slice none 0 0, .int .i32 0] 163)).alloc (.cells #[.int .i32 (k : Int)] 121)).alloc (.cells #[.int .u64 (m : Int)] 24)) w.heap.size ⟨k, some xs, some m, []⟩ (w.heap.size + 1) (.slice (some A) n c) (.pointer (some ⟨w.heap.size + 1 + 1, 0, none⟩)) (.slice none 0 0) 163 := by
 subst hl
 refine ⟨blk_alloc (heap2_0 w _ _) _, blk_cell (blk_alloc (heap2_1 w _ _) _) 0, fun h => (by cases h), fun ys hy => ?_, fun h => (by cases h), fun n hn => ?_, none, 0, rfl, Nat.le_refl _, ?_⟩
 ·cases hy
  exact ⟨A, c, rfl, hnc, Kd.C_below hC (below_alloc (below_alloc (below_alloc (Below.refl _ _) _) _) _)⟩
 ·cases hn
  have := blk_new ((w.alloc (.cells #[.pointer (some ⟨w.heap.size + 1, 0, none⟩), .slice (some A) xs.length c, .pointer (some ⟨w.heap.size + 1 + 1, 0, none⟩), .slice none 0 0, .pointer none, .pointer none, .slice none 0 0, .int .i32 0] 163)).alloc (.cells #[.int .i32 (k : Int)] 121)) (.cells #[.int .u64 (m : Int)] 24)
  rw [size_alloc, size_alloc] at this
  exact ⟨_, rfl, blk_cell this 0⟩
 ·exact Kd.C_nil _ _
theorem fit_three {k m : Nat} {xs : List Int} (hk : k < 1000) (hx : xs.length ≤ 1000000) (hm : m < 2 ^ 64) : Fit ⟨k, some xs, some m, []⟩ := ⟨hk, fun ys h => by cases h; exact hx, fun j h => by cases h; exact hm, by simp, by simp⟩
set_option maxHeartbeats 8000000 in
theorem File_calls (w : World) (A : Addr) (n c m : Nat) (xs : List Int) (hl : xs.length = n) (hnc : n ≤ c) (hC : Kd.C (Kd.int .u8) w (some A) n xs) (hx : xs.length ≤ 1000000) (hm : m < 2 ^ 64) : Calls Tryd.prog 98 #[.slice (some A) n c, .int .u64 (m : Int)] w fun e w' => ∃ gb cap, e = .returned (.slice (some ⟨gb, 0, none⟩) (marsh ⟨2, some xs, some m, []⟩).length cap) ∧ Kd.R (Kd.int .u8) 5 w' w.heap.size (fun k => k = gb) (.slice (some ⟨gb, 0, none⟩) (marsh ⟨2, some xs, some m, []⟩).length cap) (marsh ⟨2, some xs, some m, []⟩) ∧ Below w.heap.size w w' := by
 have RD := Aside0.mk (rd_three w A n c m xs hl hnc hC 2)
 have FT := Aside0.mk (fit_three (k := 2) (by decide) hx hm)
 clear hl hnc hC hx hm
 go_enter Tryd.func98, Tryd.ntmps98
 go_wp2_with (first | (go_at_call 100; refine (Uint64_calls _ _).mono ?_; rintro e w1 ⟨rfl, hw⟩; rw [hw]) | (go_at_call 101; refine (Mar_110 _ w.heap.size (w.heap.size + 1) ⟨2, some xs, some m, []⟩ _ _ _ 163 RD.out FT.out xs rfl m rfl rfl).mono ?_; rintro e w2 ⟨gb, cap, rfl, hR, hB⟩; have HR := Aside0.mk hR; have HB := Aside0.mk hB; clear hR hB))
 go_ret
 refine ⟨gb, cap, rfl, R_low HR.out (below_alloc (below_alloc (below_alloc (Below.refl _ _) _) _) _).size, below_step (below_alloc (below_alloc (below_alloc (Below.refl _ _) _) _) _) HB.out⟩
end Go.Proofs.YtnhnlodmkbiiiaaDoor.HandFields
