/- The bytes of a message are written from the end: MarshalToSizedBuffer, walked in each way. -/
import Derived.Test.YtnhnlodmkbiiiaaDoorRF0
namespace Go.Proofs.YtnhnlodmkbiiiaaDoor.HandFields
open Go Go.RowKit Go.Proofs.YtnhnlodmkbiiiaaDoorL Go.Proofs.YtnhnlodmkbiiiaaDoorW.PrintWords Go.Proofs.YtnhnlodmkbiiiaaDoorW.PrintLast Go.Proofs.YtnhnlodmkbiiiaaDoorW.PrintMore Go.Proofs.YtnhnlodmkbiiiaaDoor.PFieldsBase
attribute [local go_sem] max2_int min2_int max_two min_two max_three min_three max_four min_four
set_option linter.unusedVariables false
set_option linter.unusedSimpArgs false
set_option maxHeartbeats 40000000 in
set_option maxRecDepth 100000 in
theorem Mts_000 (w0 w : World) (g p1 : Nat) (d : Dat) (vD v3 vB : Value) (t : TypeId) (h : RdDat w0 g d p1 vD v3 vB t) (hf : Fit d) (gb n cap : Nat) (hh : Array Obj) (hst : St w0 w gb n cap hh n []) (hn : n = (marsh d).length) (hnc : n ≤ cap) (hd : d.data = none) (hs : d.size = none) (h0 : d.blocks.length = 0) :
  Calls Tryd.prog 121 #[.pointer (some ⟨g, 0, none⟩), .slice (some ⟨gb, 0, none⟩) n cap] w fun e w' => e = .returned (.tuple #[.int .i64 (n : Int), .nilIface]) ∧ St w0 w' gb n cap hh 0 (marsh d) := by
 obtain ⟨AB, cB, rfl, hlB, hCB⟩ := h.blks
 have hn2 : n ≤ 40000000 := by rw [hn]; unfold marsh; rw [hd, hs]; have h1 := uv_len d.ty (by have := hf.ty; omega); have h2 := blkF_len d.blocks hf.blks; have h3 := hf.many; simp only [List.length_append, List.length_cons, dataF, sizeF, List.length_nil]; omega
 obtain rfl := h.data0 hd
 obtain rfl := h.size0 hs
 have FT := Aside0.mk hf
 have RD := Aside0.mk h
 have HN2 := Aside0.mk hn2
 have HNC := Aside0.mk hnc
 have HCB := Aside0.mk hCB
 have H0 := Aside0.mk h0
 have HNN := Aside0.mk (show n = 1 + (uv d.ty).length + (blkF d.blocks).length by rw [hn]; unfold marsh; rw [hd, hs]; simp only [List.length_append, List.length_cons, List.length_nil, dataF, sizeF]; omega)
 have HMA := Aside0.mk (show marsh d = (8 :: uv d.ty) ++ ([] ++ ([] ++ blkF d.blocks)) by unfold marsh; rw [hd, hs]; rfl)
 have hq1 : IntKind.u64.wrap (d.ty : Int) = (d.ty : Int) := by have := hf.ty; unfold IntKind.wrap; simp [IntKind.bits, IntKind.signed]; omega
 have HSS := Aside0.mk hst
 have hc0 : w.cell? ⟨g, 0, none⟩ = some (.pointer (some ⟨p1, 0, none⟩)) := (blk_cell (RD.out.below HSS.out.below).blk 0).trans rfl
 have hc1 : w.cell? ⟨g, 1, none⟩ = some (.slice none 0 0) := (blk_cell (RD.out.below HSS.out.below).blk 1).trans rfl
 have hc2 : w.cell? ⟨g, 2, none⟩ = some (.pointer none) := (blk_cell (RD.out.below HSS.out.below).blk 2).trans rfl
 have hc3 : w.cell? ⟨g, 3, none⟩ = some (.slice AB d.blocks.length cB) := (blk_cell (RD.out.below HSS.out.below).blk 3).trans rfl
 have hc4 : w.cell? ⟨g, 4, none⟩ = some (.pointer none) := (blk_cell (RD.out.below HSS.out.below).blk 4).trans rfl
 have hc5 : w.cell? ⟨g, 5, none⟩ = some (.pointer none) := (blk_cell (RD.out.below HSS.out.below).blk 5).trans rfl
 have hc6 : w.cell? ⟨g, 6, none⟩ = some (.slice none 0 0) := (blk_cell (RD.out.below HSS.out.below).blk 6).trans rfl
 have hcT := (RD.out.below HSS.out.below).ty
 clear hn2 hst hn hnc h hf hCB hlB hd hs
 have q0 : decide ((0 : Int) < (d.blocks.length : Int)) = false := decide_eq_false (by omega)
 have q0n : decide (0 < d.blocks.length) = false := decide_eq_false (by omega)
 have hbe : blkF d.blocks = [] := by rw [List.eq_nil_of_length_eq_zero h0]; rfl
 have HBE := Aside0.mk hbe
 clear h0 hbe
 have HS0 : Aside0 (St w0 w gb n cap hh n (blkF d.blocks)) := ⟨by rw [HBE.out]; exact HSS.out⟩
 go_enter Tryd.func121, Tryd.ntmps121
 go_wp2_with (first | (go_at_call 130; with_reducible refine (HS0.out.enc d.ty (by have := FT.out.ty; omega) (by have le_ := HS0.out.le; (try simp only [List.length_append, List.length_cons, List.length_nil] at le_); have := HNN.out; have := HN2.out; omega) (by have := HN2.out; omega)).mono ?_; rintro e wa0 ⟨rfl, hS⟩; obtain ⟨J0, hJ⟩ : ∃ J : Nat, J = n - (uv d.ty).length := ⟨_, rfl⟩; rw [← hJ] at hS ⊢; have HSa0 := Aside0.mk hS; have HJ0 := Aside0.mk (show 1 ≤ J0 by have le_ := HS0.out.le; (try simp only [List.length_append, List.length_cons, List.length_nil] at le_); have := HNN.out; have := HN2.out; omega); obtain ⟨P1, hP⟩ : ∃ P : Nat, P = J0 - 1 := ⟨_, rfl⟩; have HP0 := Aside0.mk hP; have hk0 : wrap64 ((J0 : Int) - 1) = (P1 : Int) := (by have h1 := HJ0.out; have h2 := HSa0.out.le; have h3 := HN2.out; unfold wrap64; omega); have hk0w : IntKind.i64.wrap ((J0 : Int) - 1) = (P1 : Int) := (i64_w _).trans hk0; have kq0 : ((P1 : Int) < (n : Int)) = True := eq_true (by have h1 := HJ0.out; have h2 := HSa0.out.le; omega); have kr0 : (P1 < n) = True := eq_true (by have h1 := HJ0.out; have h2 := HSa0.out.le; omega); obtain ⟨_, hx0, hf0⟩ := HSa0.out.cell P1 (by have h1 := HJ0.out; have h2 := HSa0.out.le; omega); clear hJ hP hS) | ((with_reducible refine gate_store (t := 5) (p := 172) rfl ?_); refine store_event (t := 5) (p := 172) (v := ?vo_0) (w1 := (wa0.setCell ⟨gb, P1, none⟩ (.int .u8 8))) ?hg ?ho ?hn ?hr ?_; (case ho => rfl); (case hg => rfl); (case hn => rfl); (case hr => first | (go_simp; done) | (go_simp; rfl)); intro wb0 hw; have HS1 : Aside0 (St w0 wb0 gb n cap hh P1 (8 :: (uv d.ty ++ (blkF d.blocks)))) := ⟨by rw [hw, HP0.out]; exact HSa0.out.put HJ0.out 8⟩; clear hw hx0 hf0 kq0 kr0; clear hc0 hc1 hc2 hc3 hc4 hc5 hc6 hcT; have hc0 : wb0.cell? ⟨g, 0, none⟩ = some (.pointer (some ⟨p1, 0, none⟩)) := (blk_cell (RD.out.below HS1.out.below).blk 0).trans rfl; have hc1 : wb0.cell? ⟨g, 1, none⟩ = some (.slice none 0 0) := (blk_cell (RD.out.below HS1.out.below).blk 1).trans rfl; have hc2 : wb0.cell? ⟨g, 2, none⟩ = some (.pointer none) := (blk_cell (RD.out.below HS1.out.below).blk 2).trans rfl; have hc3 : wb0.cell? ⟨g, 3, none⟩ = some (.slice AB d.blocks.length cB) := (blk_cell (RD.out.below HS1.out.below).blk 3).trans rfl; have hc4 : wb0.cell? ⟨g, 4, none⟩ = some (.pointer none) := (blk_cell (RD.out.below HS1.out.below).blk 4).trans rfl; have hc5 : wb0.cell? ⟨g, 5, none⟩ = some (.pointer none) := (blk_cell (RD.out.below HS1.out.below).blk 5).trans rfl; have hc6 : wb0.cell? ⟨g, 6, none⟩ = some (.slice none 0 0) := (blk_cell (RD.out.below HS1.out.below).blk 6).trans rfl; have hcT := (RD.out.below HS1.out.below).ty; have hkz : wrap64 ((n : Int) - (P1 : Int)) = (n : Int) := (by have le_ := HS1.out.le; (try simp only [List.length_append, List.length_cons, List.length_nil] at le_); have := HNN.out; have := HN2.out; unfold wrap64; omega); have hkzw : IntKind.i64.wrap ((n : Int) - (P1 : Int)) = (n : Int) := (i64_w _).trans hkz))
 go_ret2
 have hz_ : P1 = 0 := (by have le_ := HS1.out.le; (try simp only [List.length_append, List.length_cons, List.length_nil] at le_); have := HNN.out; omega)
 have hS := HS1.out
 rw [hz_] at hS
 refine ⟨?_, ?_⟩
 ·first | rfl | (simp; done)
 ·rw [HMA.out]
  simpa only [List.nil_append, List.append_nil, List.cons_append, List.append_assoc] using hS
set_option maxHeartbeats 40000000 in
set_option maxRecDepth 100000 in
theorem Mts_010 (w0 w : World) (g p1 : Nat) (d : Dat) (vD v3 vB : Value) (t : TypeId) (h : RdDat w0 g d p1 vD v3 vB t) (hf : Fit d) (gb n cap : Nat) (hh : Array Obj) (hst : St w0 w gb n cap hh n []) (hn : n = (marsh d).length) (hnc : n ≤ cap) (hd : d.data = none) (m : Nat) (hs : d.size = some m) (h0 : d.blocks.length = 0) :
  Calls Tryd.prog 121 #[.pointer (some ⟨g, 0, none⟩), .slice (some ⟨gb, 0, none⟩) n cap] w fun e w' => e = .returned (.tuple #[.int .i64 (n : Int), .nilIface]) ∧ St w0 w' gb n cap hh 0 (marsh d) := by
 obtain ⟨AB, cB, rfl, hlB, hCB⟩ := h.blks
 have hn2 : n ≤ 40000000 := by rw [hn]; unfold marsh; rw [hd, hs]; have h1 := uv_len d.ty (by have := hf.ty; omega); have h2 := blkF_len d.blocks hf.blks; have h3 := hf.many; simp only [List.length_append, List.length_cons, dataF, sizeF, List.length_nil]; have h6 := uv_len m (hf.size m hs); omega
 obtain rfl := h.data0 hd
 obtain ⟨bS, rfl, hcS⟩ := h.size1 m hs
 have HCS := Aside0.mk hcS
 have HM := Aside0.mk (hf.size m hs)
 clear hcS
 have FT := Aside0.mk hf
 have RD := Aside0.mk h
 have HN2 := Aside0.mk hn2
 have HNC := Aside0.mk hnc
 have HCB := Aside0.mk hCB
 have H0 := Aside0.mk h0
 have HNN := Aside0.mk (show n = 1 + (uv d.ty).length + (1 + (uv m).length) + (blkF d.blocks).length by rw [hn]; unfold marsh; rw [hd, hs]; simp only [List.length_append, List.length_cons, List.length_nil, dataF, sizeF]; omega)
 have HMA := Aside0.mk (show marsh d = (8 :: uv d.ty) ++ ([] ++ ((24 :: uv m) ++ blkF d.blocks)) by unfold marsh; rw [hd, hs]; rfl)
 have hq1 : IntKind.u64.wrap (d.ty : Int) = (d.ty : Int) := by have := hf.ty; unfold IntKind.wrap; simp [IntKind.bits, IntKind.signed]; omega
 have HSS := Aside0.mk hst
 have hc0 : w.cell? ⟨g, 0, none⟩ = some (.pointer (some ⟨p1, 0, none⟩)) := (blk_cell (RD.out.below HSS.out.below).blk 0).trans rfl
 have hc1 : w.cell? ⟨g, 1, none⟩ = some (.slice none 0 0) := (blk_cell (RD.out.below HSS.out.below).blk 1).trans rfl
 have hc2 : w.cell? ⟨g, 2, none⟩ = some (.pointer (some ⟨bS, 0, none⟩)) := (blk_cell (RD.out.below HSS.out.below).blk 2).trans rfl
 have hc3 : w.cell? ⟨g, 3, none⟩ = some (.slice AB d.blocks.length cB) := (blk_cell (RD.out.below HSS.out.below).blk 3).trans rfl
 have hc4 : w.cell? ⟨g, 4, none⟩ = some (.pointer none) := (blk_cell (RD.out.below HSS.out.below).blk 4).trans rfl
 have hc5 : w.cell? ⟨g, 5, none⟩ = some (.pointer none) := (blk_cell (RD.out.below HSS.out.below).blk 5).trans rfl
 have hc6 : w.cell? ⟨g, 6, none⟩ = some (.slice none 0 0) := (blk_cell (RD.out.below HSS.out.below).blk 6).trans rfl
 have hcT := (RD.out.below HSS.out.below).ty
 have hcS := (Below.cell HSS.out.below (World.block_lt_of_cell? _ _ HCS.out)).trans HCS.out
 clear hn2 hst hn hnc h hf hCB hlB hd hs
 have q0 : decide ((0 : Int) < (d.blocks.length : Int)) = false := decide_eq_false (by omega)
 have q0n : decide (0 < d.blocks.length) = false := decide_eq_false (by omega)
 have hbe : blkF d.blocks = [] := by rw [List.eq_nil_of_length_eq_zero h0]; rfl
 have HBE := Aside0.mk hbe
 clear h0 hbe
 have HS0 : Aside0 (St w0 w gb n cap hh n (blkF d.blocks)) := ⟨by rw [HBE.out]; exact HSS.out⟩
 go_enter Tryd.func121, Tryd.ntmps121
 go_wp2_with (first | (go_at_call 130; with_reducible refine (HS0.out.enc m HM.out (by have le_ := HS0.out.le; (try simp only [List.length_append, List.length_cons, List.length_nil] at le_); have := HNN.out; have := HN2.out; omega) (by have := HN2.out; omega)).mono ?_; rintro e wa0 ⟨rfl, hS⟩; obtain ⟨J0, hJ⟩ : ∃ J : Nat, J = n - (uv m).length := ⟨_, rfl⟩; rw [← hJ] at hS ⊢; have HSa0 := Aside0.mk hS; have HJ0 := Aside0.mk (show 1 ≤ J0 by have le_ := HS0.out.le; (try simp only [List.length_append, List.length_cons, List.length_nil] at le_); have := HNN.out; have := HN2.out; omega); obtain ⟨P1, hP⟩ : ∃ P : Nat, P = J0 - 1 := ⟨_, rfl⟩; have HP0 := Aside0.mk hP; have hk0 : wrap64 ((J0 : Int) - 1) = (P1 : Int) := (by have h1 := HJ0.out; have h2 := HSa0.out.le; have h3 := HN2.out; unfold wrap64; omega); have hk0w : IntKind.i64.wrap ((J0 : Int) - 1) = (P1 : Int) := (i64_w _).trans hk0; have kq0 : ((P1 : Int) < (n : Int)) = True := eq_true (by have h1 := HJ0.out; have h2 := HSa0.out.le; omega); have kr0 : (P1 < n) = True := eq_true (by have h1 := HJ0.out; have h2 := HSa0.out.le; omega); obtain ⟨_, hx0, hf0⟩ := HSa0.out.cell P1 (by have h1 := HJ0.out; have h2 := HSa0.out.le; omega); clear hJ hP hS) | ((with_reducible refine gate_store (t := 5) (p := 117) rfl ?_); refine store_event (t := 5) (p := 117) (v := ?vo_0) (w1 := (wa0.setCell ⟨gb, P1, none⟩ (.int .u8 24))) ?hg ?ho ?hn ?hr ?_; (case ho => rfl); (case hg => rfl); (case hn => rfl); (case hr => first | (go_simp; done) | (go_simp; rfl)); intro wb0 hw; have HS1 : Aside0 (St w0 wb0 gb n cap hh P1 (24 :: (uv m ++ (blkF d.blocks)))) := ⟨by rw [hw, HP0.out]; exact HSa0.out.put HJ0.out 24⟩; clear hw hx0 hf0 kq0 kr0; clear hc0 hc1 hc2 hc3 hc4 hc5 hc6 hcT hcS; have hc0 : wb0.cell? ⟨g, 0, none⟩ = some (.pointer (some ⟨p1, 0, none⟩)) := (blk_cell (RD.out.below HS1.out.below).blk 0).trans rfl; have hc1 : wb0.cell? ⟨g, 1, none⟩ = some (.slice none 0 0) := (blk_cell (RD.out.below HS1.out.below).blk 1).trans rfl; have hc2 : wb0.cell? ⟨g, 2, none⟩ = some (.pointer (some ⟨bS, 0, none⟩)) := (blk_cell (RD.out.below HS1.out.below).blk 2).trans rfl; have hc3 : wb0.cell? ⟨g, 3, none⟩ = some (.slice AB d.blocks.length cB) := (blk_cell (RD.out.below HS1.out.below).blk 3).trans rfl; have hc4 : wb0.cell? ⟨g, 4, none⟩ = some (.pointer none) := (blk_cell (RD.out.below HS1.out.below).blk 4).trans rfl; have hc5 : wb0.cell? ⟨g, 5, none⟩ = some (.pointer none) := (blk_cell (RD.out.below HS1.out.below).blk 5).trans rfl; have hc6 : wb0.cell? ⟨g, 6, none⟩ = some (.slice none 0 0) := (blk_cell (RD.out.below HS1.out.below).blk 6).trans rfl; have hcT := (RD.out.below HS1.out.below).ty; have hcS := (Below.cell HS1.out.below (World.block_lt_of_cell? _ _ HCS.out)).trans HCS.out) | (go_at_call 130; with_reducible refine (HS1.out.enc d.ty (by have := FT.out.ty; omega) (by have le_ := HS1.out.le; (try simp only [List.length_append, List.length_cons, List.length_nil] at le_); have := HNN.out; have := HN2.out; omega) (by have := HN2.out; omega)).mono ?_; rintro e wa1 ⟨rfl, hS⟩; obtain ⟨J1, hJ⟩ : ∃ J : Nat, J = P1 - (uv d.ty).length := ⟨_, rfl⟩; rw [← hJ] at hS ⊢; have HSa1 := Aside0.mk hS; have HJ1 := Aside0.mk (show 1 ≤ J1 by have le_ := HS1.out.le; (try simp only [List.length_append, List.length_cons, List.length_nil] at le_); have := HNN.out; have := HN2.out; omega); obtain ⟨P2, hP⟩ : ∃ P : Nat, P = J1 - 1 := ⟨_, rfl⟩; have HP1 := Aside0.mk hP; have hk1 : wrap64 ((J1 : Int) - 1) = (P2 : Int) := (by have h1 := HJ1.out; have h2 := HSa1.out.le; have h3 := HN2.out; unfold wrap64; omega); have hk1w : IntKind.i64.wrap ((J1 : Int) - 1) = (P2 : Int) := (i64_w _).trans hk1; have kq1 : ((P2 : Int) < (n : Int)) = True := eq_true (by have h1 := HJ1.out; have h2 := HSa1.out.le; omega); have kr1 : (P2 < n) = True := eq_true (by have h1 := HJ1.out; have h2 := HSa1.out.le; omega); obtain ⟨_, hx1, hf1⟩ := HSa1.out.cell P2 (by have h1 := HJ1.out; have h2 := HSa1.out.le; omega); clear hJ hP hS) | ((with_reducible refine gate_store (t := 5) (p := 172) rfl ?_); refine store_event (t := 5) (p := 172) (v := ?vo_1) (w1 := (wa1.setCell ⟨gb, P2, none⟩ (.int .u8 8))) ?hg ?ho ?hn ?hr ?_; (case ho => rfl); (case hg => rfl); (case hn => rfl); (case hr => first | (go_simp; done) | (go_simp; rfl)); intro wb1 hw; have HS2 : Aside0 (St w0 wb1 gb n cap hh P2 (8 :: (uv d.ty ++ (24 :: (uv m ++ (blkF d.blocks)))))) := ⟨by rw [hw, HP1.out]; exact HSa1.out.put HJ1.out 8⟩; clear hw hx1 hf1 kq1 kr1; clear hc0 hc1 hc2 hc3 hc4 hc5 hc6 hcT hcS; have hc0 : wb1.cell? ⟨g, 0, none⟩ = some (.pointer (some ⟨p1, 0, none⟩)) := (blk_cell (RD.out.below HS2.out.below).blk 0).trans rfl; have hc1 : wb1.cell? ⟨g, 1, none⟩ = some (.slice none 0 0) := (blk_cell (RD.out.below HS2.out.below).blk 1).trans rfl; have hc2 : wb1.cell? ⟨g, 2, none⟩ = some (.pointer (some ⟨bS, 0, none⟩)) := (blk_cell (RD.out.below HS2.out.below).blk 2).trans rfl; have hc3 : wb1.cell? ⟨g, 3, none⟩ = some (.slice AB d.blocks.length cB) := (blk_cell (RD.out.below HS2.out.below).blk 3).trans rfl; have hc4 : wb1.cell? ⟨g, 4, none⟩ = some (.pointer none) := (blk_cell (RD.out.below HS2.out.below).blk 4).trans rfl; have hc5 : wb1.cell? ⟨g, 5, none⟩ = some (.pointer none) := (blk_cell (RD.out.below HS2.out.below).blk 5).trans rfl; have hc6 : wb1.cell? ⟨g, 6, none⟩ = some (.slice none 0 0) := (blk_cell (RD.out.below HS2.out.below).blk 6).trans rfl; have hcT := (RD.out.below HS2.out.below).ty; have hcS := (Below.cell HS2.out.below (World.block_lt_of_cell? _ _ HCS.out)).trans HCS.out; have hkz : wrap64 ((n : Int) - (P2 : Int)) = (n : Int) := (by have le_ := HS2.out.le; (try simp only [List.length_append, List.length_cons, List.length_nil] at le_); have := HNN.out; have := HN2.out; unfold wrap64; omega); have hkzw : IntKind.i64.wrap ((n : Int) - (P2 : Int)) = (n : Int) := (i64_w _).trans hkz))
 go_ret2
 have hz_ : P2 = 0 := (by have le_ := HS2.out.le; (try simp only [List.length_append, List.length_cons, List.length_nil] at le_); have := HNN.out; omega)
 have hS := HS2.out
 rw [hz_] at hS
 refine ⟨?_, ?_⟩
 ·first | rfl | (simp; done)
 ·rw [HMA.out]
  simpa only [List.nil_append, List.append_nil, List.cons_append, List.append_assoc] using hS
set_option maxHeartbeats 40000000 in
set_option maxRecDepth 100000 in
theorem Mts_110 (w0 w : World) (g p1 : Nat) (d : Dat) (vD v3 vB : Value) (t : TypeId) (h : RdDat w0 g d p1 vD v3 vB t) (hf : Fit d) (gb n cap : Nat) (hh : Array Obj) (hst : St w0 w gb n cap hh n []) (hn : n = (marsh d).length) (hnc : n ≤ cap) (xs : List Int) (hd : d.data = some xs) (m : Nat) (hs : d.size = some m) (h0 : d.blocks.length = 0) :
  Calls Tryd.prog 121 #[.pointer (some ⟨g, 0, none⟩), .slice (some ⟨gb, 0, none⟩) n cap] w fun e w' => e = .returned (.tuple #[.int .i64 (n : Int), .nilIface]) ∧ St w0 w' gb n cap hh 0 (marsh d) := by
 obtain ⟨AB, cB, rfl, hlB, hCB⟩ := h.blks
 have hn2 : n ≤ 40000000 := by rw [hn]; unfold marsh; rw [hd, hs]; have h1 := uv_len d.ty (by have := hf.ty; omega); have h2 := blkF_len d.blocks hf.blks; have h3 := hf.many; simp only [List.length_append, List.length_cons, dataF, sizeF, List.length_nil]; have h4 := hf.data xs hd; have h5 := uv_len xs.length (by omega); have h6 := uv_len m (hf.size m hs); omega
 obtain ⟨AD, cD, rfl, hlD, hCD⟩ := h.data1 xs hd
 have HCD := Aside0.mk hCD
 have HXL := Aside0.mk (hf.data xs hd)
 obtain ⟨bS, rfl, hcS⟩ := h.size1 m hs
 have HCS := Aside0.mk hcS
 have HM := Aside0.mk (hf.size m hs)
 clear hcS
 have FT := Aside0.mk hf
 have RD := Aside0.mk h
 have HN2 := Aside0.mk hn2
 have HNC := Aside0.mk hnc
 have HCB := Aside0.mk hCB
 have H0 := Aside0.mk h0
 have HNN := Aside0.mk (show n = 1 + (uv d.ty).length + (1 + (uv xs.length).length + xs.length) + (1 + (uv m).length) + (blkF d.blocks).length by rw [hn]; unfold marsh; rw [hd, hs]; simp only [List.length_append, List.length_cons, List.length_nil, dataF, sizeF]; omega)
 have HMA := Aside0.mk (show marsh d = (8 :: uv d.ty) ++ ((18 :: (uv xs.length ++ xs)) ++ ((24 :: uv m) ++ blkF d.blocks)) by unfold marsh; rw [hd, hs]; rfl)
 have hq1 : IntKind.u64.wrap (d.ty : Int) = (d.ty : Int) := by have := hf.ty; unfold IntKind.wrap; simp [IntKind.bits, IntKind.signed]; omega
 have hq2 : IntKind.u64.wrap (xs.length : Int) = (xs.length : Int) := by have := hf.data xs hd; unfold IntKind.wrap; simp [IntKind.bits, IntKind.signed]; omega
 obtain ⟨i05, hi05, hsz5⟩ : ∃ i, Tryd.prog.info? 5 = some i ∧ i.size = 1 := Option.map_eq_some_iff.1 (show (Tryd.prog.info? 5).map (·.size) = some 1 by kernel_rfl)
 have HI5 := Aside0.mk hi05
 have HZ5 := Aside0.mk hsz5
 have HSS := Aside0.mk hst
 have hc0 : w.cell? ⟨g, 0, none⟩ = some (.pointer (some ⟨p1, 0, none⟩)) := (blk_cell (RD.out.below HSS.out.below).blk 0).trans rfl
 have hc1 : w.cell? ⟨g, 1, none⟩ = some (.slice (some AD) xs.length cD) := (blk_cell (RD.out.below HSS.out.below).blk 1).trans rfl
 have hc2 : w.cell? ⟨g, 2, none⟩ = some (.pointer (some ⟨bS, 0, none⟩)) := (blk_cell (RD.out.below HSS.out.below).blk 2).trans rfl
 have hc3 : w.cell? ⟨g, 3, none⟩ = some (.slice AB d.blocks.length cB) := (blk_cell (RD.out.below HSS.out.below).blk 3).trans rfl
 have hc4 : w.cell? ⟨g, 4, none⟩ = some (.pointer none) := (blk_cell (RD.out.below HSS.out.below).blk 4).trans rfl
 have hc5 : w.cell? ⟨g, 5, none⟩ = some (.pointer none) := (blk_cell (RD.out.below HSS.out.below).blk 5).trans rfl
 have hc6 : w.cell? ⟨g, 6, none⟩ = some (.slice none 0 0) := (blk_cell (RD.out.below HSS.out.below).blk 6).trans rfl
 have hcT := (RD.out.below HSS.out.below).ty
 have hcS := (Below.cell HSS.out.below (World.block_lt_of_cell? _ _ HCS.out)).trans HCS.out
 clear hn2 hst hn hnc h hf hCB hlB hd hs hCD hlD hi05 hsz5
 have q0 : decide ((0 : Int) < (d.blocks.length : Int)) = false := decide_eq_false (by omega)
 have q0n : decide (0 < d.blocks.length) = false := decide_eq_false (by omega)
 have hbe : blkF d.blocks = [] := by rw [List.eq_nil_of_length_eq_zero h0]; rfl
 have HBE := Aside0.mk hbe
 clear h0 hbe
 have HS0 : Aside0 (St w0 w gb n cap hh n (blkF d.blocks)) := ⟨by rw [HBE.out]; exact HSS.out⟩
 go_enter Tryd.func121, Tryd.ntmps121
 go_wp2_with (first | (go_at_call 130; with_reducible refine (HS0.out.enc m HM.out (by have le_ := HS0.out.le; (try simp only [List.length_append, List.length_cons, List.length_nil] at le_); have := HNN.out; have := HN2.out; omega) (by have := HN2.out; omega)).mono ?_; rintro e wa0 ⟨rfl, hS⟩; obtain ⟨J0, hJ⟩ : ∃ J : Nat, J = n - (uv m).length := ⟨_, rfl⟩; rw [← hJ] at hS ⊢; have HSa0 := Aside0.mk hS; have HJ0 := Aside0.mk (show 1 ≤ J0 by have le_ := HS0.out.le; (try simp only [List.length_append, List.length_cons, List.length_nil] at le_); have := HNN.out; have := HN2.out; omega); obtain ⟨P1, hP⟩ : ∃ P : Nat, P = J0 - 1 := ⟨_, rfl⟩; have HP0 := Aside0.mk hP; have hk0 : wrap64 ((J0 : Int) - 1) = (P1 : Int) := (by have h1 := HJ0.out; have h2 := HSa0.out.le; have h3 := HN2.out; unfold wrap64; omega); have hk0w : IntKind.i64.wrap ((J0 : Int) - 1) = (P1 : Int) := (i64_w _).trans hk0; have kq0 : ((P1 : Int) < (n : Int)) = True := eq_true (by have h1 := HJ0.out; have h2 := HSa0.out.le; omega); have kr0 : (P1 < n) = True := eq_true (by have h1 := HJ0.out; have h2 := HSa0.out.le; omega); obtain ⟨_, hx0, hf0⟩ := HSa0.out.cell P1 (by have h1 := HJ0.out; have h2 := HSa0.out.le; omega); clear hJ hP hS) | ((with_reducible refine gate_store (t := 5) (p := 117) rfl ?_); refine store_event (t := 5) (p := 117) (v := ?vo_0) (w1 := (wa0.setCell ⟨gb, P1, none⟩ (.int .u8 24))) ?hg ?ho ?hn ?hr ?_; (case ho => rfl); (case hg => rfl); (case hn => rfl); (case hr => first | (go_simp; done) | (go_simp; rfl)); intro wb0 hw; have HS1 : Aside0 (St w0 wb0 gb n cap hh P1 (24 :: (uv m ++ (blkF d.blocks)))) := ⟨by rw [hw, HP0.out]; exact HSa0.out.put HJ0.out 24⟩; clear hw hx0 hf0 kq0 kr0; clear hc0 hc1 hc2 hc3 hc4 hc5 hc6 hcT hcS; have hc0 : wb0.cell? ⟨g, 0, none⟩ = some (.pointer (some ⟨p1, 0, none⟩)) := (blk_cell (RD.out.below HS1.out.below).blk 0).trans rfl; have hc1 : wb0.cell? ⟨g, 1, none⟩ = some (.slice (some AD) xs.length cD) := (blk_cell (RD.out.below HS1.out.below).blk 1).trans rfl; have hc2 : wb0.cell? ⟨g, 2, none⟩ = some (.pointer (some ⟨bS, 0, none⟩)) := (blk_cell (RD.out.below HS1.out.below).blk 2).trans rfl; have hc3 : wb0.cell? ⟨g, 3, none⟩ = some (.slice AB d.blocks.length cB) := (blk_cell (RD.out.below HS1.out.below).blk 3).trans rfl; have hc4 : wb0.cell? ⟨g, 4, none⟩ = some (.pointer none) := (blk_cell (RD.out.below HS1.out.below).blk 4).trans rfl; have hc5 : wb0.cell? ⟨g, 5, none⟩ = some (.pointer none) := (blk_cell (RD.out.below HS1.out.below).blk 5).trans rfl; have hc6 : wb0.cell? ⟨g, 6, none⟩ = some (.slice none 0 0) := (blk_cell (RD.out.below HS1.out.below).blk 6).trans rfl; have hcT := (RD.out.below HS1.out.below).ty; have hcS := (Below.cell HS1.out.below (World.block_lt_of_cell? _ _ HCS.out)).trans HCS.out; obtain ⟨C1, hC⟩ : ∃ C : Nat, C = P1 - xs.length := ⟨_, rfl⟩; have HC1 := Aside0.mk (show C1 + xs.length = P1 by have le_ := HS1.out.le; (try simp only [List.length_append, List.length_cons, List.length_nil] at le_); have := HNN.out; have := HN2.out; omega); have hcw1 : wrap64 ((P1 : Int) - (xs.length : Int)) = (C1 : Int) := (by have h1 := HC1.out; have h2 := HS1.out.le; have h3 := HN2.out; unfold wrap64; omega); have hcv1 : IntKind.i64.wrap ((P1 : Int) - (xs.length : Int)) = (C1 : Int) := (i64_w _).trans hcw1; clear hC; have hcut1 := cut_from (P := Tryd.prog) 22 5 .i64 Tryd.underlying22 HI5.out 1 HZ5.out (some ⟨gb, 0, none⟩) n cap (C1 : Int) (by omega) (by have h1 := HC1.out; have h2 := HS1.out.le; omega); obtain ⟨DD1, hDD⟩ : ∃ D_, D_ = (if cap = (C1 : Int).toNat then some (⟨gb, 0, none⟩ : Addr) else Option.map (fun x : Addr => x.add ((C1 : Int).toNat * 1)) (some ⟨gb, 0, none⟩)) := ⟨_, rfl⟩; rw [← hDD] at hcut1; have HDD1 := Aside0.mk hDD; clear hDD; have hcl1 : (C1 : Int) ≤ (n : Int) := (by have h1 := HC1.out; have h2 := HS1.out.le; omega)))
 go_still_tail 7, (by kernel_rfl)
 change wpList _ _ _ _ _ wb0.drew
 go_wp2_with (first | ((with_reducible refine gate_builtin (b := .copy) (xs := #[.tmp 132, .tmp 136]) rfl ?_); refine (HS1.out.drew).copy rfl (.tmp 132) (.tmp 136) rfl xs (some AD) xs.length cD DD1 _ _ rfl rfl rfl (Kd.C_drew (Kd.C_below HCD.out HS1.out.below)) (fun hp => by rw [HDD1.out, show (C1 : Int) = ((P1 - xs.length : Nat) : Int) by have := HC1.out; omega]; exact cut_at (by have := HC1.out; omega) hp (by have := HS1.out.le; omega) HNC.out) (by have h1 := HC1.out; have h2 := HS1.out.le; (try simp only [Int.toNat_natCast]); omega) (by have := HC1.out; omega) ?_; intro wc1 hS; obtain ⟨P2, hP⟩ : ∃ P : Nat, P = P1 - xs.length := ⟨_, rfl⟩; rw [← hP] at hS; have HS2 := Aside0.mk hS; obtain rfl : P2 = C1 := (by have := HC1.out; omega); clear hS hP; clear hc0 hc1 hc2 hc3 hc4 hc5 hc6 hcT hcS; have hc0 : wc1.cell? ⟨g, 0, none⟩ = some (.pointer (some ⟨p1, 0, none⟩)) := (blk_cell (RD.out.below HS2.out.below).blk 0).trans rfl; have hc1 : wc1.cell? ⟨g, 1, none⟩ = some (.slice (some AD) xs.length cD) := (blk_cell (RD.out.below HS2.out.below).blk 1).trans rfl; have hc2 : wc1.cell? ⟨g, 2, none⟩ = some (.pointer (some ⟨bS, 0, none⟩)) := (blk_cell (RD.out.below HS2.out.below).blk 2).trans rfl; have hc3 : wc1.cell? ⟨g, 3, none⟩ = some (.slice AB d.blocks.length cB) := (blk_cell (RD.out.below HS2.out.below).blk 3).trans rfl; have hc4 : wc1.cell? ⟨g, 4, none⟩ = some (.pointer none) := (blk_cell (RD.out.below HS2.out.below).blk 4).trans rfl; have hc5 : wc1.cell? ⟨g, 5, none⟩ = some (.pointer none) := (blk_cell (RD.out.below HS2.out.below).blk 5).trans rfl; have hc6 : wc1.cell? ⟨g, 6, none⟩ = some (.slice none 0 0) := (blk_cell (RD.out.below HS2.out.below).blk 6).trans rfl; have hcT := (RD.out.below HS2.out.below).ty; have hcS := (Below.cell HS2.out.below (World.block_lt_of_cell? _ _ HCS.out)).trans HCS.out) | (go_at_call 130; with_reducible refine (HS2.out.enc xs.length (by have := HXL.out; omega) (by have le_ := HS2.out.le; (try simp only [List.length_append, List.length_cons, List.length_nil] at le_); have := HNN.out; have := HN2.out; omega) (by have := HN2.out; omega)).mono ?_; rintro e wa2 ⟨rfl, hS⟩; obtain ⟨J2, hJ⟩ : ∃ J : Nat, J = P2 - (uv xs.length).length := ⟨_, rfl⟩; rw [← hJ] at hS ⊢; have HSa2 := Aside0.mk hS; have HJ2 := Aside0.mk (show 1 ≤ J2 by have le_ := HS2.out.le; (try simp only [List.length_append, List.length_cons, List.length_nil] at le_); have := HNN.out; have := HN2.out; omega); obtain ⟨P3, hP⟩ : ∃ P : Nat, P = J2 - 1 := ⟨_, rfl⟩; have HP2 := Aside0.mk hP; have hk2 : wrap64 ((J2 : Int) - 1) = (P3 : Int) := (by have h1 := HJ2.out; have h2 := HSa2.out.le; have h3 := HN2.out; unfold wrap64; omega); have hk2w : IntKind.i64.wrap ((J2 : Int) - 1) = (P3 : Int) := (i64_w _).trans hk2; have kq2 : ((P3 : Int) < (n : Int)) = True := eq_true (by have h1 := HJ2.out; have h2 := HSa2.out.le; omega); have kr2 : (P3 < n) = True := eq_true (by have h1 := HJ2.out; have h2 := HSa2.out.le; omega); obtain ⟨_, hx2, hf2⟩ := HSa2.out.cell P3 (by have h1 := HJ2.out; have h2 := HSa2.out.le; omega); clear hJ hP hS) | ((with_reducible refine gate_store (t := 5) (p := 151) rfl ?_); refine store_event (t := 5) (p := 151) (v := ?vo_2) (w1 := (wa2.setCell ⟨gb, P3, none⟩ (.int .u8 18))) ?hg ?ho ?hn ?hr ?_; (case ho => rfl); (case hg => rfl); (case hn => rfl); (case hr => first | (go_simp; done) | (go_simp; rfl)); intro wb2 hw; have HS3 : Aside0 (St w0 wb2 gb n cap hh P3 (18 :: (uv xs.length ++ (xs ++ (24 :: (uv m ++ (blkF d.blocks))))))) := ⟨by rw [hw, HP2.out]; exact HSa2.out.put HJ2.out 18⟩; clear hw hx2 hf2 kq2 kr2; clear hc0 hc1 hc2 hc3 hc4 hc5 hc6 hcT hcS; have hc0 : wb2.cell? ⟨g, 0, none⟩ = some (.pointer (some ⟨p1, 0, none⟩)) := (blk_cell (RD.out.below HS3.out.below).blk 0).trans rfl; have hc1 : wb2.cell? ⟨g, 1, none⟩ = some (.slice (some AD) xs.length cD) := (blk_cell (RD.out.below HS3.out.below).blk 1).trans rfl; have hc2 : wb2.cell? ⟨g, 2, none⟩ = some (.pointer (some ⟨bS, 0, none⟩)) := (blk_cell (RD.out.below HS3.out.below).blk 2).trans rfl; have hc3 : wb2.cell? ⟨g, 3, none⟩ = some (.slice AB d.blocks.length cB) := (blk_cell (RD.out.below HS3.out.below).blk 3).trans rfl; have hc4 : wb2.cell? ⟨g, 4, none⟩ = some (.pointer none) := (blk_cell (RD.out.below HS3.out.below).blk 4).trans rfl; have hc5 : wb2.cell? ⟨g, 5, none⟩ = some (.pointer none) := (blk_cell (RD.out.below HS3.out.below).blk 5).trans rfl; have hc6 : wb2.cell? ⟨g, 6, none⟩ = some (.slice none 0 0) := (blk_cell (RD.out.below HS3.out.below).blk 6).trans rfl; have hcT := (RD.out.below HS3.out.below).ty; have hcS := (Below.cell HS3.out.below (World.block_lt_of_cell? _ _ HCS.out)).trans HCS.out) | (go_at_call 130; with_reducible refine (HS3.out.enc d.ty (by have := FT.out.ty; omega) (by have le_ := HS3.out.le; (try simp only [List.length_append, List.length_cons, List.length_nil] at le_); have := HNN.out; have := HN2.out; omega) (by have := HN2.out; omega)).mono ?_; rintro e wa3 ⟨rfl, hS⟩; obtain ⟨J3, hJ⟩ : ∃ J : Nat, J = P3 - (uv d.ty).length := ⟨_, rfl⟩; rw [← hJ] at hS ⊢; have HSa3 := Aside0.mk hS; have HJ3 := Aside0.mk (show 1 ≤ J3 by have le_ := HS3.out.le; (try simp only [List.length_append, List.length_cons, List.length_nil] at le_); have := HNN.out; have := HN2.out; omega); obtain ⟨P4, hP⟩ : ∃ P : Nat, P = J3 - 1 := ⟨_, rfl⟩; have HP3 := Aside0.mk hP; have hk3 : wrap64 ((J3 : Int) - 1) = (P4 : Int) := (by have h1 := HJ3.out; have h2 := HSa3.out.le; have h3 := HN2.out; unfold wrap64; omega); have hk3w : IntKind.i64.wrap ((J3 : Int) - 1) = (P4 : Int) := (i64_w _).trans hk3; have kq3 : ((P4 : Int) < (n : Int)) = True := eq_true (by have h1 := HJ3.out; have h2 := HSa3.out.le; omega); have kr3 : (P4 < n) = True := eq_true (by have h1 := HJ3.out; have h2 := HSa3.out.le; omega); obtain ⟨_, hx3, hf3⟩ := HSa3.out.cell P4 (by have h1 := HJ3.out; have h2 := HSa3.out.le; omega); clear hJ hP hS) | ((with_reducible refine gate_store (t := 5) (p := 172) rfl ?_); refine store_event (t := 5) (p := 172) (v := ?vo_3) (w1 := (wa3.setCell ⟨gb, P4, none⟩ (.int .u8 8))) ?hg ?ho ?hn ?hr ?_; (case ho => rfl); (case hg => rfl); (case hn => rfl); (case hr => first | (go_simp; done) | (go_simp; rfl)); intro wb3 hw; have HS4 : Aside0 (St w0 wb3 gb n cap hh P4 (8 :: (uv d.ty ++ (18 :: (uv xs.length ++ (xs ++ (24 :: (uv m ++ (blkF d.blocks))))))))) := ⟨by rw [hw, HP3.out]; exact HSa3.out.put HJ3.out 8⟩; clear hw hx3 hf3 kq3 kr3; clear hc0 hc1 hc2 hc3 hc4 hc5 hc6 hcT hcS; have hc0 : wb3.cell? ⟨g, 0, none⟩ = some (.pointer (some ⟨p1, 0, none⟩)) := (blk_cell (RD.out.below HS4.out.below).blk 0).trans rfl; have hc1 : wb3.cell? ⟨g, 1, none⟩ = some (.slice (some AD) xs.length cD) := (blk_cell (RD.out.below HS4.out.below).blk 1).trans rfl; have hc2 : wb3.cell? ⟨g, 2, none⟩ = some (.pointer (some ⟨bS, 0, none⟩)) := (blk_cell (RD.out.below HS4.out.below).blk 2).trans rfl; have hc3 : wb3.cell? ⟨g, 3, none⟩ = some (.slice AB d.blocks.length cB) := (blk_cell (RD.out.below HS4.out.below).blk 3).trans rfl; have hc4 : wb3.cell? ⟨g, 4, none⟩ = some (.pointer none) := (blk_cell (RD.out.below HS4.out.below).blk 4).trans rfl; have hc5 : wb3.cell? ⟨g, 5, none⟩ = some (.pointer none) := (blk_cell (RD.out.below HS4.out.below).blk 5).trans rfl; have hc6 : wb3.cell? ⟨g, 6, none⟩ = some (.slice none 0 0) := (blk_cell (RD.out.below HS4.out.below).blk 6).trans rfl; have hcT := (RD.out.below HS4.out.below).ty; have hcS := (Below.cell HS4.out.below (World.block_lt_of_cell? _ _ HCS.out)).trans HCS.out; have hkz : wrap64 ((n : Int) - (P4 : Int)) = (n : Int) := (by have le_ := HS4.out.le; (try simp only [List.length_append, List.length_cons, List.length_nil] at le_); have := HNN.out; have := HN2.out; unfold wrap64; omega); have hkzw : IntKind.i64.wrap ((n : Int) - (P4 : Int)) = (n : Int) := (i64_w _).trans hkz))
 go_ret2
 have hz_ : P4 = 0 := (by have le_ := HS4.out.le; (try simp only [List.length_append, List.length_cons, List.length_nil] at le_); have := HNN.out; omega)
 have hS := HS4.out
 rw [hz_] at hS
 refine ⟨?_, ?_⟩
 ·first | rfl | (simp; done)
 ·rw [HMA.out]
  simpa only [List.nil_append, List.append_nil, List.cons_append, List.append_assoc] using hS
set_option maxHeartbeats 40000000 in
set_option maxRecDepth 100000 in
theorem Mts_011 (w0 w : World) (g p1 : Nat) (d : Dat) (vD v3 vB : Value) (t : TypeId) (h : RdDat w0 g d p1 vD v3 vB t) (hf : Fit d) (gb n cap : Nat) (hh : Array Obj) (hst : St w0 w gb n cap hh n []) (hn : n = (marsh d).length) (hnc : n ≤ cap) (hd : d.data = none) (m : Nat) (hs : d.size = some m) (h0 : 0 < d.blocks.length) :
  Calls Tryd.prog 121 #[.pointer (some ⟨g, 0, none⟩), .slice (some ⟨gb, 0, none⟩) n cap] w fun e w' => e = .returned (.tuple #[.int .i64 (n : Int), .nilIface]) ∧ St w0 w' gb n cap hh 0 (marsh d) := by
 obtain ⟨AB, cB, rfl, hlB, hCB⟩ := h.blks
 have hn2 : n ≤ 40000000 := by rw [hn]; unfold marsh; rw [hd, hs]; have h1 := uv_len d.ty (by have := hf.ty; omega); have h2 := blkF_len d.blocks hf.blks; have h3 := hf.many; simp only [List.length_append, List.length_cons, dataF, sizeF, List.length_nil]; have h6 := uv_len m (hf.size m hs); omega
 obtain rfl := h.data0 hd
 obtain ⟨bS, rfl, hcS⟩ := h.size1 m hs
 have HCS := Aside0.mk hcS
 have HM := Aside0.mk (hf.size m hs)
 clear hcS
 have FT := Aside0.mk hf
 have RD := Aside0.mk h
 have HN2 := Aside0.mk hn2
 have HNC := Aside0.mk hnc
 have HCB := Aside0.mk hCB
 have H0 := Aside0.mk h0
 have HNN := Aside0.mk (show n = 1 + (uv d.ty).length + (1 + (uv m).length) + (blkF d.blocks).length by rw [hn]; unfold marsh; rw [hd, hs]; simp only [List.length_append, List.length_cons, List.length_nil, dataF, sizeF]; omega)
 have HMA := Aside0.mk (show marsh d = (8 :: uv d.ty) ++ ([] ++ ((24 :: uv m) ++ blkF d.blocks)) by unfold marsh; rw [hd, hs]; rfl)
 have hq1 : IntKind.u64.wrap (d.ty : Int) = (d.ty : Int) := by have := hf.ty; unfold IntKind.wrap; simp [IntKind.bits, IntKind.signed]; omega
 have HSS := Aside0.mk hst
 have hc0 : w.cell? ⟨g, 0, none⟩ = some (.pointer (some ⟨p1, 0, none⟩)) := (blk_cell (RD.out.below HSS.out.below).blk 0).trans rfl
 have hc1 : w.cell? ⟨g, 1, none⟩ = some (.slice none 0 0) := (blk_cell (RD.out.below HSS.out.below).blk 1).trans rfl
 have hc2 : w.cell? ⟨g, 2, none⟩ = some (.pointer (some ⟨bS, 0, none⟩)) := (blk_cell (RD.out.below HSS.out.below).blk 2).trans rfl
 have hc3 : w.cell? ⟨g, 3, none⟩ = some (.slice AB d.blocks.length cB) := (blk_cell (RD.out.below HSS.out.below).blk 3).trans rfl
 have hc4 : w.cell? ⟨g, 4, none⟩ = some (.pointer none) := (blk_cell (RD.out.below HSS.out.below).blk 4).trans rfl
 have hc5 : w.cell? ⟨g, 5, none⟩ = some (.pointer none) := (blk_cell (RD.out.below HSS.out.below).blk 5).trans rfl
 have hc6 : w.cell? ⟨g, 6, none⟩ = some (.slice none 0 0) := (blk_cell (RD.out.below HSS.out.below).blk 6).trans rfl
 have hcT := (RD.out.below HSS.out.below).ty
 have hcS := (Below.cell HSS.out.below (World.block_lt_of_cell? _ _ HCS.out)).trans HCS.out
 clear hn2 hst hn hnc h hf hCB hlB hd hs
 have q0 : decide ((0 : Int) < (d.blocks.length : Int)) = true := decide_eq_true (by omega)
 have q0n : decide (0 < d.blocks.length) = true := decide_eq_true (by omega)
 obtain ⟨x1, hx1⟩ : ∃ x : Int, wrap64 ((d.blocks.length : Int) - 1) = x := ⟨_, rfl⟩
 have hx1w : IntKind.i64.wrap ((d.blocks.length : Int) - 1) = x1 := (i64_w _).trans hx1
 have X1 := Aside0.mk (show x1 = (d.blocks.length : Int) - 1 by have := FT.out.many; rw [← hx1]; unfold wrap64; omega)
 clear h0
 go_enter Tryd.func121, Tryd.ntmps121
 go_wp2_with fail
 go_loopg [6, 7] d.blocks.length (fun kq v6 v7 w' => ∃ (P : Nat) (i : Int), v6 = .int .i64 (P : Int) ∧ v7 = .int .i64 i ∧ Aside0 (∃ j : Nat, i = (j : Int) - 1 ∧ j = kq ∧ j ≤ d.blocks.length ∧ St w0 w' gb n cap hh P (blkF (d.blocks.drop j))))
 case atStart => exact ⟨_, _, rfl, rfl, ⟨d.blocks.length, X1.out, rfl, Nat.le_refl _, by rw [List.drop_length]; exact HSS.out⟩⟩
 case round =>
  obtain ⟨P50, i, rfl, rfl, HJ⟩ := hrel
  obtain ⟨j, hij, hjk, hjl, hS50⟩ := HJ.out
  have HS50 := Aside0.mk hS50
  have HIJ := Aside0.mk hij
  clear hc0 hc1 hc2 hc3 hc4 hc5 hc6 hcT hcS
  have hc0 : wr.cell? ⟨g, 0, none⟩ = some (.pointer (some ⟨p1, 0, none⟩)) := (blk_cell (RD.out.below HS50.out.below).blk 0).trans rfl
  have hc1 : wr.cell? ⟨g, 1, none⟩ = some (.slice none 0 0) := (blk_cell (RD.out.below HS50.out.below).blk 1).trans rfl
  have hc2 : wr.cell? ⟨g, 2, none⟩ = some (.pointer (some ⟨bS, 0, none⟩)) := (blk_cell (RD.out.below HS50.out.below).blk 2).trans rfl
  have hc3 : wr.cell? ⟨g, 3, none⟩ = some (.slice AB d.blocks.length cB) := (blk_cell (RD.out.below HS50.out.below).blk 3).trans rfl
  have hc4 : wr.cell? ⟨g, 4, none⟩ = some (.pointer none) := (blk_cell (RD.out.below HS50.out.below).blk 4).trans rfl
  have hc5 : wr.cell? ⟨g, 5, none⟩ = some (.pointer none) := (blk_cell (RD.out.below HS50.out.below).blk 5).trans rfl
  have hc6 : wr.cell? ⟨g, 6, none⟩ = some (.slice none 0 0) := (blk_cell (RD.out.below HS50.out.below).blk 6).trans rfl
  have hcT := (RD.out.below HS50.out.below).ty
  have hcS := (Below.cell HS50.out.below (World.block_lt_of_cell? _ _ HCS.out)).trans HCS.out
  by_cases hi : (0 : Int) ≤ i
  ·have q1 : decide ((0 : Int) ≤ i) = true := decide_eq_true hi
   have hi1 : i < (d.blocks.length : Int) := by omega
   obtain ⟨ad, eA, hx⟩ := Kd.at_int (Kd.C_below HCB.out HS50.out.below) i hi hi1
   subst eA
   have p1_ := eq_true hi
   have p2_ := eq_true hi1
   have hr := rd_fit FT.out i
   obtain ⟨v, hv⟩ : ∃ v : Nat, rd d.blocks i = (v : Int) := ⟨(rd d.blocks i).toNat, by omega⟩
   rw [hv] at hx
   have HV := Aside0.mk (show v < 2 ^ 64 by omega)
   have hbb : blkF (d.blocks.drop (j - 1)) = 32 :: (uv v ++ blkF (d.blocks.drop j)) := by rw [blkF_drop d.blocks j (by omega) hjl, show ((j - 1 : Nat) : Int) = i by omega, hv]; rfl
   have HBB := Aside0.mk hbb
   have hll : (blkF (d.blocks.drop (j - 1))).length ≤ (blkF d.blocks).length := blkF_drop_le _ _
   rw [hbb] at hll
   simp only [List.length_cons, List.length_append] at hll
   have HLL := Aside0.mk hll
   obtain ⟨i5, hi5⟩ : ∃ x : Int, wrap64 (i - 1) = x := ⟨_, rfl⟩
   have hi5w : IntKind.i64.wrap (i - 1) = i5 := (i64_w _).trans hi5
   have I5 := Aside0.mk (show i5 = i - 1 by have := FT.out.many; rw [← hi5]; unfold wrap64; omega)
   have HJK := Aside0.mk (show j = gk ∧ j ≤ d.blocks.length from ⟨hjk, hjl⟩)
   have HI := Aside0.mk hi
   clear hi hr hv hll hbb hS50 HJ hij hi1 hjk hjl
   go_wp2_with (first | (go_at_call 130; with_reducible refine (HS50.out.enc v HV.out (by have le_ := HS50.out.le; (try simp only [List.length_append, List.length_cons, List.length_nil] at le_); have := HNN.out; have := HN2.out; have := HLL.out; omega) (by have := HN2.out; omega)).mono ?_; rintro e wa50 ⟨rfl, hS⟩; obtain ⟨J50, hJ⟩ : ∃ J : Nat, J = P50 - (uv v).length := ⟨_, rfl⟩; rw [← hJ] at hS ⊢; have HSa50 := Aside0.mk hS; have HJ50 := Aside0.mk (show 1 ≤ J50 by have le_ := HS50.out.le; (try simp only [List.length_append, List.length_cons, List.length_nil] at le_); have := HNN.out; have := HN2.out; have := HLL.out; omega); obtain ⟨P51, hP⟩ : ∃ P : Nat, P = J50 - 1 := ⟨_, rfl⟩; have HP50 := Aside0.mk hP; have hk50 : wrap64 ((J50 : Int) - 1) = (P51 : Int) := (by have h1 := HJ50.out; have h2 := HSa50.out.le; have h3 := HN2.out; unfold wrap64; omega); have hk50w : IntKind.i64.wrap ((J50 : Int) - 1) = (P51 : Int) := (i64_w _).trans hk50; have kq50 : ((P51 : Int) < (n : Int)) = True := eq_true (by have h1 := HJ50.out; have h2 := HSa50.out.le; omega); have kr50 : (P51 < n) = True := eq_true (by have h1 := HJ50.out; have h2 := HSa50.out.le; omega); obtain ⟨_, hx50, hf50⟩ := HSa50.out.cell P51 (by have h1 := HJ50.out; have h2 := HSa50.out.le; omega); clear hJ hP hS) | ((with_reducible refine gate_store (t := 5) (p := 98) rfl ?_); refine store_event (t := 5) (p := 98) (v := ?vo_50) (w1 := (wa50.setCell ⟨gb, P51, none⟩ (.int .u8 32))) ?hg ?ho ?hn ?hr ?_; (case ho => rfl); (case hg => rfl); (case hn => rfl); (case hr => first | (go_simp; done) | (go_simp; rfl)); intro wb50 hw; have HS51 : Aside0 (St w0 wb50 gb n cap hh P51 (32 :: (uv v ++ (blkF (d.blocks.drop j))))) := ⟨by rw [hw, HP50.out]; exact HSa50.out.put HJ50.out 32⟩; clear hw hx50 hf50 kq50 kr50; clear hc0 hc1 hc2 hc3 hc4 hc5 hc6 hcT hcS; have hc0 : wb50.cell? ⟨g, 0, none⟩ = some (.pointer (some ⟨p1, 0, none⟩)) := (blk_cell (RD.out.below HS51.out.below).blk 0).trans rfl; have hc1 : wb50.cell? ⟨g, 1, none⟩ = some (.slice none 0 0) := (blk_cell (RD.out.below HS51.out.below).blk 1).trans rfl; have hc2 : wb50.cell? ⟨g, 2, none⟩ = some (.pointer (some ⟨bS, 0, none⟩)) := (blk_cell (RD.out.below HS51.out.below).blk 2).trans rfl; have hc3 : wb50.cell? ⟨g, 3, none⟩ = some (.slice (some ad) d.blocks.length cB) := (blk_cell (RD.out.below HS51.out.below).blk 3).trans rfl; have hc4 : wb50.cell? ⟨g, 4, none⟩ = some (.pointer none) := (blk_cell (RD.out.below HS51.out.below).blk 4).trans rfl; have hc5 : wb50.cell? ⟨g, 5, none⟩ = some (.pointer none) := (blk_cell (RD.out.below HS51.out.below).blk 5).trans rfl; have hc6 : wb50.cell? ⟨g, 6, none⟩ = some (.slice none 0 0) := (blk_cell (RD.out.below HS51.out.below).blk 6).trans rfl; have hcT := (RD.out.below HS51.out.below).ty; have hcS := (Below.cell HS51.out.below (World.block_lt_of_cell? _ _ HCS.out)).trans HCS.out; clear hx))
   go_roundg (gk - 1)
   case measure => have := HJK.out; have := HIJ.out; have := HI.out; omega
   case rel =>
    have h1 := HJK.out; have h2 := HIJ.out; have h3 := HI.out
    refine ⟨_, _, rfl, rfl, ⟨j - 1, by rw [I5.out]; omega, by omega, by omega, ?_⟩⟩
    rw [HBB.out]
    exact HS51.out
  ·have q1 : decide ((0 : Int) ≤ i) = false := decide_eq_false hi
   have hj0 : j = 0 := by omega
   rw [hj0, List.drop_zero] at hS50
   have HS0 := Aside0.mk hS50
   clear hi hj0 hS50 HJ hij hjk hjl HS50
   go_wp2_with (first | (go_at_call 130; with_reducible refine (HS0.out.enc m HM.out (by have le_ := HS0.out.le; (try simp only [List.length_append, List.length_cons, List.length_nil] at le_); have := HNN.out; have := HN2.out; omega) (by have := HN2.out; omega)).mono ?_; rintro e wa0 ⟨rfl, hS⟩; obtain ⟨J0, hJ⟩ : ∃ J : Nat, J = P50 - (uv m).length := ⟨_, rfl⟩; rw [← hJ] at hS ⊢; have HSa0 := Aside0.mk hS; have HJ0 := Aside0.mk (show 1 ≤ J0 by have le_ := HS0.out.le; (try simp only [List.length_append, List.length_cons, List.length_nil] at le_); have := HNN.out; have := HN2.out; omega); obtain ⟨P1, hP⟩ : ∃ P : Nat, P = J0 - 1 := ⟨_, rfl⟩; have HP0 := Aside0.mk hP; have hk0 : wrap64 ((J0 : Int) - 1) = (P1 : Int) := (by have h1 := HJ0.out; have h2 := HSa0.out.le; have h3 := HN2.out; unfold wrap64; omega); have hk0w : IntKind.i64.wrap ((J0 : Int) - 1) = (P1 : Int) := (i64_w _).trans hk0; have kq0 : ((P1 : Int) < (n : Int)) = True := eq_true (by have h1 := HJ0.out; have h2 := HSa0.out.le; omega); have kr0 : (P1 < n) = True := eq_true (by have h1 := HJ0.out; have h2 := HSa0.out.le; omega); obtain ⟨_, hx0, hf0⟩ := HSa0.out.cell P1 (by have h1 := HJ0.out; have h2 := HSa0.out.le; omega); clear hJ hP hS) | ((with_reducible refine gate_store (t := 5) (p := 117) rfl ?_); refine store_event (t := 5) (p := 117) (v := ?vo_0) (w1 := (wa0.setCell ⟨gb, P1, none⟩ (.int .u8 24))) ?hg ?ho ?hn ?hr ?_; (case ho => rfl); (case hg => rfl); (case hn => rfl); (case hr => first | (go_simp; done) | (go_simp; rfl)); intro wb0 hw; have HS1 : Aside0 (St w0 wb0 gb n cap hh P1 (24 :: (uv m ++ (blkF d.blocks)))) := ⟨by rw [hw, HP0.out]; exact HSa0.out.put HJ0.out 24⟩; clear hw hx0 hf0 kq0 kr0; clear hc0 hc1 hc2 hc3 hc4 hc5 hc6 hcT hcS; have hc0 : wb0.cell? ⟨g, 0, none⟩ = some (.pointer (some ⟨p1, 0, none⟩)) := (blk_cell (RD.out.below HS1.out.below).blk 0).trans rfl; have hc1 : wb0.cell? ⟨g, 1, none⟩ = some (.slice none 0 0) := (blk_cell (RD.out.below HS1.out.below).blk 1).trans rfl; have hc2 : wb0.cell? ⟨g, 2, none⟩ = some (.pointer (some ⟨bS, 0, none⟩)) := (blk_cell (RD.out.below HS1.out.below).blk 2).trans rfl; have hc3 : wb0.cell? ⟨g, 3, none⟩ = some (.slice AB d.blocks.length cB) := (blk_cell (RD.out.below HS1.out.below).blk 3).trans rfl; have hc4 : wb0.cell? ⟨g, 4, none⟩ = some (.pointer none) := (blk_cell (RD.out.below HS1.out.below).blk 4).trans rfl; have hc5 : wb0.cell? ⟨g, 5, none⟩ = some (.pointer none) := (blk_cell (RD.out.below HS1.out.below).blk 5).trans rfl; have hc6 : wb0.cell? ⟨g, 6, none⟩ = some (.slice none 0 0) := (blk_cell (RD.out.below HS1.out.below).blk 6).trans rfl; have hcT := (RD.out.below HS1.out.below).ty; have hcS := (Below.cell HS1.out.below (World.block_lt_of_cell? _ _ HCS.out)).trans HCS.out) | (go_at_call 130; with_reducible refine (HS1.out.enc d.ty (by have := FT.out.ty; omega) (by have le_ := HS1.out.le; (try simp only [List.length_append, List.length_cons, List.length_nil] at le_); have := HNN.out; have := HN2.out; omega) (by have := HN2.out; omega)).mono ?_; rintro e wa1 ⟨rfl, hS⟩; obtain ⟨J1, hJ⟩ : ∃ J : Nat, J = P1 - (uv d.ty).length := ⟨_, rfl⟩; rw [← hJ] at hS ⊢; have HSa1 := Aside0.mk hS; have HJ1 := Aside0.mk (show 1 ≤ J1 by have le_ := HS1.out.le; (try simp only [List.length_append, List.length_cons, List.length_nil] at le_); have := HNN.out; have := HN2.out; omega); obtain ⟨P2, hP⟩ : ∃ P : Nat, P = J1 - 1 := ⟨_, rfl⟩; have HP1 := Aside0.mk hP; have hk1 : wrap64 ((J1 : Int) - 1) = (P2 : Int) := (by have h1 := HJ1.out; have h2 := HSa1.out.le; have h3 := HN2.out; unfold wrap64; omega); have hk1w : IntKind.i64.wrap ((J1 : Int) - 1) = (P2 : Int) := (i64_w _).trans hk1; have kq1 : ((P2 : Int) < (n : Int)) = True := eq_true (by have h1 := HJ1.out; have h2 := HSa1.out.le; omega); have kr1 : (P2 < n) = True := eq_true (by have h1 := HJ1.out; have h2 := HSa1.out.le; omega); obtain ⟨_, hx1, hf1⟩ := HSa1.out.cell P2 (by have h1 := HJ1.out; have h2 := HSa1.out.le; omega); clear hJ hP hS) | ((with_reducible refine gate_store (t := 5) (p := 172) rfl ?_); refine store_event (t := 5) (p := 172) (v := ?vo_1) (w1 := (wa1.setCell ⟨gb, P2, none⟩ (.int .u8 8))) ?hg ?ho ?hn ?hr ?_; (case ho => rfl); (case hg => rfl); (case hn => rfl); (case hr => first | (go_simp; done) | (go_simp; rfl)); intro wb1 hw; have HS2 : Aside0 (St w0 wb1 gb n cap hh P2 (8 :: (uv d.ty ++ (24 :: (uv m ++ (blkF d.blocks)))))) := ⟨by rw [hw, HP1.out]; exact HSa1.out.put HJ1.out 8⟩; clear hw hx1 hf1 kq1 kr1; clear hc0 hc1 hc2 hc3 hc4 hc5 hc6 hcT hcS; have hc0 : wb1.cell? ⟨g, 0, none⟩ = some (.pointer (some ⟨p1, 0, none⟩)) := (blk_cell (RD.out.below HS2.out.below).blk 0).trans rfl; have hc1 : wb1.cell? ⟨g, 1, none⟩ = some (.slice none 0 0) := (blk_cell (RD.out.below HS2.out.below).blk 1).trans rfl; have hc2 : wb1.cell? ⟨g, 2, none⟩ = some (.pointer (some ⟨bS, 0, none⟩)) := (blk_cell (RD.out.below HS2.out.below).blk 2).trans rfl; have hc3 : wb1.cell? ⟨g, 3, none⟩ = some (.slice AB d.blocks.length cB) := (blk_cell (RD.out.below HS2.out.below).blk 3).trans rfl; have hc4 : wb1.cell? ⟨g, 4, none⟩ = some (.pointer none) := (blk_cell (RD.out.below HS2.out.below).blk 4).trans rfl; have hc5 : wb1.cell? ⟨g, 5, none⟩ = some (.pointer none) := (blk_cell (RD.out.below HS2.out.below).blk 5).trans rfl; have hc6 : wb1.cell? ⟨g, 6, none⟩ = some (.slice none 0 0) := (blk_cell (RD.out.below HS2.out.below).blk 6).trans rfl; have hcT := (RD.out.below HS2.out.below).ty; have hcS := (Below.cell HS2.out.below (World.block_lt_of_cell? _ _ HCS.out)).trans HCS.out; have hkz : wrap64 ((n : Int) - (P2 : Int)) = (n : Int) := (by have le_ := HS2.out.le; (try simp only [List.length_append, List.length_cons, List.length_nil] at le_); have := HNN.out; have := HN2.out; unfold wrap64; omega); have hkzw : IntKind.i64.wrap ((n : Int) - (P2 : Int)) = (n : Int) := (i64_w _).trans hkz))
   go_ret2
   have hz_ : P2 = 0 := (by have le_ := HS2.out.le; (try simp only [List.length_append, List.length_cons, List.length_nil] at le_); have := HNN.out; omega)
   have hS := HS2.out
   rw [hz_] at hS
   refine ⟨?_, ?_⟩
   ·first | rfl | (simp; done)
   ·rw [HMA.out]
    simpa only [List.nil_append, List.append_nil, List.cons_append, List.append_assoc] using hS
set_option maxHeartbeats 40000000 in
set_option maxRecDepth 100000 in
theorem Mts_111 (w0 w : World) (g p1 : Nat) (d : Dat) (vD v3 vB : Value) (t : TypeId) (h : RdDat w0 g d p1 vD v3 vB t) (hf : Fit d) (gb n cap : Nat) (hh : Array Obj) (hst : St w0 w gb n cap hh n []) (hn : n = (marsh d).length) (hnc : n ≤ cap) (xs : List Int) (hd : d.data = some xs) (m : Nat) (hs : d.size = some m) (h0 : 0 < d.blocks.length) :
  Calls Tryd.prog 121 #[.pointer (some ⟨g, 0, none⟩), .slice (some ⟨gb, 0, none⟩) n cap] w fun e w' => e = .returned (.tuple #[.int .i64 (n : Int), .nilIface]) ∧ St w0 w' gb n cap hh 0 (marsh d) := by
 obtain ⟨AB, cB, rfl, hlB, hCB⟩ := h.blks
 have hn2 : n ≤ 40000000 := by rw [hn]; unfold marsh; rw [hd, hs]; have h1 := uv_len d.ty (by have := hf.ty; omega); have h2 := blkF_len d.blocks hf.blks; have h3 := hf.many; simp only [List.length_append, List.length_cons, dataF, sizeF, List.length_nil]; have h4 := hf.data xs hd; have h5 := uv_len xs.length (by omega); have h6 := uv_len m (hf.size m hs); omega
 obtain ⟨AD, cD, rfl, hlD, hCD⟩ := h.data1 xs hd
 have HCD := Aside0.mk hCD
 have HXL := Aside0.mk (hf.data xs hd)
 obtain ⟨bS, rfl, hcS⟩ := h.size1 m hs
 have HCS := Aside0.mk hcS
 have HM := Aside0.mk (hf.size m hs)
 clear hcS
 have FT := Aside0.mk hf
 have RD := Aside0.mk h
 have HN2 := Aside0.mk hn2
 have HNC := Aside0.mk hnc
 have HCB := Aside0.mk hCB
 have H0 := Aside0.mk h0
 have HNN := Aside0.mk (show n = 1 + (uv d.ty).length + (1 + (uv xs.length).length + xs.length) + (1 + (uv m).length) + (blkF d.blocks).length by rw [hn]; unfold marsh; rw [hd, hs]; simp only [List.length_append, List.length_cons, List.length_nil, dataF, sizeF]; omega)
 have HMA := Aside0.mk (show marsh d = (8 :: uv d.ty) ++ ((18 :: (uv xs.length ++ xs)) ++ ((24 :: uv m) ++ blkF d.blocks)) by unfold marsh; rw [hd, hs]; rfl)
 have hq1 : IntKind.u64.wrap (d.ty : Int) = (d.ty : Int) := by have := hf.ty; unfold IntKind.wrap; simp [IntKind.bits, IntKind.signed]; omega
 have hq2 : IntKind.u64.wrap (xs.length : Int) = (xs.length : Int) := by have := hf.data xs hd; unfold IntKind.wrap; simp [IntKind.bits, IntKind.signed]; omega
 obtain ⟨i05, hi05, hsz5⟩ : ∃ i, Tryd.prog.info? 5 = some i ∧ i.size = 1 := Option.map_eq_some_iff.1 (show (Tryd.prog.info? 5).map (·.size) = some 1 by kernel_rfl)
 have HI5 := Aside0.mk hi05
 have HZ5 := Aside0.mk hsz5
 have HSS := Aside0.mk hst
 have hc0 : w.cell? ⟨g, 0, none⟩ = some (.pointer (some ⟨p1, 0, none⟩)) := (blk_cell (RD.out.below HSS.out.below).blk 0).trans rfl
 have hc1 : w.cell? ⟨g, 1, none⟩ = some (.slice (some AD) xs.length cD) := (blk_cell (RD.out.below HSS.out.below).blk 1).trans rfl
 have hc2 : w.cell? ⟨g, 2, none⟩ = some (.pointer (some ⟨bS, 0, none⟩)) := (blk_cell (RD.out.below HSS.out.below).blk 2).trans rfl
 have hc3 : w.cell? ⟨g, 3, none⟩ = some (.slice AB d.blocks.length cB) := (blk_cell (RD.out.below HSS.out.below).blk 3).trans rfl
 have hc4 : w.cell? ⟨g, 4, none⟩ = some (.pointer none) := (blk_cell (RD.out.below HSS.out.below).blk 4).trans rfl
 have hc5 : w.cell? ⟨g, 5, none⟩ = some (.pointer none) := (blk_cell (RD.out.below HSS.out.below).blk 5).trans rfl
 have hc6 : w.cell? ⟨g, 6, none⟩ = some (.slice none 0 0) := (blk_cell (RD.out.below HSS.out.below).blk 6).trans rfl
 have hcT := (RD.out.below HSS.out.below).ty
 have hcS := (Below.cell HSS.out.below (World.block_lt_of_cell? _ _ HCS.out)).trans HCS.out
 clear hn2 hst hn hnc h hf hCB hlB hd hs hCD hlD hi05 hsz5
 have q0 : decide ((0 : Int) < (d.blocks.length : Int)) = true := decide_eq_true (by omega)
 have q0n : decide (0 < d.blocks.length) = true := decide_eq_true (by omega)
 obtain ⟨x1, hx1⟩ : ∃ x : Int, wrap64 ((d.blocks.length : Int) - 1) = x := ⟨_, rfl⟩
 have hx1w : IntKind.i64.wrap ((d.blocks.length : Int) - 1) = x1 := (i64_w _).trans hx1
 have X1 := Aside0.mk (show x1 = (d.blocks.length : Int) - 1 by have := FT.out.many; rw [← hx1]; unfold wrap64; omega)
 clear h0
 go_enter Tryd.func121, Tryd.ntmps121
 go_wp2_with fail
 go_loopg [6, 7] d.blocks.length (fun kq v6 v7 w' => ∃ (P : Nat) (i : Int), v6 = .int .i64 (P : Int) ∧ v7 = .int .i64 i ∧ Aside0 (∃ j : Nat, i = (j : Int) - 1 ∧ j = kq ∧ j ≤ d.blocks.length ∧ St w0 w' gb n cap hh P (blkF (d.blocks.drop j))))
 case atStart => exact ⟨_, _, rfl, rfl, ⟨d.blocks.length, X1.out, rfl, Nat.le_refl _, by rw [List.drop_length]; exact HSS.out⟩⟩
 case round =>
  obtain ⟨P50, i, rfl, rfl, HJ⟩ := hrel
  obtain ⟨j, hij, hjk, hjl, hS50⟩ := HJ.out
  have HS50 := Aside0.mk hS50
  have HIJ := Aside0.mk hij
  clear hc0 hc1 hc2 hc3 hc4 hc5 hc6 hcT hcS
  have hc0 : wr.cell? ⟨g, 0, none⟩ = some (.pointer (some ⟨p1, 0, none⟩)) := (blk_cell (RD.out.below HS50.out.below).blk 0).trans rfl
  have hc1 : wr.cell? ⟨g, 1, none⟩ = some (.slice (some AD) xs.length cD) := (blk_cell (RD.out.below HS50.out.below).blk 1).trans rfl
  have hc2 : wr.cell? ⟨g, 2, none⟩ = some (.pointer (some ⟨bS, 0, none⟩)) := (blk_cell (RD.out.below HS50.out.below).blk 2).trans rfl
  have hc3 : wr.cell? ⟨g, 3, none⟩ = some (.slice AB d.blocks.length cB) := (blk_cell (RD.out.below HS50.out.below).blk 3).trans rfl
  have hc4 : wr.cell? ⟨g, 4, none⟩ = some (.pointer none) := (blk_cell (RD.out.below HS50.out.below).blk 4).trans rfl
  have hc5 : wr.cell? ⟨g, 5, none⟩ = some (.pointer none) := (blk_cell (RD.out.below HS50.out.below).blk 5).trans rfl
  have hc6 : wr.cell? ⟨g, 6, none⟩ = some (.slice none 0 0) := (blk_cell (RD.out.below HS50.out.below).blk 6).trans rfl
  have hcT := (RD.out.below HS50.out.below).ty
  have hcS := (Below.cell HS50.out.below (World.block_lt_of_cell? _ _ HCS.out)).trans HCS.out
  by_cases hi : (0 : Int) ≤ i
  ·have q1 : decide ((0 : Int) ≤ i) = true := decide_eq_true hi
   have hi1 : i < (d.blocks.length : Int) := by omega
   obtain ⟨ad, eA, hx⟩ := Kd.at_int (Kd.C_below HCB.out HS50.out.below) i hi hi1
   subst eA
   have p1_ := eq_true hi
   have p2_ := eq_true hi1
   have hr := rd_fit FT.out i
   obtain ⟨v, hv⟩ : ∃ v : Nat, rd d.blocks i = (v : Int) := ⟨(rd d.blocks i).toNat, by omega⟩
   rw [hv] at hx
   have HV := Aside0.mk (show v < 2 ^ 64 by omega)
   have hbb : blkF (d.blocks.drop (j - 1)) = 32 :: (uv v ++ blkF (d.blocks.drop j)) := by rw [blkF_drop d.blocks j (by omega) hjl, show ((j - 1 : Nat) : Int) = i by omega, hv]; rfl
   have HBB := Aside0.mk hbb
   have hll : (blkF (d.blocks.drop (j - 1))).length ≤ (blkF d.blocks).length := blkF_drop_le _ _
   rw [hbb] at hll
   simp only [List.length_cons, List.length_append] at hll
   have HLL := Aside0.mk hll
   obtain ⟨i5, hi5⟩ : ∃ x : Int, wrap64 (i - 1) = x := ⟨_, rfl⟩
   have hi5w : IntKind.i64.wrap (i - 1) = i5 := (i64_w _).trans hi5
   have I5 := Aside0.mk (show i5 = i - 1 by have := FT.out.many; rw [← hi5]; unfold wrap64; omega)
   have HJK := Aside0.mk (show j = gk ∧ j ≤ d.blocks.length from ⟨hjk, hjl⟩)
   have HI := Aside0.mk hi
   clear hi hr hv hll hbb hS50 HJ hij hi1 hjk hjl
   go_wp2_with (first | (go_at_call 130; with_reducible refine (HS50.out.enc v HV.out (by have le_ := HS50.out.le; (try simp only [List.length_append, List.length_cons, List.length_nil] at le_); have := HNN.out; have := HN2.out; have := HLL.out; omega) (by have := HN2.out; omega)).mono ?_; rintro e wa50 ⟨rfl, hS⟩; obtain ⟨J50, hJ⟩ : ∃ J : Nat, J = P50 - (uv v).length := ⟨_, rfl⟩; rw [← hJ] at hS ⊢; have HSa50 := Aside0.mk hS; have HJ50 := Aside0.mk (show 1 ≤ J50 by have le_ := HS50.out.le; (try simp only [List.length_append, List.length_cons, List.length_nil] at le_); have := HNN.out; have := HN2.out; have := HLL.out; omega); obtain ⟨P51, hP⟩ : ∃ P : Nat, P = J50 - 1 := ⟨_, rfl⟩; have HP50 := Aside0.mk hP; have hk50 : wrap64 ((J50 : Int) - 1) = (P51 : Int) := (by have h1 := HJ50.out; have h2 := HSa50.out.le; have h3 := HN2.out; unfold wrap64; omega); have hk50w : IntKind.i64.wrap ((J50 : Int) - 1) = (P51 : Int) := (i64_w _).trans hk50; have kq50 : ((P51 : Int) < (n : Int)) = True := eq_true (by have h1 := HJ50.out; have h2 := HSa50.out.le; omega); have kr50 : (P51 < n) = True := eq_true (by have h1 := HJ50.out; have h2 := HSa50.out.le; omega); obtain ⟨_, hx50, hf50⟩ := HSa50.out.cell P51 (by have h1 := HJ50.out; have h2 := HSa50.out.le; omega); clear hJ hP hS) | ((with_reducible refine gate_store (t := 5) (p := 98) rfl ?_); refine store_event (t := 5) (p := 98) (v := ?vo_50) (w1 := (wa50.setCell ⟨gb, P51, none⟩ (.int .u8 32))) ?hg ?ho ?hn ?hr ?_; (case ho => rfl); (case hg => rfl); (case hn => rfl); (case hr => first | (go_simp; done) | (go_simp; rfl)); intro wb50 hw; have HS51 : Aside0 (St w0 wb50 gb n cap hh P51 (32 :: (uv v ++ (blkF (d.blocks.drop j))))) := ⟨by rw [hw, HP50.out]; exact HSa50.out.put HJ50.out 32⟩; clear hw hx50 hf50 kq50 kr50; clear hc0 hc1 hc2 hc3 hc4 hc5 hc6 hcT hcS; have hc0 : wb50.cell? ⟨g, 0, none⟩ = some (.pointer (some ⟨p1, 0, none⟩)) := (blk_cell (RD.out.below HS51.out.below).blk 0).trans rfl; have hc1 : wb50.cell? ⟨g, 1, none⟩ = some (.slice (some AD) xs.length cD) := (blk_cell (RD.out.below HS51.out.below).blk 1).trans rfl; have hc2 : wb50.cell? ⟨g, 2, none⟩ = some (.pointer (some ⟨bS, 0, none⟩)) := (blk_cell (RD.out.below HS51.out.below).blk 2).trans rfl; have hc3 : wb50.cell? ⟨g, 3, none⟩ = some (.slice (some ad) d.blocks.length cB) := (blk_cell (RD.out.below HS51.out.below).blk 3).trans rfl; have hc4 : wb50.cell? ⟨g, 4, none⟩ = some (.pointer none) := (blk_cell (RD.out.below HS51.out.below).blk 4).trans rfl; have hc5 : wb50.cell? ⟨g, 5, none⟩ = some (.pointer none) := (blk_cell (RD.out.below HS51.out.below).blk 5).trans rfl; have hc6 : wb50.cell? ⟨g, 6, none⟩ = some (.slice none 0 0) := (blk_cell (RD.out.below HS51.out.below).blk 6).trans rfl; have hcT := (RD.out.below HS51.out.below).ty; have hcS := (Below.cell HS51.out.below (World.block_lt_of_cell? _ _ HCS.out)).trans HCS.out; clear hx))
   go_roundg (gk - 1)
   case measure => have := HJK.out; have := HIJ.out; have := HI.out; omega
   case rel =>
    have h1 := HJK.out; have h2 := HIJ.out; have h3 := HI.out
    refine ⟨_, _, rfl, rfl, ⟨j - 1, by rw [I5.out]; omega, by omega, by omega, ?_⟩⟩
    rw [HBB.out]
    exact HS51.out
  ·have q1 : decide ((0 : Int) ≤ i) = false := decide_eq_false hi
   have hj0 : j = 0 := by omega
   rw [hj0, List.drop_zero] at hS50
   have HS0 := Aside0.mk hS50
   clear hi hj0 hS50 HJ hij hjk hjl HS50
   go_wp2_with (first | (go_at_call 130; with_reducible refine (HS0.out.enc m HM.out (by have le_ := HS0.out.le; (try simp only [List.length_append, List.length_cons, List.length_nil] at le_); have := HNN.out; have := HN2.out; omega) (by have := HN2.out; omega)).mono ?_; rintro e wa0 ⟨rfl, hS⟩; obtain ⟨J0, hJ⟩ : ∃ J : Nat, J = P50 - (uv m).length := ⟨_, rfl⟩; rw [← hJ] at hS ⊢; have HSa0 := Aside0.mk hS; have HJ0 := Aside0.mk (show 1 ≤ J0 by have le_ := HS0.out.le; (try simp only [List.length_append, List.length_cons, List.length_nil] at le_); have := HNN.out; have := HN2.out; omega); obtain ⟨P1, hP⟩ : ∃ P : Nat, P = J0 - 1 := ⟨_, rfl⟩; have HP0 := Aside0.mk hP; have hk0 : wrap64 ((J0 : Int) - 1) = (P1 : Int) := (by have h1 := HJ0.out; have h2 := HSa0.out.le; have h3 := HN2.out; unfold wrap64; omega); have hk0w : IntKind.i64.wrap ((J0 : Int) - 1) = (P1 : Int) := (i64_w _).trans hk0; have kq0 : ((P1 : Int) < (n : Int)) = True := eq_true (by have h1 := HJ0.out; have h2 := HSa0.out.le; omega); have kr0 : (P1 < n) = True := eq_true (by have h1 := HJ0.out; have h2 := HSa0.out.le; omega); obtain ⟨_, hx0, hf0⟩ := HSa0.out.cell P1 (by have h1 := HJ0.out; have h2 := HSa0.out.le; omega); clear hJ hP hS) | ((with_reducible refine gate_store (t := 5) (p := 117) rfl ?_); refine store_event (t := 5) (p := 117) (v := ?vo_0) (w1 := (wa0.setCell ⟨gb, P1, none⟩ (.int .u8 24))) ?hg ?ho ?hn ?hr ?_; (case ho => rfl); (case hg => rfl); (case hn => rfl); (case hr => first | (go_simp; done) | (go_simp; rfl)); intro wb0 hw; have HS1 : Aside0 (St w0 wb0 gb n cap hh P1 (24 :: (uv m ++ (blkF d.blocks)))) := ⟨by rw [hw, HP0.out]; exact HSa0.out.put HJ0.out 24⟩; clear hw hx0 hf0 kq0 kr0; clear hc0 hc1 hc2 hc3 hc4 hc5 hc6 hcT hcS; have hc0 : wb0.cell? ⟨g, 0, none⟩ = some (.pointer (some ⟨p1, 0, none⟩)) := (blk_cell (RD.out.below HS1.out.below).blk 0).trans rfl; have hc1 : wb0.cell? ⟨g, 1, none⟩ = some (.slice (some AD) xs.length cD) := (blk_cell (RD.out.below HS1.out.below).blk 1).trans rfl; have hc2 : wb0.cell? ⟨g, 2, none⟩ = some (.pointer (some ⟨bS, 0, none⟩)) := (blk_cell (RD.out.below HS1.out.below).blk 2).trans rfl; have hc3 : wb0.cell? ⟨g, 3, none⟩ = some (.slice AB d.blocks.length cB) := (blk_cell (RD.out.below HS1.out.below).blk 3).trans rfl; have hc4 : wb0.cell? ⟨g, 4, none⟩ = some (.pointer none) := (blk_cell (RD.out.below HS1.out.below).blk 4).trans rfl; have hc5 : wb0.cell? ⟨g, 5, none⟩ = some (.pointer none) := (blk_cell (RD.out.below HS1.out.below).blk 5).trans rfl; have hc6 : wb0.cell? ⟨g, 6, none⟩ = some (.slice none 0 0) := (blk_cell (RD.out.below HS1.out.below).blk 6).trans rfl; have hcT := (RD.out.below HS1.out.below).ty; have hcS := (Below.cell HS1.out.below (World.block_lt_of_cell? _ _ HCS.out)).trans HCS.out; obtain ⟨C1, hC⟩ : ∃ C : Nat, C = P1 - xs.length := ⟨_, rfl⟩; have HC1 := Aside0.mk (show C1 + xs.length = P1 by have le_ := HS1.out.le; (try simp only [List.length_append, List.length_cons, List.length_nil] at le_); have := HNN.out; have := HN2.out; omega); have hcw1 : wrap64 ((P1 : Int) - (xs.length : Int)) = (C1 : Int) := (by have h1 := HC1.out; have h2 := HS1.out.le; have h3 := HN2.out; unfold wrap64; omega); have hcv1 : IntKind.i64.wrap ((P1 : Int) - (xs.length : Int)) = (C1 : Int) := (i64_w _).trans hcw1; clear hC; have hcut1 := cut_from (P := Tryd.prog) 22 5 .i64 Tryd.underlying22 HI5.out 1 HZ5.out (some ⟨gb, 0, none⟩) n cap (C1 : Int) (by omega) (by have h1 := HC1.out; have h2 := HS1.out.le; omega); obtain ⟨DD1, hDD⟩ : ∃ D_, D_ = (if cap = (C1 : Int).toNat then some (⟨gb, 0, none⟩ : Addr) else Option.map (fun x : Addr => x.add ((C1 : Int).toNat * 1)) (some ⟨gb, 0, none⟩)) := ⟨_, rfl⟩; rw [← hDD] at hcut1; have HDD1 := Aside0.mk hDD; clear hDD; have hcl1 : (C1 : Int) ≤ (n : Int) := (by have h1 := HC1.out; have h2 := HS1.out.le; omega)))
   go_still_tail 7, (by kernel_rfl)
   change wpList _ _ _ _ _ wb0.drew
   go_wp2_with (first | ((with_reducible refine gate_builtin (b := .copy) (xs := #[.tmp 132, .tmp 136]) rfl ?_); refine (HS1.out.drew).copy rfl (.tmp 132) (.tmp 136) rfl xs (some AD) xs.length cD DD1 _ _ rfl rfl rfl (Kd.C_drew (Kd.C_below HCD.out HS1.out.below)) (fun hp => by rw [HDD1.out, show (C1 : Int) = ((P1 - xs.length : Nat) : Int) by have := HC1.out; omega]; exact cut_at (by have := HC1.out; omega) hp (by have := HS1.out.le; omega) HNC.out) (by have h1 := HC1.out; have h2 := HS1.out.le; (try simp only [Int.toNat_natCast]); omega) (by have := HC1.out; omega) ?_; intro wc1 hS; obtain ⟨P2, hP⟩ : ∃ P : Nat, P = P1 - xs.length := ⟨_, rfl⟩; rw [← hP] at hS; have HS2 := Aside0.mk hS; obtain rfl : P2 = C1 := (by have := HC1.out; omega); clear hS hP; clear hc0 hc1 hc2 hc3 hc4 hc5 hc6 hcT hcS; have hc0 : wc1.cell? ⟨g, 0, none⟩ = some (.pointer (some ⟨p1, 0, none⟩)) := (blk_cell (RD.out.below HS2.out.below).blk 0).trans rfl; have hc1 : wc1.cell? ⟨g, 1, none⟩ = some (.slice (some AD) xs.length cD) := (blk_cell (RD.out.below HS2.out.below).blk 1).trans rfl; have hc2 : wc1.cell? ⟨g, 2, none⟩ = some (.pointer (some ⟨bS, 0, none⟩)) := (blk_cell (RD.out.below HS2.out.below).blk 2).trans rfl; have hc3 : wc1.cell? ⟨g, 3, none⟩ = some (.slice AB d.blocks.length cB) := (blk_cell (RD.out.below HS2.out.below).blk 3).trans rfl; have hc4 : wc1.cell? ⟨g, 4, none⟩ = some (.pointer none) := (blk_cell (RD.out.below HS2.out.below).blk 4).trans rfl; have hc5 : wc1.cell? ⟨g, 5, none⟩ = some (.pointer none) := (blk_cell (RD.out.below HS2.out.below).blk 5).trans rfl; have hc6 : wc1.cell? ⟨g, 6, none⟩ = some (.slice none 0 0) := (blk_cell (RD.out.below HS2.out.below).blk 6).trans rfl; have hcT := (RD.out.below HS2.out.below).ty; have hcS := (Below.cell HS2.out.below (World.block_lt_of_cell? _ _ HCS.out)).trans HCS.out) | (go_at_call 130; with_reducible refine (HS2.out.enc xs.length (by have := HXL.out; omega) (by have le_ := HS2.out.le; (try simp only [List.length_append, List.length_cons, List.length_nil] at le_); have := HNN.out; have := HN2.out; omega) (by have := HN2.out; omega)).mono ?_; rintro e wa2 ⟨rfl, hS⟩; obtain ⟨J2, hJ⟩ : ∃ J : Nat, J = P2 - (uv xs.length).length := ⟨_, rfl⟩; rw [← hJ] at hS ⊢; have HSa2 := Aside0.mk hS; have HJ2 := Aside0.mk (show 1 ≤ J2 by have le_ := HS2.out.le; (try simp only [List.length_append, List.length_cons, List.length_nil] at le_); have := HNN.out; have := HN2.out; omega); obtain ⟨P3, hP⟩ : ∃ P : Nat, P = J2 - 1 := ⟨_, rfl⟩; have HP2 := Aside0.mk hP; have hk2 : wrap64 ((J2 : Int) - 1) = (P3 : Int) := (by have h1 := HJ2.out; have h2 := HSa2.out.le; have h3 := HN2.out; unfold wrap64; omega); have hk2w : IntKind.i64.wrap ((J2 : Int) - 1) = (P3 : Int) := (i64_w _).trans hk2; have kq2 : ((P3 : Int) < (n : Int)) = True := eq_true (by have h1 := HJ2.out; have h2 := HSa2.out.le; omega); have kr2 : (P3 < n) = True := eq_true (by have h1 := HJ2.out; have h2 := HSa2.out.le; omega); obtain ⟨_, hx2, hf2⟩ := HSa2.out.cell P3 (by have h1 := HJ2.out; have h2 := HSa2.out.le; omega); clear hJ hP hS) | ((with_reducible refine gate_store (t := 5) (p := 151) rfl ?_); refine store_event (t := 5) (p := 151) (v := ?vo_2) (w1 := (wa2.setCell ⟨gb, P3, none⟩ (.int .u8 18))) ?hg ?ho ?hn ?hr ?_; (case ho => rfl); (case hg => rfl); (case hn => rfl); (case hr => first | (go_simp; done) | (go_simp; rfl)); intro wb2 hw; have HS3 : Aside0 (St w0 wb2 gb n cap hh P3 (18 :: (uv xs.length ++ (xs ++ (24 :: (uv m ++ (blkF d.blocks))))))) := ⟨by rw [hw, HP2.out]; exact HSa2.out.put HJ2.out 18⟩; clear hw hx2 hf2 kq2 kr2; clear hc0 hc1 hc2 hc3 hc4 hc5 hc6 hcT hcS; have hc0 : wb2.cell? ⟨g, 0, none⟩ = some (.pointer (some ⟨p1, 0, none⟩)) := (blk_cell (RD.out.below HS3.out.below).blk 0).trans rfl; have hc1 : wb2.cell? ⟨g, 1, none⟩ = some (.slice (some AD) xs.length cD) := (blk_cell (RD.out.below HS3.out.below).blk 1).trans rfl; have hc2 : wb2.cell? ⟨g, 2, none⟩ = some (.pointer (some ⟨bS, 0, none⟩)) := (blk_cell (RD.out.below HS3.out.below).blk 2).trans rfl; have hc3 : wb2.cell? ⟨g, 3, none⟩ = some (.slice AB d.blocks.length cB) := (blk_cell (RD.out.below HS3.out.below).blk 3).trans rfl; have hc4 : wb2.cell? ⟨g, 4, none⟩ = some (.pointer none) := (blk_cell (RD.out.below HS3.out.below).blk 4).trans rfl; have hc5 : wb2.cell? ⟨g, 5, none⟩ = some (.pointer none) := (blk_cell (RD.out.below HS3.out.below).blk 5).trans rfl; have hc6 : wb2.cell? ⟨g, 6, none⟩ = some (.slice none 0 0) := (blk_cell (RD.out.below HS3.out.below).blk 6).trans rfl; have hcT := (RD.out.below HS3.out.below).ty; have hcS := (Below.cell HS3.out.below (World.block_lt_of_cell? _ _ HCS.out)).trans HCS.out) | (go_at_call 130; with_reducible refine (HS3.out.enc d.ty (by have := FT.out.ty; omega) (by have le_ := HS3.out.le; (try simp only [List.length_append, List.length_cons, List.length_nil] at le_); have := HNN.out; have := HN2.out; omega) (by have := HN2.out; omega)).mono ?_; rintro e wa3 ⟨rfl, hS⟩; obtain ⟨J3, hJ⟩ : ∃ J : Nat, J = P3 - (uv d.ty).length := ⟨_, rfl⟩; rw [← hJ] at hS ⊢; have HSa3 := Aside0.mk hS; have HJ3 := Aside0.mk (show 1 ≤ J3 by have le_ := HS3.out.le; (try simp only [List.length_append, List.length_cons, List.length_nil] at le_); have := HNN.out; have := HN2.out; omega); obtain ⟨P4, hP⟩ : ∃ P : Nat, P = J3 - 1 := ⟨_, rfl⟩; have HP3 := Aside0.mk hP; have hk3 : wrap64 ((J3 : Int) - 1) = (P4 : Int) := (by have h1 := HJ3.out; have h2 := HSa3.out.le; have h3 := HN2.out; unfold wrap64; omega); have hk3w : IntKind.i64.wrap ((J3 : Int) - 1) = (P4 : Int) := (i64_w _).trans hk3; have kq3 : ((P4 : Int) < (n : Int)) = True := eq_true (by have h1 := HJ3.out; have h2 := HSa3.out.le; omega); have kr3 : (P4 < n) = True := eq_true (by have h1 := HJ3.out; have h2 := HSa3.out.le; omega); obtain ⟨_, hx3, hf3⟩ := HSa3.out.cell P4 (by have h1 := HJ3.out; have h2 := HSa3.out.le; omega); clear hJ hP hS) | ((with_reducible refine gate_store (t := 5) (p := 172) rfl ?_); refine store_event (t := 5) (p := 172) (v := ?vo_3) (w1 := (wa3.setCell ⟨gb, P4, none⟩ (.int .u8 8))) ?hg ?ho ?hn ?hr ?_; (case ho => rfl); (case hg => rfl); (case hn => rfl); (case hr => first | (go_simp; done) | (go_simp; rfl)); intro wb3 hw; have HS4 : Aside0 (St w0 wb3 gb n cap hh P4 (8 :: (uv d.ty ++ (18 :: (uv xs.length ++ (xs ++ (24 :: (uv m ++ (blkF d.blocks))))))))) := ⟨by rw [hw, HP3.out]; exact HSa3.out.put HJ3.out 8⟩; clear hw hx3 hf3 kq3 kr3; clear hc0 hc1 hc2 hc3 hc4 hc5 hc6 hcT hcS; have hc0 : wb3.cell? ⟨g, 0, none⟩ = some (.pointer (some ⟨p1, 0, none⟩)) := (blk_cell (RD.out.below HS4.out.below).blk 0).trans rfl; have hc1 : wb3.cell? ⟨g, 1, none⟩ = some (.slice (some AD) xs.length cD) := (blk_cell (RD.out.below HS4.out.below).blk 1).trans rfl; have hc2 : wb3.cell? ⟨g, 2, none⟩ = some (.pointer (some ⟨bS, 0, none⟩)) := (blk_cell (RD.out.below HS4.out.below).blk 2).trans rfl; have hc3 : wb3.cell? ⟨g, 3, none⟩ = some (.slice AB d.blocks.length cB) := (blk_cell (RD.out.below HS4.out.below).blk 3).trans rfl; have hc4 : wb3.cell? ⟨g, 4, none⟩ = some (.pointer none) := (blk_cell (RD.out.below HS4.out.below).blk 4).trans rfl; have hc5 : wb3.cell? ⟨g, 5, none⟩ = some (.pointer none) := (blk_cell (RD.out.below HS4.out.below).blk 5).trans rfl; have hc6 : wb3.cell? ⟨g, 6, none⟩ = some (.slice none 0 0) := (blk_cell (RD.out.below HS4.out.below).blk 6).trans rfl; have hcT := (RD.out.below HS4.out.below).ty; have hcS := (Below.cell HS4.out.below (World.block_lt_of_cell? _ _ HCS.out)).trans HCS.out; have hkz : wrap64 ((n : Int) - (P4 : Int)) = (n : Int) := (by have le_ := HS4.out.le; (try simp only [List.length_append, List.length_cons, List.length_nil] at le_); have := HNN.out; have := HN2.out; unfold wrap64; omega); have hkzw : IntKind.i64.wrap ((n : Int) - (P4 : Int)) = (n : Int) := (i64_w _).trans hkz))
   go_ret2
   have hz_ : P4 = 0 := (by have le_ := HS4.out.le; (try simp only [List.length_append, List.length_cons, List.length_nil] at le_); have := HNN.out; omega)
   have hS := HS4.out
   rw [hz_] at hS
   refine ⟨?_, ?_⟩
   ·first | rfl | (simp; done)
   ·rw [HMA.out]
    simpa only [List.nil_append, List.append_nil, List.cons_append, List.append_assoc] using hS
end Go.Proofs.YtnhnlodmkbiiiaaDoor.HandFields
