/- Bytes that are those of a message have one message; the data and the size that a message tells. -/
import Derived.Test.YtnhnlodmkbiiiaaDoorRU1
import Derived.Test.YtnhnlodmkbiiiaaDoorRF3
namespace Go.Proofs.YtnhnlodmkbiiiaaDoor.HandFields
open Go Go.RowKit Go.Proofs.YtnhnlodmkbiiiaaDoorL Go.Proofs.YtnhnlodmkbiiiaaDoorW.PrintWords Go.Proofs.YtnhnlodmkbiiiaaDoorW.PrintLast Go.Proofs.YtnhnlodmkbiiiaaDoorW.PrintMore Go.Proofs.YtnhnlodmkbiiiaaDoor.PFieldsBase
attribute [local go_sem] max2_int min2_int max_two min_two max_three min_three max_four min_four
set_option linter.unusedVariables false
set_option linter.unusedSimpArgs false
section
variable {w : World} {g p1 : Nat} {d : Dat} {vD v3 vB : Value} {t : TypeId}
set_option maxHeartbeats 4000000 in
theorem GetData_calls (h : RdDat w g d p1 vD v3 vB t) : Calls Tryd.prog 103 #[.pointer (some ⟨g, 0, none⟩)] w fun e w' => e = .returned vD ∧ w' = w := by
 have hc1 := (blk_cell h.blk 1).trans rfl
 clear h
 go_enter Tryd.func103, Tryd.ntmps103
 go_wp2_with fail
 go_ret
 exact ⟨rfl, rfl⟩
set_option maxHeartbeats 4000000 in
theorem GetFilesize_some (h : RdDat w g d p1 vD v3 vB t) (m : Nat) (hm : d.size = some m) : Calls Tryd.prog 112 #[.pointer (some ⟨g, 0, none⟩)] w fun e w' => e = .returned (.int .u64 (m : Int)) ∧ w' = w := by
 obtain ⟨b, rfl, hb⟩ := h.size1 m hm
 have hc2 := (blk_cell h.blk 2).trans rfl
 clear h
 go_enter Tryd.func112, Tryd.ntmps112
 go_wp2_with fail
 go_ret
 exact ⟨rfl, rfl⟩
set_option maxHeartbeats 4000000 in
theorem GetType_calls (h : RdDat w g d p1 vD v3 vB t) : Calls Tryd.prog 123 #[.pointer (some ⟨g, 0, none⟩)] w fun e w' => e = .returned (.int .i32 (d.ty : Int)) ∧ w' = w := by
 have hc0 := (blk_cell h.blk 0).trans rfl
 have hct := h.ty
 clear h
 go_enter Tryd.func123, Tryd.ntmps123
 go_wp2_with fail
 go_ret
 exact ⟨rfl, rfl⟩
set_option maxHeartbeats 8000000 in
theorem Sized_02 (h : RdDat w g d p1 vD v3 vB t) (m : Nat) (hm : d.size = some m) (hk : d.ty = 0 ∨ d.ty = 2) : Calls Tryd.prog 104 #[.pointer (some ⟨g, 0, none⟩)] w fun e w' => e = .returned (.tuple #[.int .u64 (m : Int), .nilIface]) ∧ w' = w := by
 have RD := Aside0.mk h
 have HM := Aside0.mk hm
 obtain ⟨k, hkk⟩ : ∃ k, k = d.ty := ⟨_, rfl⟩
 have HK := Aside0.mk hkk
 rw [← hkk] at hk
 clear h hm hkk
 rcases hk with rfl | rfl
 all_goals
  go_enter Tryd.func104, Tryd.ntmps104
  go_wp2_with (first | (go_at_call 123; refine (GetType_calls RD.out).mono ?_; rintro e w1 ⟨rfl, hw⟩; rw [hw, ← HK.out]) | (go_at_call 112; refine (GetFilesize_some RD.out m HM.out).mono ?_; rintro e w1 ⟨rfl, hw⟩; rw [hw]))
  go_ret2
  exact ⟨rfl, rfl⟩
end
set_option maxHeartbeats 8000000 in
theorem DataSize_02 (w : World) (d : Dat) (hf : Fit d) (A : Option Addr) (n c : Nat) (hn : n = (marsh d).length) (hnc : n ≤ c) (hC : Kd.C (Kd.int .u8) w A n (marsh d)) (m : Nat) (hm : d.size = some m) (hk : d.ty = 0 ∨ d.ty = 2) :
  Calls Tryd.prog 66 #[.slice A n c] w fun e w' => e = .returned (.tuple #[.int .u64 (m : Int), .nilIface]) ∧ Below w.heap.size w w' := by
 have HM := Aside0.mk hm
 have HK := Aside0.mk hk
 have HN := Aside0.mk hn
 have HNC := Aside0.mk hnc
 have HC := Aside0.mk hC
 have FT := Aside0.mk hf
 clear hm hk hn hnc hC hf
 go_enter Tryd.func66, Tryd.ntmps66
 go_wp2_with (first | (go_at_call 102; with_reducible refine (Unm_calls w _ w.heap.size 163 d (blk_new w _) (Nat.le_refl _) (below_alloc (Below.refl _ _) _) FT.out A n c HN.out HNC.out (by rw [HN.out]; exact (marsh_len FT.out).2) HC.out).mono ?_; rintro e w1 ⟨rfl, hB, p1, c1, c2, c3, hR⟩; have HB := Aside0.mk hB; have HR := Aside0.mk hR; clear hB hR) | (go_at_call 104; refine (Sized_02 HR.out m HM.out HK.out).mono ?_; rintro e w2 ⟨rfl, hw⟩; rw [hw]))
 go_ret2
 exact ⟨rfl, HB.out⟩
end Go.Proofs.YtnhnlodmkbiiiaaDoor.HandFields
