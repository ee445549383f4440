/- slices.Grow at changes and at pointers. -/
import Derived.Test.YtnhnlodmkbiiiaaDoorD2
import Derived.Lib.AppendZeros
namespace Go.Proofs.YtnhnlodmkbiiiaaDoor.HandDif
open Go Go.RowKit Go.Proofs.YtnhnlodmkbiiiaaDoorL Go.Proofs.YtnhnlodmkbiiiaaDoorW.PrintWords Go.Proofs.YtnhnlodmkbiiiaaDoorW.PrintLast Go.Proofs.YtnhnlodmkbiiiaaDoorW.PrintMore Go.Proofs.YtnhnlodmkbiiiaaDoor.PDif
attribute [local go_sem] max2_int min2_int max_two min_two max_three min_three max_four min_four
set_option linter.unusedVariables false
set_option linter.unusedSimpArgs false
theorem infoD : (Tryd.prog.info? 78).map (fun i => (i.zero, i.size, i.bytes)) = some (some (.agg #[.int .i64 0, .string ⟨#[]⟩, .slice none 0 0, .slice none 0 0]), 4, 72) := by kernel_rfl
set_option maxHeartbeats 8000000 in
set_option maxRecDepth 100000 in
theorem growD_calls (w : World) (n : Nat) (hn : n ≤ 1000000) : Calls Tryd.prog 114 #[.slice none 0 0, .int .i64 (n : Int)] w fun e w' => ∃ A c, e = .returned (.slice A 0 c) ∧ Kd.R k78 78 w' w.heap.size (fun _ => True) (.slice A 0 c) [] ∧ Below w.heap.size w w' := by
  obtain ⟨i0, hi, hzz⟩ := Option.map_eq_some_iff.1 infoD
  simp only [Prod.mk.injEq] at hzz
  obtain ⟨hz0, hz1, hz2⟩ := hzz
  have hw1 : wrap64 (n : Int) = (n : Int) := by unfold wrap64; omega
  have hw2 : IntKind.i64.wrap (n : Int) = (n : Int) := (i64_w _).trans hw1
  have hneg : ((n : Int) < 0) = False := eq_false (by omega)
  have hneg2 : decide ((n : Int) < 0) = false := decide_eq_false (by omega)
  by_cases h0 : n = 0
  · subst h0
    clear hw1 hw2 hneg hneg2
    go_enter Tryd.func114, Tryd.ntmps114
    go_wp2_with fail
    go_ret
    exact ⟨_, _, rfl, Kd.R_nil _ _ _ _ _, Below.refl _ _⟩
  · have hpos : ((0 : Int) < (n : Int)) = True := eq_true (by omega)
    have hpos2 : (0 < n) = True := eq_true (by omega)
    have hpos3 : decide ((0 : Int) < (n : Int)) = true := decide_eq_true (by omega)
    have hrun := Lib.run_append_nil_zeros (P := Tryd.prog) w 71 3 71 78 i0 (.agg #[.int .i64 0, .string ⟨#[]⟩, .slice none 0 0, .slice none 0 0]) .i64 .i64 Tryd.underlying71 Tryd.underlying3 hi hz0 n (by omega) (by omega) (by omega) (by rw [hz2]; omega)
    obtain ⟨cp, hcp⟩ : ∃ c, c = grownCap w n 0 78 := ⟨_, rfl⟩
    obtain ⟨W, hW⟩ : ∃ W, W = w.drew.alloc (.cells (Builtin.zeroCells (Value.cells (.agg #[.int .i64 0, .string ⟨#[]⟩, .slice none 0 0, .slice none 0 0])) n ++ Builtin.zeroCells (Value.cells (.agg #[.int .i64 0, .string ⟨#[]⟩, .slice none 0 0, .slice none 0 0])) (grownCap w n 0 78 - n)) 78) := ⟨_, rfl⟩
    have hge := grownCap_ge w n 0 78
    have hcm := grownCap_le_maxLen w n 0 78 (by simp only [maxLen]; omega)
    have HB : Aside0 (Below w.heap.size w W) := ⟨by rw [hW]; exact below_alloc (below_drew (Below.refl _ _)) _⟩
    have HR : Aside0 (Kd.R k78 78 W w.heap.size (fun _ => True) (.slice (some ⟨w.heap.size, 0, none⟩) 0 cp) []) := ⟨by
      refine ⟨fun _ _ => trivial, [], ⟨rfl, .inr ⟨w.heap.size, cp, _, rfl, Nat.le_refl _, by rw [hW]; exact heap_alloc_new w.drew _, Nat.zero_le _, by rw [hcp]; exact hcm, ?_, rfl⟩⟩, Reps.none _ _⟩
      have hz : (Value.cells (.agg #[.int .i64 0, .string ⟨#[]⟩, .slice none 0 0, .slice none 0 0])).size = 4 := rfl
      rw [hcp]
      simp only [Array.size_append, size_zeroCells, hz]
      show _ = _ * 4
      omega⟩
    rw [← hW, ← hcp] at hrun
    have hcut := cut_to (P := Tryd.prog) 71 78 .i64 Tryd.underlying71 hi (some ⟨w.heap.size, 0, none⟩) n cp (0 : Int) (Int.le_refl _) (by omega) (by omega)
    have hcut0 := cut_to (P := Tryd.prog) 71 78 .i64 Tryd.underlying71 hi none 0 0 (0 : Int) (Int.le_refl _) (Int.le_refl _) (Nat.le_refl _)
    have HRUN := Aside0.mk hrun
    clear hW hcp hge hcm hrun h0 hi hz0 hz1 hz2 hn
    go_enter Tryd.func114, Tryd.ntmps114
    go_wp2_with (at_builtin; refine Lib.wpList_append_run _ rfl (.tmp 20) (.tmp 21) 71 3 rfl _ _ rfl rfl _ _ HRUN.out ?_)
    go_ret
    exact ⟨_, _, rfl, HR.out, HB.out⟩
def kpt : Kd Nat := Kd.scalar (fun g : Nat => Value.pointer (some ⟨g, 0, none⟩)) (fun _ => rfl)
theorem infoP : (Tryd.prog.info? 137).map (fun i => (i.zero, i.size, i.bytes)) = some (some (.pointer none), 1, 8) := by kernel_rfl
set_option maxHeartbeats 8000000 in
set_option maxRecDepth 100000 in
theorem growP_calls (w : World) (n : Nat) (hn : n ≤ 1000000) : Calls Tryd.prog 116 #[.slice none 0 0, .int .i64 (n : Int)] w fun e w' => ∃ A c, e = .returned (.slice A 0 c) ∧ Kd.R kpt 137 w' w.heap.size (fun _ => True) (.slice A 0 c) [] ∧ Below w.heap.size w w' := by
  obtain ⟨i0, hi, hzz⟩ := Option.map_eq_some_iff.1 infoP
  simp only [Prod.mk.injEq] at hzz
  obtain ⟨hz0, hz1, hz2⟩ := hzz
  have hw1 : wrap64 (n : Int) = (n : Int) := by unfold wrap64; omega
  have hw2 : IntKind.i64.wrap (n : Int) = (n : Int) := (i64_w _).trans hw1
  have hneg : ((n : Int) < 0) = False := eq_false (by omega)
  have hneg2 : decide ((n : Int) < 0) = false := decide_eq_false (by omega)
  by_cases h0 : n = 0
  · subst h0
    clear hw1 hw2 hneg hneg2
    go_enter Tryd.func116, Tryd.ntmps116
    go_wp2_with fail
    go_ret
    exact ⟨_, _, rfl, Kd.R_nil _ _ _ _ _, Below.refl _ _⟩
  · have hpos : ((0 : Int) < (n : Int)) = True := eq_true (by omega)
    have hpos2 : (0 < n) = True := eq_true (by omega)
    have hpos3 : decide ((0 : Int) < (n : Int)) = true := decide_eq_true (by omega)
    have hrun := Lib.run_append_nil_zeros (P := Tryd.prog) w 134 3 134 137 i0 (.pointer none) .i64 .i64 Tryd.underlying134 Tryd.underlying3 hi hz0 n (by omega) (by omega) (by omega) (by rw [hz2]; omega)
    obtain ⟨cp, hcp⟩ : ∃ c, c = grownCap w n 0 137 := ⟨_, rfl⟩
    obtain ⟨W, hW⟩ : ∃ W, W = w.drew.alloc (.cells (Builtin.zeroCells (Value.cells (.pointer none)) n ++ Builtin.zeroCells (Value.cells (.pointer none)) (grownCap w n 0 137 - n)) 137) := ⟨_, rfl⟩
    have hge := grownCap_ge w n 0 137
    have hcm := grownCap_le_maxLen w n 0 137 (by simp only [maxLen]; omega)
    have HB : Aside0 (Below w.heap.size w W) := ⟨by rw [hW]; exact below_alloc (below_drew (Below.refl _ _)) _⟩
    have HR : Aside0 (Kd.R kpt 137 W w.heap.size (fun _ => True) (.slice (some ⟨w.heap.size, 0, none⟩) 0 cp) []) := ⟨by
      refine ⟨fun _ _ => trivial, [], ⟨rfl, .inr ⟨w.heap.size, cp, _, rfl, Nat.le_refl _, by rw [hW]; exact heap_alloc_new w.drew _, Nat.zero_le _, by rw [hcp]; exact hcm, ?_, rfl⟩⟩, Reps.none _ _⟩
      have hz : (Value.cells (.pointer none)).size = 1 := rfl
      rw [hcp]
      simp only [Array.size_append, size_zeroCells, hz]
      show _ = _ * 1
      omega⟩
    rw [← hW, ← hcp] at hrun
    have hcut := cut_to (P := Tryd.prog) 134 137 .i64 Tryd.underlying134 hi (some ⟨w.heap.size, 0, none⟩) n cp (0 : Int) (Int.le_refl _) (by omega) (by omega)
    have hcut0 := cut_to (P := Tryd.prog) 134 137 .i64 Tryd.underlying134 hi none 0 0 (0 : Int) (Int.le_refl _) (Int.le_refl _) (Nat.le_refl _)
    have HRUN := Aside0.mk hrun
    clear hW hcp hge hcm hrun h0 hi hz0 hz1 hz2 hn
    go_enter Tryd.func116, Tryd.ntmps116
    go_wp2_with (at_builtin; refine Lib.wpList_append_run _ rfl (.tmp 20) (.tmp 21) 134 3 rfl _ _ rfl rfl _ _ HRUN.out ?_)
    go_ret
    exact ⟨_, _, rfl, HR.out, HB.out⟩
end Go.Proofs.YtnhnlodmkbiiiaaDoor.HandDif
