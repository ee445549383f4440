/- Printed by a program of this session (it drives the print of the kit, with contracts proved by hand beside): the Go functions of one law as Lean functions, and that the Go code comes to what they say. -/
import Derived.Test.YteekkpofcbcikaaDoorPWanx0
namespace Go.Proofs.YteekkpofcbcikaaDoor.PWan
open Go.RowKit Go.Proofs.YteekkpofcbcikaaDoorL Go.Proofs.YteekkpofcbcikaaDoorW.PrintWords Go.Proofs.YteekkpofcbcikaaDoorW.PrintLast Go.Proofs.YteekkpofcbcikaaDoorW.PrintMore
attribute [local go_sem] max2_int min2_int max_two min_two max_three min_three max_four min_four   -- for this text's walks alone
set_option linter.unusedVariables false
set_option linter.unusedSimpArgs false

/-! ### govarint_FromUvarint: function 109 -/
mutual
def govarint_FromUvarint.l0 : Nat → Int → Int → List Int → Int → Int → Option (Int × Int × Option Int)
  | 0, _, _, _, _, _ => none
  | k + 1, x5, x6, x9, x10, x11 => if x11 < x10 then (if 0 ≤ x11 then (if x11 < (x9.length : Int) then (if x11 = 8 then (if (rd x9 x11) ≥ 128 then (govarint_FromUvarint.j1 k x5 x6 x11 (rd x9 x11) x9 x10 x11 true) else (govarint_FromUvarint.j1 k x5 x6 x11 (rd x9 x11) x9 x10 x11 (decide (x11 ≥ 9)))) else (govarint_FromUvarint.j1 k x5 x6 x11 (rd x9 x11) x9 x10 x11 (decide (x11 ≥ 9)))) else (none)) else (none)) else (none)
def govarint_FromUvarint.j1 : Nat → Int → Int → Int → Int → List Int → Int → Int → Bool → Option (Int × Int × Option Int)
  | 0, _, _, _, _, _, _, _, _ => none
  | k + 1, x5, x6, x7, x8, x9, x10, x11, x25 => if x25 = true then (none) else (if x8 < 128 then (if x8 = 0 then (if x6 > 0 then (none) else (if 0 ≤ x6 then (some (Go.bits .or .u64 x5 (shl .u64 (IntKind.u64.wrap (x8)) x6), wrap64 (x7 + 1), none)) else (none))) else (if 0 ≤ x6 then (some (Go.bits .or .u64 x5 (shl .u64 (IntKind.u64.wrap (x8)) x6), wrap64 (x7 + 1), none)) else (none))) else (if 0 ≤ x6 then (govarint_FromUvarint.l0 k (Go.bits .or .u64 x5 (shl .u64 (IntKind.u64.wrap (Go.bits .and .u8 x8 127)) x6)) (IntKind.u64.wrap (x6 + 7)) x9 x10 (wrap64 (x11 + 1))) else (none)))
end
def govarint_FromUvarint.f (k : Nat) (l0 : List Int) : Option (Int × Int × Option Int) := govarint_FromUvarint.l0 k 0 0 l0 (l0.length : Int) 0
theorem govarint_FromUvarint.mono_l : ∀ k, (∀ y0 y1 y2 y3 y4, LeO (govarint_FromUvarint.l0 k y0 y1 y2 y3 y4) (govarint_FromUvarint.l0 (k + 1) y0 y1 y2 y3 y4)) ∧ (∀ y0 y1 y2 y3 y4 y5 y6 y7, LeO (govarint_FromUvarint.j1 k y0 y1 y2 y3 y4 y5 y6 y7) (govarint_FromUvarint.j1 (k + 1) y0 y1 y2 y3 y4 y5 y6 y7))
  | 0 => ⟨fun _ _ _ _ _ r h => by simp [govarint_FromUvarint.l0] at h, fun _ _ _ _ _ _ _ _ r h => by simp [govarint_FromUvarint.j1] at h⟩
  | k + 1 => by
    obtain ⟨ih0, ih1⟩ := govarint_FromUvarint.mono_l k
    refine ⟨?_, ?_⟩
    · intro y0 y1 y2 y3 y4
      unfold govarint_FromUvarint.l0
      repeat' first
      | (with_reducible exact ih0 _ _ _ _ _)
      | (with_reducible exact ih1 _ _ _ _ _ _ _ _)
      | (with_reducible exact LeO.refl _)
      | (with_reducible exact LeO.none _)
      | (with_reducible refine LeO.ite ?_ ?_)
      | (with_reducible refine LeO.bind ?_ (fun _ => ?_))
      | exact ih0 _ _ _ _ _
      | exact ih1 _ _ _ _ _ _ _ _
      | exact LeO.none _
      | refine LeO.ite ?_ ?_
      | refine LeO.bind ?_ (fun _ => ?_)
    · intro y0 y1 y2 y3 y4 y5 y6 y7
      unfold govarint_FromUvarint.j1
      repeat' first
      | (with_reducible exact ih0 _ _ _ _ _)
      | (with_reducible exact ih1 _ _ _ _ _ _ _ _)
      | (with_reducible exact LeO.refl _)
      | (with_reducible exact LeO.none _)
      | (with_reducible refine LeO.ite ?_ ?_)
      | (with_reducible refine LeO.bind ?_ (fun _ => ?_))
      | exact ih0 _ _ _ _ _
      | exact ih1 _ _ _ _ _ _ _ _
      | exact LeO.none _
      | refine LeO.ite ?_ ?_
      | refine LeO.bind ?_ (fun _ => ?_)
theorem govarint_FromUvarint.mono : ∀ a0 k, LeO (govarint_FromUvarint.f k a0) (govarint_FromUvarint.f (k + 1) a0) := by
  intro a0 k
  obtain ⟨ih0, ih1⟩ := govarint_FromUvarint.mono_l k
  unfold govarint_FromUvarint.f
  repeat' first
      | (with_reducible exact ih0 _ _ _ _ _)
      | (with_reducible exact ih1 _ _ _ _ _ _ _ _)
      | (with_reducible exact LeO.refl _)
      | (with_reducible exact LeO.none _)
      | (with_reducible refine LeO.ite ?_ ?_)
      | (with_reducible refine LeO.bind ?_ (fun _ => ?_))
      | exact ih0 _ _ _ _ _
      | exact ih1 _ _ _ _ _ _ _ _
      | exact LeO.none _
      | refine LeO.ite ?_ ?_
      | refine LeO.bind ?_ (fun _ => ?_)
set_option maxHeartbeats 8000000 in
set_option maxRecDepth 100000 in
theorem govarint_FromUvarint.calls (k : Nat) (A0 : Option Addr) (c0 : Nat) (l0 : List Int) (r1 : Int) (r2 : Int) (r3 : Option Int) (w : World) (hr0 : Kd.C (Kd.int .u8) w A0 l0.length l0) (hc0 : l0.length ≤ c0) (h : govarint_FromUvarint.f k l0 = some (r1, r2, r3)) :
    Calls Tryd.prog 109 #[.slice A0 l0.length c0] w fun e w' => ExE fun eT2_ eX2_ => e = .returned (.tuple #[.int .u64 r1, .int .i64 r2, errV r3 eT2_ eX2_]) ∧ Drawn0 w w' := by
  have HR0 := Aside0.mk hr0
  have HC0 := Aside0.mk hc0
  clear hr0 hc0
  have H : (govarint_FromUvarint.l0 k 0 0 l0 (l0.length : Int) 0) = some (r1, r2, r3) := h
  clear h
  have H' := Aside0.mk H
  clear H
  go_enter Tryd.func109, Tryd.ntmps109
  go_wp2
  repeat (go_quiet (fail); try go_wp2)
  go_loopg [5, 6, 11] k (fun kq v5 v6 v11 w' => ∃ (x5_1 : Int) (x6_1 : Int) (x11_1 : Int), v5 = .int .u64 x5_1 ∧ v6 = .int .u64 x6_1 ∧ v11 = .int .i64 x11_1 ∧ Aside0 (govarint_FromUvarint.l0 kq x5_1 x6_1 l0 (l0.length : Int) x11_1 = some (r1, r2, r3)) ∧ Aside0 (kq ≤ k) ∧ Drawn0 w w')
  case atStart => exact ⟨(0), (0), (0), (by first | rfl | (simp; done) | (simp [*]; done)), (by first | rfl | (simp; done) | (simp [*]; done)), (by first | rfl | (simp; done) | (simp [*]; done)), H', ⟨Nat.le_refl _⟩, by repeat (first | exact Drawn0.refl _ | apply Drawn0.step)⟩
  case round =>
    clear H'
    try clear c1
    obtain ⟨x5_1, x6_1, x11_1, rfl, rfl, rfl, HA, HK1, ⟨m1, rfl⟩⟩ := hrel
    cases gk with
    | zero => exact absurd HA.out (by simp [govarint_FromUvarint.l0])
    | succ k1 =>
      have H := HA.out
      clear HA
      simp only [govarint_FromUvarint.l0] at H
      by_cases c2 : x11_1 < (l0.length : Int)
      · rw [if_pos c2] at H
        have c2b0 : decide (x11_1 < (l0.length : Int)) = true := decide_eq_true c2
        clear c2
        by_cases c3 : 0 ≤ x11_1
        · rw [if_pos c3] at H
          have c3b0 : decide (0 ≤ x11_1) = true := decide_eq_true c3
          clear c3
          by_cases c4 : x11_1 < (l0.length : Int)
          · rw [if_pos c4] at H
            have c4b0 : decide (x11_1 < (l0.length : Int)) = true := decide_eq_true c4
            clear c4
            have HC5 := Aside0.mk H
            clear H
            have p103 : 0 ≤ (x11_1 : Int) := of_decide_eq_true (by first | (with_reducible assumption) | assumption)
            have q103 : x11_1 < (l0.length : Int) := of_decide_eq_true (by first | (with_reducible assumption) | assumption)
            obtain ⟨ad103, e103, hx103_0⟩ := Kd.at_int HR0.out x11_1 p103 q103
            cases e103
            replace p103 := eq_true p103
            replace q103 := eq_true q103
            go_upto_region 6 with (fail)
            repeat (go_quiet (fail); go_upto_region 6 with (fail))
            go_cut [25] (fun v25 wc => ∃ (kq : Nat) (x25_4 : Bool), v25 = .bool x25_4 ∧ Aside0 (govarint_FromUvarint.j1 kq x5_1 x6_1 x11_1 (rd l0 x11_1) l0 (l0.length : Int) x11_1 x25_4 = some (r1, r2, r3)) ∧ Aside0 (kq ≤ k1) ∧ Drawn0 w wc)
            case first =>
              have H := HC5.out
              clear HC5
              by_cases c6 : x11_1 = 8
              · rw [if_pos c6] at H
                have c6b0 : (x11_1 == 8) = true := beq_iff_eq.mpr c6
                have c6b1 : (x11_1 != 8) = false := bne_eq_false_iff_eq.mpr c6
                clear c6
                (first | rw [c6b0] | (simp only [i64_w, i32_w]; rw [c6b0]) | skip)
                by_cases c7 : (rd l0 x11_1) ≥ 128
                · rw [if_pos c7] at H
                  have c7b0 : decide (128 ≤ (rd l0 x11_1)) = true := decide_eq_true c7
                  clear c7
                  have H' := Aside0.mk H
                  clear H
                  go_wp2
                  repeat (go_quiet (fail); try go_wp2)
                  go_meet
                  case rel => exact ⟨_, (true), (by first | rfl | (simp; done) | (simp [*]; done)), H', ⟨by have := HK1.out; first | omega | exact Nat.le_refl _⟩, by repeat (first | exact Drawn0.refl _ | apply Drawn0.step)⟩
                · rw [if_neg c7] at H
                  have c7b0 : decide (128 ≤ (rd l0 x11_1)) = false := decide_eq_false c7
                  clear c7
                  have H' := Aside0.mk H
                  clear H
                  go_wp2
                  repeat (go_quiet (fail); try go_wp2)
                  go_meet
                  case rel => exact ⟨_, (decide (x11_1 ≥ 9)), (by first | rfl | (simp; done) | (simp [*]; done)), H', ⟨by have := HK1.out; first | omega | exact Nat.le_refl _⟩, by repeat (first | exact Drawn0.refl _ | apply Drawn0.step)⟩
              · rw [if_neg c6] at H
                have c6b0 : (x11_1 == 8) = false := beq_eq_false_iff_ne.mpr c6
                have c6b1 : (x11_1 != 8) = true := bne_iff_ne.mpr c6
                (first | rw [c6b0] | (simp only [i64_w, i32_w]; rw [c6b0]) | skip)
                have H' := Aside0.mk H
                clear H
                go_wp2
                repeat (go_quiet (fail); try go_wp2)
                go_meet
                case rel => exact ⟨_, (decide (x11_1 ≥ 9)), (by first | rfl | (simp; done) | (simp [*]; done)), H', ⟨by have := HK1.out; first | omega | exact Nat.le_refl _⟩, by repeat (first | exact Drawn0.refl _ | apply Drawn0.step)⟩
            case rest =>
              clear HC5
              try clear c1
              try clear p1
              try clear q1
              try clear hx1
              try clear c2
              try clear c2b0
              try clear p2
              try clear c3
              try clear c3b0
              try clear c4
              try clear c4b0
              try clear c6
              try clear c6b0
              try clear c6b1
              try clear c7
              try clear c7b0
              try clear hx103_0
              try clear p103
              try clear q103
              obtain ⟨kq, x25_4, rfl, HA, HJ4, ⟨mc4, rfl⟩⟩ := hcut
              cases kq with
              | zero => exact absurd HA.out (by simp [govarint_FromUvarint.j1])
              | succ kj4 =>
                have H := HA.out
                clear HA
                simp only [govarint_FromUvarint.j1] at H
                by_cases c8 : x25_4 = true
                · subst c8
                  have H1 : (none) = some (r1, r2, r3) := by rw [if_pos rfl] at H; exact H
                  clear H
                  have H := H1
                  clear H1
                  exact absurd H (by simp)
                · replace c8 := Bool.eq_false_iff.mpr c8
                  subst c8
                  have H1 : (if (rd l0 x11_1) < 128 then (if (rd l0 x11_1) = 0 then (if x6_1 > 0 then (none) else (if 0 ≤ x6_1 then (some (Go.bits .or .u64 x5_1 (shl .u64 (IntKind.u64.wrap ((rd l0 x11_1))) x6_1), wrap64 (x11_1 + 1), none)) else (none))) else (if 0 ≤ x6_1 then (some (Go.bits .or .u64 x5_1 (shl .u64 (IntKind.u64.wrap ((rd l0 x11_1))) x6_1), wrap64 (x11_1 + 1), none)) else (none))) else (if 0 ≤ x6_1 then (govarint_FromUvarint.l0 kj4 (Go.bits .or .u64 x5_1 (shl .u64 (IntKind.u64.wrap (Go.bits .and .u8 (rd l0 x11_1) 127)) x6_1)) (IntKind.u64.wrap (x6_1 + 7)) l0 (l0.length : Int) (wrap64 (x11_1 + 1))) else (none))) = some (r1, r2, r3) := by rw [if_neg (show ¬ (false = true) by decide)] at H; exact H
                  clear H
                  have H := H1
                  clear H1
                  by_cases c9 : (rd l0 x11_1) < 128
                  · rw [if_pos c9] at H
                    have c9b0 : decide ((rd l0 x11_1) < 128) = true := decide_eq_true c9
                    clear c9
                    by_cases c10 : (rd l0 x11_1) = 0
                    · rw [if_pos c10] at H
                      have c10b0 : ((rd l0 x11_1) == 0) = true := beq_iff_eq.mpr c10
                      have c10b1 : ((rd l0 x11_1) != 0) = false := bne_eq_false_iff_eq.mpr c10
                      clear c10
                      by_cases c11 : x6_1 > 0
                      · rw [if_pos c11] at H
                        exact absurd H (by simp)
                      · rw [if_neg c11] at H
                        have c11b0 : decide (0 < x6_1) = false := decide_eq_false c11
                        clear c11
                        by_cases c12 : 0 ≤ x6_1
                        · rw [if_pos c12] at H
                          have c12b0 := eq_true c12
                          have c12b1 : decide (0 ≤ x6_1) = true := decide_eq_true c12
                          clear c12
                          obtain ⟨ji13, hji13⟩ : ∃ j_ : Int, (shl .u64 (IntKind.u64.wrap ((rd l0 x11_1))) x6_1) = j_ := ⟨_, rfl⟩
                          replace H : (some (Go.bits .or .u64 x5_1 (ji13), wrap64 (x11_1 + 1), none)) = some (r1, r2, r3) := by first | (rw [hji13] at H; exact H) | (simp only [hji13] at H ⊢; exact H)
                          have hji13_ : (IntKind.u64.wrap ((IntKind.u64.wrap ((rd l0 x11_1))) * 2 ^ min x6_1.toNat 64)) = ji13 := hji13
                          have hji13z : x6_1 ≤ 64 → (IntKind.u64.wrap ((IntKind.u64.wrap ((rd l0 x11_1))) * 2 ^ x6_1.toNat)) = ji13 := shl_small hji13
                          simp only [Option.some.injEq, Prod.mk.injEq] at H
                          obtain ⟨rfl, rfl, rfl⟩ := H
                          go_wp2
                          repeat (go_quiet (fail); try go_wp2)
                          go_ret3
                          exact ExE.intro 0 .nilIface (⟨by first | rfl | (simp; done) | (simp only [← hji13] <;> (first | rfl | simp)) | (simp [*]; done), by repeat (first | exact Drawn0.refl _ | apply Drawn0.step)⟩)
                        · rw [if_neg c12] at H
                          exact absurd H (by simp)
                    · rw [if_neg c10] at H
                      have c10b0 : ((rd l0 x11_1) == 0) = false := beq_eq_false_iff_ne.mpr c10
                      have c10b1 : ((rd l0 x11_1) != 0) = true := bne_iff_ne.mpr c10
                      by_cases c14 : 0 ≤ x6_1
                      · rw [if_pos c14] at H
                        have c14b0 := eq_true c14
                        have c14b1 : decide (0 ≤ x6_1) = true := decide_eq_true c14
                        clear c14
                        obtain ⟨ji15, hji15⟩ : ∃ j_ : Int, (shl .u64 (IntKind.u64.wrap ((rd l0 x11_1))) x6_1) = j_ := ⟨_, rfl⟩
                        replace H : (some (Go.bits .or .u64 x5_1 (ji15), wrap64 (x11_1 + 1), none)) = some (r1, r2, r3) := by first | (rw [hji15] at H; exact H) | (simp only [hji15] at H ⊢; exact H)
                        have hji15_ : (IntKind.u64.wrap ((IntKind.u64.wrap ((rd l0 x11_1))) * 2 ^ min x6_1.toNat 64)) = ji15 := hji15
                        have hji15z : x6_1 ≤ 64 → (IntKind.u64.wrap ((IntKind.u64.wrap ((rd l0 x11_1))) * 2 ^ x6_1.toNat)) = ji15 := shl_small hji15
                        simp only [Option.some.injEq, Prod.mk.injEq] at H
                        obtain ⟨rfl, rfl, rfl⟩ := H
                        go_wp2
                        repeat (go_quiet (fail); try go_wp2)
                        go_ret3
                        exact ExE.intro 0 .nilIface (⟨by first | rfl | (simp; done) | (simp only [← hji15] <;> (first | rfl | simp)) | (simp [*]; done), by repeat (first | exact Drawn0.refl _ | apply Drawn0.step)⟩)
                      · rw [if_neg c14] at H
                        exact absurd H (by simp)
                  · rw [if_neg c9] at H
                    have c9b0 : decide ((rd l0 x11_1) < 128) = false := decide_eq_false c9
                    clear c9
                    by_cases c16 : 0 ≤ x6_1
                    · rw [if_pos c16] at H
                      have c16b0 := eq_true c16
                      have c16b1 : decide (0 ≤ x6_1) = true := decide_eq_true c16
                      clear c16
                      obtain ⟨ji17, hji17⟩ : ∃ j_ : Int, (shl .u64 (IntKind.u64.wrap (Go.bits .and .u8 (rd l0 x11_1) 127)) x6_1) = j_ := ⟨_, rfl⟩
                      replace H : (govarint_FromUvarint.l0 kj4 (Go.bits .or .u64 x5_1 (ji17)) (IntKind.u64.wrap (x6_1 + 7)) l0 (l0.length : Int) (wrap64 (x11_1 + 1))) = some (r1, r2, r3) := by first | (rw [hji17] at H; exact H) | (simp only [hji17] at H ⊢; exact H)
                      have hji17_ : (IntKind.u64.wrap ((IntKind.u64.wrap (Go.bits .and .u8 (rd l0 x11_1) 127)) * 2 ^ min x6_1.toNat 64)) = ji17 := hji17
                      have hji17z : x6_1 ≤ 64 → (IntKind.u64.wrap ((IntKind.u64.wrap (Go.bits .and .u8 (rd l0 x11_1) 127)) * 2 ^ x6_1.toNat)) = ji17 := shl_small hji17
                      have H' := Aside0.mk H
                      clear H
                      go_wp2
                      repeat (go_quiet (fail); try go_wp2)
                      go_roundg kj4
                      case measure => have := HK1.out; have := HJ4.out; omega
                      case rel => exact ⟨(Go.bits .or .u64 x5_1 (ji17)), (IntKind.u64.wrap (x6_1 + 7)), (wrap64 (x11_1 + 1)), (by first | rfl | (simp; done) | (simp only [← hji17] <;> (first | rfl | simp)) | (simp [*]; done)), (by first | rfl | (simp; done) | (simp [*]; done)), (by first | rfl | (simp; done) | (simp [*]; done)), H', ⟨by have := HK1.out; have := HJ4.out; omega⟩, by repeat (first | exact Drawn0.refl _ | apply Drawn0.step)⟩
                    · rw [if_neg c16] at H
                      exact absurd H (by simp)
          · rw [if_neg c4] at H
            exact absurd H (by simp)
        · rw [if_neg c3] at H
          exact absurd H (by simp)
      · rw [if_neg c2] at H
        exact absurd H (by simp)

end Go.Proofs.YteekkpofcbcikaaDoor.PWan
