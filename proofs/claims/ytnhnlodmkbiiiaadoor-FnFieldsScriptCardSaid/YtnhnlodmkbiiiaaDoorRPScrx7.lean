/- Printed by a program of this session (it drives the print of the kit, with contracts proved by hand beside): the Go functions of one law as Lean functions, and that the Go code comes to what they say. -/
import Derived.Test.YtnhnlodmkbiiiaaDoorRPScrx0
namespace Go.Proofs.YtnhnlodmkbiiiaaDoor.PScr
open Go.RowKit Go.Proofs.YtnhnlodmkbiiiaaDoorL Go.Proofs.YtnhnlodmkbiiiaaDoorW.PrintWords Go.Proofs.YtnhnlodmkbiiiaaDoorW.PrintLast Go.Proofs.YtnhnlodmkbiiiaaDoorW.PrintMore
attribute [local go_sem] max2_int min2_int max_two min_two max_three min_three max_four min_four   -- for this text's walks alone
set_option linter.unusedVariables false
set_option linter.unusedSimpArgs false

/-! ### spec_ReadUvarint: function 47 -/
mutual
def spec_ReadUvarint.l0 : Nat → List Int → Int → Int → Option (Int × Int)
 | 0, _, _, _ => none
 | k + 1, x0, x4, x5 => if x5 < (x0.length : Int) then (spec_ReadUvarint.j1 k x0 x4 x5 (decide (x5 < 10))) else (spec_ReadUvarint.j1 k x0 x4 x5 false)
def spec_ReadUvarint.j1 : Nat → List Int → Int → Int → Bool → Option (Int × Int)
 | 0, _, _, _, _ => none
 | k + 1, x0, x4, x5, x13 => if x13 = true then (if x5 = 9 then (if 0 ≤ x5 then (if x5 < (x0.length : Int) then (spec_ReadUvarint.j2 k x0 x4 x5 (decide ((rd x0 x5) > 1))) else (none)) else (none)) else (spec_ReadUvarint.j2 k x0 x4 x5 false)) else (some (0, 0))
def spec_ReadUvarint.j2 : Nat → List Int → Int → Int → Bool → Option (Int × Int)
 | 0, _, _, _, _ => none
 | k + 1, x0, x4, x5, x24 => if x24 = true then (some (0, 0)) else (if 0 ≤ x5 then (if x5 < (x0.length : Int) then (if 0 ≤ (wrap64 (7 * x5)) then (if (rd x0 x5) < 128 then (some (Go.bits .or .u64 x4 (shl .u64 (IntKind.u64.wrap (Go.bits .and .u8 (rd x0 x5) 127)) (wrap64 (7 * x5))), wrap64 (x5 + 1))) else (spec_ReadUvarint.l0 k x0 (Go.bits .or .u64 x4 (shl .u64 (IntKind.u64.wrap (Go.bits .and .u8 (rd x0 x5) 127)) (wrap64 (7 * x5)))) (wrap64 (x5 + 1)))) else (none)) else (none)) else (none))
end
def spec_ReadUvarint.f (k : Nat) (l0 : List Int) : Option (Int × Int) := spec_ReadUvarint.l0 k l0 0 0
set_option maxHeartbeats 8000000 in
set_option maxRecDepth 100000 in
theorem spec_ReadUvarint.calls (k : Nat) (A0 : Option Addr) (c0 : Nat) (l0 : List Int) (r1 : Int) (r2 : Int) (w : World) (hr0 : Kd.C (Kd.int .u8) w A0 l0.length l0) (hc0 : l0.length ≤ c0) (h : spec_ReadUvarint.f k l0 = some (r1, r2)) :
  Calls Tryd.prog 47 #[.slice A0 l0.length c0] w fun e w' => e = .returned (.tuple #[.int .u64 r1, .int .i64 r2]) ∧ Drawn0 w w' := by
 have HR0 := Aside0.mk hr0
 have HC0 := Aside0.mk hc0
 clear hr0 hc0
 have H : (spec_ReadUvarint.l0 k l0 0 0) = some (r1, r2) := h
 clear h
 have H' := Aside0.mk H
 clear H
 go_enter Tryd.func47, Tryd.ntmps47
 go_wp2
 (try simp only [Act.put, List.setIfInBounds_toArray, List.set_cons_zero, List.set_cons_succ])
 go_loopg [4, 5] k (fun kq v4 v5 w' => ∃ (x4_1 : Int) (x5_1 : Int), v4 = .int .u64 x4_1 ∧ v5 = .int .i64 x5_1 ∧ Aside0 (spec_ReadUvarint.l0 kq l0 x4_1 x5_1 = some (r1, r2)) ∧ Aside0 (kq ≤ k) ∧ Drawn0 w w')
 case atStart => exact ⟨(0), (0), (by first | rfl | (simp; done) | (simp [*]; done)), (by first | rfl | (simp; done) | (simp [*]; done)), H', ⟨Nat.le_refl _⟩, by repeat (first | exact Drawn0.refl _ | apply Drawn0.step)⟩
 case round =>
  clear H'
  obtain ⟨x4_1, x5_1, rfl, rfl, HA, HK1, ⟨m1, rfl⟩⟩ := hrel
  cases gk with
  | zero => exact absurd HA.out (by simp [spec_ReadUvarint.l0])
  | succ k1 =>
   have H := HA.out
   clear HA
   simp only [spec_ReadUvarint.l0] at H
   have HC2 := Aside0.mk H
   clear H
   go_upto_region 3 with (fail)
   go_cut [13] (fun v13 wc => ∃ (kq : Nat) (x13_1 : Bool), v13 = .bool x13_1 ∧ Aside0 (spec_ReadUvarint.j1 kq l0 x4_1 x5_1 x13_1 = some (r1, r2)) ∧ Aside0 (kq ≤ k1) ∧ Drawn0 w wc)
   case first =>
    have H := HC2.out
    clear HC2
    by_cases c3 : x5_1 < (l0.length : Int)
    ·rw [if_pos c3] at H
     have c3b0 : decide (x5_1 < (l0.length : Int)) = true := decide_eq_true c3
     clear c3
     (first | rw [c3b0] | (simp only [i64_w, i32_w]; rw [c3b0]) | skip)
     have H' := Aside0.mk H
     clear H
     go_wp2
     go_meet
     case rel => exact ⟨_, (decide (x5_1 < 10)), (by first | rfl | (simp; done) | (simp [*]; done)), H', ⟨by have := HK1.out; first | omega | exact Nat.le_refl _⟩, by repeat (first | exact Drawn0.refl _ | apply Drawn0.step)⟩
    ·rw [if_neg c3] at H
     have c3b0 : decide (x5_1 < (l0.length : Int)) = false := decide_eq_false c3
     clear c3
     (first | rw [c3b0] | (simp only [i64_w, i32_w]; rw [c3b0]) | skip)
     have H' := Aside0.mk H
     clear H
     go_wp2
     go_meet
     case rel => exact ⟨_, (false), (by first | rfl | (simp; done) | (simp [*]; done)), H', ⟨by have := HK1.out; first | omega | exact Nat.le_refl _⟩, by repeat (first | exact Drawn0.refl _ | apply Drawn0.step)⟩
   case rest =>
    clear HC2
    try clear p2
    try clear c3
    try clear c3b0
    obtain ⟨kq, x13_1, rfl, HA, HJ1, ⟨mc1, rfl⟩⟩ := hcut
    cases kq with
    | zero => exact absurd HA.out (by simp [spec_ReadUvarint.j1])
    | succ kj1 =>
     have H := HA.out
     clear HA
     simp only [spec_ReadUvarint.j1] at H
     by_cases c4 : x13_1 = true
     ·subst c4
      have H1 : (if x5_1 = 9 then (if 0 ≤ x5_1 then (if x5_1 < (l0.length : Int) then (spec_ReadUvarint.j2 kj1 l0 x4_1 x5_1 (decide ((rd l0 x5_1) > 1))) else (none)) else (none)) else (spec_ReadUvarint.j2 kj1 l0 x4_1 x5_1 false)) = some (r1, r2) := by rw [if_pos rfl] at H; exact H
      clear H
      have H := H1
      clear H1
      have HC5 := Aside0.mk H
      clear H
      go_upto_region 5 with (fail)
      go_cut [24] (fun v24 wc => ∃ (kq : Nat) (x24_4 : Bool), v24 = .bool x24_4 ∧ Aside0 (spec_ReadUvarint.j2 kq l0 x4_1 x5_1 x24_4 = some (r1, r2)) ∧ Aside0 (kq ≤ kj1) ∧ Drawn0 w wc)
      case first =>
       have H := HC5.out
       clear HC5
       by_cases c6 : x5_1 = 9
       ·rw [if_pos c6] at H
        have c6b0 : (x5_1 == 9) = true := beq_iff_eq.mpr c6
        have c6b1 : (x5_1 != 9) = false := bne_eq_false_iff_eq.mpr c6
        clear c6
        (first | rw [c6b0] | (simp only [i64_w, i32_w]; rw [c6b0]) | skip)
        by_cases c7 : 0 ≤ x5_1
        ·rw [if_pos c7] at H
         have c7b0 : decide (0 ≤ x5_1) = true := decide_eq_true c7
         clear c7
         by_cases c8 : x5_1 < (l0.length : Int)
         ·rw [if_pos c8] at H
          have c8b0 : decide (x5_1 < (l0.length : Int)) = true := decide_eq_true c8
          clear c8
          have H' := Aside0.mk H
          clear H
          have p120 : 0 ≤ (x5_1 : Int) := of_decide_eq_true (by first | (with_reducible assumption) | assumption)
          have q120 : x5_1 < (l0.length : Int) := of_decide_eq_true (by first | (with_reducible assumption) | assumption)
          obtain ⟨ad120, e120, hx120_0⟩ := Kd.at_int HR0.out x5_1 p120 q120
          cases e120
          replace p120 := eq_true p120
          replace q120 := eq_true q120
          go_wp2
          go_meet
          case rel => exact ⟨_, (decide ((rd l0 x5_1) > 1)), (by first | rfl | (simp; done) | (simp [*]; done)), H', ⟨by have := HK1.out; have := HJ1.out; first | omega | exact Nat.le_refl _⟩, by repeat (first | exact Drawn0.refl _ | apply Drawn0.step)⟩
         ·rw [if_neg c8] at H
          exact absurd H (by simp)
        ·rw [if_neg c7] at H
         exact absurd H (by simp)
       ·rw [if_neg c6] at H
        have c6b0 : (x5_1 == 9) = false := beq_eq_false_iff_ne.mpr c6
        have c6b1 : (x5_1 != 9) = true := bne_iff_ne.mpr c6
        (first | rw [c6b0] | (simp only [i64_w, i32_w]; rw [c6b0]) | skip)
        have H' := Aside0.mk H
        clear H
        go_wp2
        go_meet
        case rel => exact ⟨_, (false), (by first | rfl | (simp; done) | (simp [*]; done)), H', ⟨by have := HK1.out; have := HJ1.out; first | omega | exact Nat.le_refl _⟩, by repeat (first | exact Drawn0.refl _ | apply Drawn0.step)⟩
      case rest =>
       clear HC5
       try clear c1
       try clear p1
       try clear q1
       try clear hx1
       try clear p2
       try clear c3
       try clear c3b0
       try clear c4
       try clear c6
       try clear c6b0
       try clear c6b1
       try clear c7
       try clear c7b0
       try clear c8
       try clear c8b0
       try clear hx120_0
       try clear p120
       try clear p2
       try clear q120
       obtain ⟨kq, x24_4, rfl, HA, HJ4, ⟨mc4, rfl⟩⟩ := hcut
       cases kq with
       | zero => exact absurd HA.out (by simp [spec_ReadUvarint.j2])
       | succ kj4 =>
        have H := HA.out
        clear HA
        simp only [spec_ReadUvarint.j2] at H
        by_cases c9 : x24_4 = true
        ·subst c9
         have H1 : (some (0, 0)) = some (r1, r2) := by rw [if_pos rfl] at H; exact H
         clear H
         have H := H1
         clear H1
         simp only [Option.some.injEq, Prod.mk.injEq] at H
         obtain ⟨rfl, rfl⟩ := H
         go_wp2
         go_ret2
         exact ⟨by first | rfl | (simp; done) | (simp [*]; done), by repeat (first | exact Drawn0.refl _ | apply Drawn0.step)⟩
        ·replace c9 := Bool.eq_false_iff.mpr c9
         subst c9
         have H1 : (if 0 ≤ x5_1 then (if x5_1 < (l0.length : Int) then (if 0 ≤ (wrap64 (7 * x5_1)) then (if (rd l0 x5_1) < 128 then (some (Go.bits .or .u64 x4_1 (shl .u64 (IntKind.u64.wrap (Go.bits .and .u8 (rd l0 x5_1) 127)) (wrap64 (7 * x5_1))), wrap64 (x5_1 + 1))) else (spec_ReadUvarint.l0 kj4 l0 (Go.bits .or .u64 x4_1 (shl .u64 (IntKind.u64.wrap (Go.bits .and .u8 (rd l0 x5_1) 127)) (wrap64 (7 * x5_1)))) (wrap64 (x5_1 + 1)))) else (none)) else (none)) else (none)) = some (r1, r2) := by rw [if_neg (show ¬ (false = true) by decide)] at H; exact H
         clear H
         have H := H1
         clear H1
         by_cases c10 : 0 ≤ x5_1
         ·rw [if_pos c10] at H
          have c10b0 : decide (0 ≤ x5_1) = true := decide_eq_true c10
          clear c10
          by_cases c11 : x5_1 < (l0.length : Int)
          ·rw [if_pos c11] at H
           have c11b0 : decide (x5_1 < (l0.length : Int)) = true := decide_eq_true c11
           clear c11
           obtain ⟨ji12, hji12⟩ : ∃ j_ : Int, (wrap64 (7 * x5_1)) = j_ := ⟨_, rfl⟩
           replace H : (if 0 ≤ (ji12) then (if (rd l0 x5_1) < 128 then (some (Go.bits .or .u64 x4_1 (shl .u64 (IntKind.u64.wrap (Go.bits .and .u8 (rd l0 x5_1) 127)) (ji12)), wrap64 (x5_1 + 1))) else (spec_ReadUvarint.l0 kj4 l0 (Go.bits .or .u64 x4_1 (shl .u64 (IntKind.u64.wrap (Go.bits .and .u8 (rd l0 x5_1) 127)) (ji12))) (wrap64 (x5_1 + 1)))) else (none)) = some (r1, r2) := by first | (rw [hji12] at H; exact H) | (simp only [hji12] at H ⊢; exact H)
           have hji12w : (IntKind.i64.wrap (7 * x5_1)) = ji12 := (i64_w _).trans hji12
           by_cases c13 : 0 ≤ (ji12)
           ·rw [if_pos c13] at H
            have c13b0 := eq_true c13
            have c13b1 : decide (0 ≤ (ji12)) = true := decide_eq_true c13
            clear c13
            obtain ⟨ji14, hji14⟩ : ∃ j_ : Int, (shl .u64 (IntKind.u64.wrap (Go.bits .and .u8 (rd l0 x5_1) 127)) (ji12)) = j_ := ⟨_, rfl⟩
            replace H : (if (rd l0 x5_1) < 128 then (some (Go.bits .or .u64 x4_1 (ji14), wrap64 (x5_1 + 1))) else (spec_ReadUvarint.l0 kj4 l0 (Go.bits .or .u64 x4_1 (ji14)) (wrap64 (x5_1 + 1)))) = some (r1, r2) := by first | (rw [hji14] at H; exact H) | (simp only [hji14] at H ⊢; exact H)
            have hji14_ : (IntKind.u64.wrap ((IntKind.u64.wrap (Go.bits .and .u8 (rd l0 x5_1) 127)) * 2 ^ min (ji12).toNat 64)) = ji14 := hji14
            have hji14z : (ji12) ≤ 64 → (IntKind.u64.wrap ((IntKind.u64.wrap (Go.bits .and .u8 (rd l0 x5_1) 127)) * 2 ^ (ji12).toNat)) = ji14 := shl_small hji14
            by_cases c15 : (rd l0 x5_1) < 128
            ·rw [if_pos c15] at H
             have c15b0 : decide ((rd l0 x5_1) < 128) = true := decide_eq_true c15
             clear c15
             simp only [Option.some.injEq, Prod.mk.injEq] at H
             obtain ⟨rfl, rfl⟩ := H
             have p121 : 0 ≤ (x5_1 : Int) := of_decide_eq_true (by first | (with_reducible assumption) | assumption)
             have q121 : x5_1 < (l0.length : Int) := of_decide_eq_true (by first | (with_reducible assumption) | assumption)
             obtain ⟨ad121, e121, hx121_0⟩ := Kd.at_int HR0.out x5_1 p121 q121
             cases e121
             replace p121 := eq_true p121
             replace q121 := eq_true q121
             have p122 : 0 ≤ (x5_1 : Int) := of_decide_eq_true (by first | (with_reducible assumption) | assumption)
             have q122 : x5_1 < (l0.length : Int) := of_decide_eq_true (by first | (with_reducible assumption) | assumption)
             obtain ⟨ad122, e122, hx122_0⟩ := Kd.at_int HR0.out x5_1 p122 q122
             obtain rfl : ad121 = ad122 := (by injection e122)
             replace p122 := eq_true p122
             replace q122 := eq_true q122
             go_wp2
             go_ret2
             exact ⟨by first | rfl | (simp; done) | (simp only [← hji12, ← hji14] <;> (first | rfl | simp)) | (simp [*]; done), by repeat (first | exact Drawn0.refl _ | apply Drawn0.step)⟩
            ·rw [if_neg c15] at H
             have c15b0 : decide ((rd l0 x5_1) < 128) = false := decide_eq_false c15
             clear c15
             have H' := Aside0.mk H
             clear H
             have p121 : 0 ≤ (x5_1 : Int) := of_decide_eq_true (by first | (with_reducible assumption) | assumption)
             have q121 : x5_1 < (l0.length : Int) := of_decide_eq_true (by first | (with_reducible assumption) | assumption)
             obtain ⟨ad121, e121, hx121_0⟩ := Kd.at_int HR0.out x5_1 p121 q121
             cases e121
             replace p121 := eq_true p121
             replace q121 := eq_true q121
             have p122 : 0 ≤ (x5_1 : Int) := of_decide_eq_true (by first | (with_reducible assumption) | assumption)
             have q122 : x5_1 < (l0.length : Int) := of_decide_eq_true (by first | (with_reducible assumption) | assumption)
             obtain ⟨ad122, e122, hx122_0⟩ := Kd.at_int HR0.out x5_1 p122 q122
             obtain rfl : ad121 = ad122 := (by injection e122)
             replace p122 := eq_true p122
             replace q122 := eq_true q122
             go_wp2
             go_roundg kj4
             case measure => have := HK1.out; have := HJ1.out; have := HJ4.out; omega
             case rel => exact ⟨(Go.bits .or .u64 x4_1 (ji14)), (wrap64 (x5_1 + 1)), (by first | rfl | (simp; done) | (simp only [← hji14] <;> (first | rfl | simp)) | (simp [*]; done)), (by first | rfl | (simp; done) | (simp [*]; done)), H', ⟨by have := HK1.out; have := HJ1.out; have := HJ4.out; omega⟩, by repeat (first | exact Drawn0.refl _ | apply Drawn0.step)⟩
           ·rw [if_neg c13] at H
            exact absurd H (by simp)
          ·rw [if_neg c11] at H
           exact absurd H (by simp)
         ·rw [if_neg c10] at H
          exact absurd H (by simp)
     ·replace c4 := Bool.eq_false_iff.mpr c4
      subst c4
      have H1 : (some (0, 0)) = some (r1, r2) := by rw [if_neg (show ¬ (false = true) by decide)] at H; exact H
      clear H
      have H := H1
      clear H1
      simp only [Option.some.injEq, Prod.mk.injEq] at H
      obtain ⟨rfl, rfl⟩ := H
      go_wp2
      go_ret2
      exact ⟨by first | rfl | (simp; done) | (simp [*]; done), by repeat (first | exact Drawn0.refl _ | apply Drawn0.step)⟩

end Go.Proofs.YtnhnlodmkbiiiaaDoor.PScr
