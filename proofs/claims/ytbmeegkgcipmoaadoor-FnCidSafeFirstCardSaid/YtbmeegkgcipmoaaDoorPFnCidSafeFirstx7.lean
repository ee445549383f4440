/- Printed by a program of this session (it drives the print of the kit, with contracts proved by hand beside): the Go functions of one law as Lean functions, and that the Go code comes to what they say. -/
import Derived.Test.YtbmeegkgcipmoaaDoorPFnCidSafeFirstx0
namespace Go.Proofs.YtbmeegkgcipmoaaDoor.PFnCidSafeFirst
open Go.RowKit Go.Proofs.YtbmeegkgcipmoaaDoorL Go.Proofs.YtbmeegkgcipmoaaDoorW.PrintWords Go.Proofs.YtbmeegkgcipmoaaDoorW.PrintLast Go.Proofs.YtbmeegkgcipmoaaDoorW.PrintMore
attribute [local go_sem] max2_int min2_int max_two min_two max_three min_three max_four min_four   -- for this text's walks alone
set_option linter.unusedVariables false
set_option linter.unusedSimpArgs false

/-! ### gocid_uvarint: function 37 -/
mutual
def gocid_uvarint.l0 : Nat → ByteArray → Int → Int → Int → Option (Int × Int × Option Int)
  | 0, _, _, _, _ => none
  | k + 1, x0, x5, x6, x7 => if x7 < (x0.size : Int) then (if 0 ≤ x7 then (if (bt x0 x7) < 128 then (if x7 > 9 then (gocid_uvarint.j1 k x5 x6 x7 (bt x0 x7) true) else (if x7 = 9 then (gocid_uvarint.j1 k x5 x6 x7 (bt x0 x7) (decide ((bt x0 x7) > 1))) else (gocid_uvarint.j1 k x5 x6 x7 (bt x0 x7) false))) else (if 0 ≤ x6 then (gocid_uvarint.l0 k x0 (Go.bits .or .u64 x5 (shl .u64 (IntKind.u64.wrap (Go.bits .and .u8 (bt x0 x7) 127)) x6)) (IntKind.u64.wrap (x6 + 7)) (wrap64 (x7 + 1))) else (none))) else (none)) else (none)
def gocid_uvarint.j1 : Nat → Int → Int → Int → Int → Bool → Option (Int × Int × Option Int)
  | 0, _, _, _, _, _ => none
  | k + 1, x5, x6, x7, x8, x29 => if x29 = true then (none) else (if x8 = 0 then (if x7 > 0 then (none) else (if 0 ≤ x6 then (some (Go.bits .or .u64 x5 (shl .u64 (IntKind.u64.wrap (x8)) x6), wrap64 (x7 + 1), none)) else (none))) else (if 0 ≤ x6 then (some (Go.bits .or .u64 x5 (shl .u64 (IntKind.u64.wrap (x8)) x6), wrap64 (x7 + 1), none)) else (none)))
end
def gocid_uvarint.f (k : Nat) (a0 : ByteArray) : Option (Int × Int × Option Int) := gocid_uvarint.l0 k a0 0 0 0
theorem gocid_uvarint.mono_l : ∀ k, (∀ y0 y1 y2 y3, LeO (gocid_uvarint.l0 k y0 y1 y2 y3) (gocid_uvarint.l0 (k + 1) y0 y1 y2 y3)) ∧ (∀ y0 y1 y2 y3 y4, LeO (gocid_uvarint.j1 k y0 y1 y2 y3 y4) (gocid_uvarint.j1 (k + 1) y0 y1 y2 y3 y4))
  | 0 => ⟨fun _ _ _ _ r h => by simp [gocid_uvarint.l0] at h, fun _ _ _ _ _ r h => by simp [gocid_uvarint.j1] at h⟩
  | k + 1 => by
    obtain ⟨ih0, ih1⟩ := gocid_uvarint.mono_l k
    refine ⟨?_, ?_⟩
    · intro y0 y1 y2 y3
      unfold gocid_uvarint.l0
      repeat' first
      | (with_reducible exact ih0 _ _ _ _)
      | (with_reducible exact ih1 _ _ _ _ _)
      | (with_reducible exact LeO.refl _)
      | (with_reducible exact LeO.none _)
      | (with_reducible refine LeO.ite ?_ ?_)
      | (with_reducible refine LeO.bind ?_ (fun _ => ?_))
      | exact ih0 _ _ _ _
      | exact ih1 _ _ _ _ _
      | exact LeO.none _
      | refine LeO.ite ?_ ?_
      | refine LeO.bind ?_ (fun _ => ?_)
    · intro y0 y1 y2 y3 y4
      unfold gocid_uvarint.j1
      repeat' first
      | (with_reducible exact ih0 _ _ _ _)
      | (with_reducible exact ih1 _ _ _ _ _)
      | (with_reducible exact LeO.refl _)
      | (with_reducible exact LeO.none _)
      | (with_reducible refine LeO.ite ?_ ?_)
      | (with_reducible refine LeO.bind ?_ (fun _ => ?_))
      | exact ih0 _ _ _ _
      | exact ih1 _ _ _ _ _
      | exact LeO.none _
      | refine LeO.ite ?_ ?_
      | refine LeO.bind ?_ (fun _ => ?_)
theorem gocid_uvarint.mono : ∀ a0 k, LeO (gocid_uvarint.f k a0) (gocid_uvarint.f (k + 1) a0) := by
  intro a0 k
  obtain ⟨ih0, ih1⟩ := gocid_uvarint.mono_l k
  unfold gocid_uvarint.f
  repeat' first
      | (with_reducible exact ih0 _ _ _ _)
      | (with_reducible exact ih1 _ _ _ _ _)
      | (with_reducible exact LeO.refl _)
      | (with_reducible exact LeO.none _)
      | (with_reducible refine LeO.ite ?_ ?_)
      | (with_reducible refine LeO.bind ?_ (fun _ => ?_))
      | exact ih0 _ _ _ _
      | exact ih1 _ _ _ _ _
      | exact LeO.none _
      | refine LeO.ite ?_ ?_
      | refine LeO.bind ?_ (fun _ => ?_)
set_option maxHeartbeats 8000000 in
set_option maxRecDepth 100000 in
theorem gocid_uvarint.calls (k : Nat) (a0 : ByteArray) (r1 : Int) (r2 : Int) (r3 : Option Int) (w : World) (h : gocid_uvarint.f k a0 = some (r1, r2, r3)) :
    Calls Tryd.prog 37 #[.string a0] w fun e w' => ExE fun eT2_ eX2_ => e = .returned (.tuple #[.int .u64 r1, .int .i64 r2, errV r3 eT2_ eX2_]) ∧ Drawn0 w w' := by
  have H : (gocid_uvarint.l0 k a0 0 0 0) = some (r1, r2, r3) := h
  clear h
  have H' := Aside0.mk H
  clear H
  go_enter Tryd.func37, Tryd.ntmps37
  go_wp2
  repeat (go_quiet (fail); try go_wp2)
  go_loopg [5, 6, 7] k (fun kq v5 v6 v7 w' => ∃ (x5_1 : Int) (x6_1 : Int) (x7_1 : Int), v5 = .int .u64 x5_1 ∧ v6 = .int .u64 x6_1 ∧ v7 = .int .i64 x7_1 ∧ Aside0 (gocid_uvarint.l0 kq a0 x5_1 x6_1 x7_1 = some (r1, r2, r3)) ∧ Aside0 (kq ≤ k) ∧ Drawn0 w w')
  case atStart => exact ⟨(0), (0), (0), (by first | rfl | (simp; done) | (simp [*]; done)), (by first | rfl | (simp; done) | (simp [*]; done)), (by first | rfl | (simp; done) | (simp [*]; done)), H', ⟨Nat.le_refl _⟩, by repeat (first | exact Drawn0.refl _ | apply Drawn0.step)⟩
  case round =>
    clear H'
    obtain ⟨x5_1, x6_1, x7_1, rfl, rfl, rfl, HA, HK1, ⟨m1, rfl⟩⟩ := hrel
    cases gk with
    | zero => exact absurd HA.out (by simp [gocid_uvarint.l0])
    | succ k1 =>
      have H := HA.out
      clear HA
      simp only [gocid_uvarint.l0] at H
      by_cases c2 : x7_1 < (a0.size : Int)
      · rw [if_pos c2] at H
        have c2b0 : decide (x7_1 < (a0.size : Int)) = true := decide_eq_true c2
        clear c2
        by_cases c3 : 0 ≤ x7_1
        · rw [if_pos c3] at H
          have c3b0 : decide (0 ≤ x7_1) = true := decide_eq_true c3
          clear c3
          by_cases c5 : (bt a0 x7_1) < 128
          · rw [if_pos c5] at H
            have c5b0 : decide ((bt a0 x7_1) < 128) = true := decide_eq_true c5
            clear c5
            have HC6 := Aside0.mk H
            clear H
            have p4 : 0 ≤ (x7_1 : Int) := of_decide_eq_true (by first | (with_reducible assumption) | assumption)
            have q4 : x7_1 < (a0.size : Int) := of_decide_eq_true (by first | (with_reducible assumption) | assumption)
            have hx4 := bt_at a0 x7_1
            replace p4 := eq_true p4
            replace q4 := eq_true q4
            go_upto_region 8 with (fail)
            repeat (go_quiet (fail); go_upto_region 8 with (fail))
            go_cut [29] (fun v29 wc => ∃ (kq : Nat) (x29_5 : Bool), v29 = .bool x29_5 ∧ Aside0 (gocid_uvarint.j1 kq x5_1 x6_1 x7_1 (bt a0 x7_1) x29_5 = some (r1, r2, r3)) ∧ Aside0 (kq ≤ k1) ∧ Drawn0 w wc)
            case first =>
              have H := HC6.out
              clear HC6
              by_cases c7 : x7_1 > 9
              · rw [if_pos c7] at H
                have c7b0 : decide (9 < x7_1) = true := decide_eq_true c7
                clear c7
                (first | rw [c7b0] | (simp only [i64_w, i32_w]; rw [c7b0]) | skip)
                have H' := Aside0.mk H
                clear H
                go_wp2
                repeat (go_quiet (fail); try go_wp2)
                go_meet
                case rel => exact ⟨_, (true), (by first | rfl | (simp; done) | (simp [*]; done)), H', ⟨by have := HK1.out; first | omega | exact Nat.le_refl _⟩, by repeat (first | exact Drawn0.refl _ | apply Drawn0.step)⟩
              · rw [if_neg c7] at H
                have c7b0 : decide (9 < x7_1) = false := decide_eq_false c7
                clear c7
                (first | rw [c7b0] | (simp only [i64_w, i32_w]; rw [c7b0]) | skip)
                by_cases c8 : x7_1 = 9
                · rw [if_pos c8] at H
                  have c8b0 : (x7_1 == 9) = true := beq_iff_eq.mpr c8
                  have c8b1 : (x7_1 != 9) = false := bne_eq_false_iff_eq.mpr c8
                  clear c8
                  have H' := Aside0.mk H
                  clear H
                  go_wp2
                  repeat (go_quiet (fail); try go_wp2)
                  go_meet
                  case rel => exact ⟨_, (decide ((bt a0 x7_1) > 1)), (by first | rfl | (simp; done) | (simp [*]; done)), H', ⟨by have := HK1.out; first | omega | exact Nat.le_refl _⟩, by repeat (first | exact Drawn0.refl _ | apply Drawn0.step)⟩
                · rw [if_neg c8] at H
                  have c8b0 : (x7_1 == 9) = false := beq_eq_false_iff_ne.mpr c8
                  have c8b1 : (x7_1 != 9) = true := bne_iff_ne.mpr c8
                  have H' := Aside0.mk H
                  clear H
                  go_wp2
                  repeat (go_quiet (fail); try go_wp2)
                  go_meet
                  case rel => exact ⟨_, (false), (by first | rfl | (simp; done) | (simp [*]; done)), H', ⟨by have := HK1.out; first | omega | exact Nat.le_refl _⟩, by repeat (first | exact Drawn0.refl _ | apply Drawn0.step)⟩
            case rest =>
              clear HC6
              try clear c2
              try clear c2b0
              try clear p2
              try clear c3
              try clear c3b0
              try clear p4
              try clear q4
              try clear hx4
              try clear c5
              try clear c5b0
              try clear c7
              try clear c7b0
              try clear c8
              try clear c8b0
              try clear c8b1
              try clear p4
              try clear q4
              obtain ⟨kq, x29_5, rfl, HA, HJ5, ⟨mc5, rfl⟩⟩ := hcut
              cases kq with
              | zero => exact absurd HA.out (by simp [gocid_uvarint.j1])
              | succ kj5 =>
                have H := HA.out
                clear HA
                simp only [gocid_uvarint.j1] at H
                by_cases c9 : x29_5 = true
                · subst c9
                  have H1 : (none) = some (r1, r2, r3) := by rw [if_pos rfl] at H; exact H
                  clear H
                  have H := H1
                  clear H1
                  exact absurd H (by simp)
                · replace c9 := Bool.eq_false_iff.mpr c9
                  subst c9
                  have H1 : (if (bt a0 x7_1) = 0 then (if x7_1 > 0 then (none) else (if 0 ≤ x6_1 then (some (Go.bits .or .u64 x5_1 (shl .u64 (IntKind.u64.wrap ((bt a0 x7_1))) x6_1), wrap64 (x7_1 + 1), none)) else (none))) else (if 0 ≤ x6_1 then (some (Go.bits .or .u64 x5_1 (shl .u64 (IntKind.u64.wrap ((bt a0 x7_1))) x6_1), wrap64 (x7_1 + 1), none)) else (none))) = some (r1, r2, r3) := by rw [if_neg (show ¬ (false = true) by decide)] at H; exact H
                  clear H
                  have H := H1
                  clear H1
                  by_cases c10 : (bt a0 x7_1) = 0
                  · rw [if_pos c10] at H
                    have c10b0 : ((bt a0 x7_1) == 0) = true := beq_iff_eq.mpr c10
                    have c10b1 : ((bt a0 x7_1) != 0) = false := bne_eq_false_iff_eq.mpr c10
                    clear c10
                    by_cases c11 : x7_1 > 0
                    · rw [if_pos c11] at H
                      exact absurd H (by simp)
                    · rw [if_neg c11] at H
                      have c11b0 : decide (0 < x7_1) = false := decide_eq_false c11
                      clear c11
                      by_cases c12 : 0 ≤ x6_1
                      · rw [if_pos c12] at H
                        have c12b0 := eq_true c12
                        have c12b1 : decide (0 ≤ x6_1) = true := decide_eq_true c12
                        clear c12
                        obtain ⟨ji13, hji13⟩ : ∃ j_ : Int, (shl .u64 (IntKind.u64.wrap ((bt a0 x7_1))) x6_1) = j_ := ⟨_, rfl⟩
                        replace H : (some (Go.bits .or .u64 x5_1 (ji13), wrap64 (x7_1 + 1), none)) = some (r1, r2, r3) := by first | (rw [hji13] at H; exact H) | (simp only [hji13] at H ⊢; exact H)
                        have hji13_ : (IntKind.u64.wrap ((IntKind.u64.wrap ((bt a0 x7_1))) * 2 ^ min x6_1.toNat 64)) = ji13 := hji13
                        have hji13z : x6_1 ≤ 64 → (IntKind.u64.wrap ((IntKind.u64.wrap ((bt a0 x7_1))) * 2 ^ x6_1.toNat)) = ji13 := shl_small hji13
                        simp only [Option.some.injEq, Prod.mk.injEq] at H
                        obtain ⟨rfl, rfl, rfl⟩ := H
                        go_wp2
                        repeat (go_quiet (fail); try go_wp2)
                        go_ret3
                        exact ExE.intro 0 .nilIface (⟨by first | rfl | (simp; done) | (simp only [← hji13] <;> (first | rfl | simp)) | (simp [*]; done), by repeat (first | exact Drawn0.refl _ | apply Drawn0.step)⟩)
                      · rw [if_neg c12] at H
                        exact absurd H (by simp)
                  · rw [if_neg c10] at H
                    have c10b0 : ((bt a0 x7_1) == 0) = false := beq_eq_false_iff_ne.mpr c10
                    have c10b1 : ((bt a0 x7_1) != 0) = true := bne_iff_ne.mpr c10
                    by_cases c14 : 0 ≤ x6_1
                    · rw [if_pos c14] at H
                      have c14b0 := eq_true c14
                      have c14b1 : decide (0 ≤ x6_1) = true := decide_eq_true c14
                      clear c14
                      obtain ⟨ji15, hji15⟩ : ∃ j_ : Int, (shl .u64 (IntKind.u64.wrap ((bt a0 x7_1))) x6_1) = j_ := ⟨_, rfl⟩
                      replace H : (some (Go.bits .or .u64 x5_1 (ji15), wrap64 (x7_1 + 1), none)) = some (r1, r2, r3) := by first | (rw [hji15] at H; exact H) | (simp only [hji15] at H ⊢; exact H)
                      have hji15_ : (IntKind.u64.wrap ((IntKind.u64.wrap ((bt a0 x7_1))) * 2 ^ min x6_1.toNat 64)) = ji15 := hji15
                      have hji15z : x6_1 ≤ 64 → (IntKind.u64.wrap ((IntKind.u64.wrap ((bt a0 x7_1))) * 2 ^ x6_1.toNat)) = ji15 := shl_small hji15
                      simp only [Option.some.injEq, Prod.mk.injEq] at H
                      obtain ⟨rfl, rfl, rfl⟩ := H
                      go_wp2
                      repeat (go_quiet (fail); try go_wp2)
                      go_ret3
                      exact ExE.intro 0 .nilIface (⟨by first | rfl | (simp; done) | (simp only [← hji15] <;> (first | rfl | simp)) | (simp [*]; done), by repeat (first | exact Drawn0.refl _ | apply Drawn0.step)⟩)
                    · rw [if_neg c14] at H
                      exact absurd H (by simp)
          · rw [if_neg c5] at H
            have c5b0 : decide ((bt a0 x7_1) < 128) = false := decide_eq_false c5
            clear c5
            by_cases c16 : 0 ≤ x6_1
            · rw [if_pos c16] at H
              have c16b0 := eq_true c16
              have c16b1 : decide (0 ≤ x6_1) = true := decide_eq_true c16
              clear c16
              obtain ⟨ji17, hji17⟩ : ∃ j_ : Int, (shl .u64 (IntKind.u64.wrap (Go.bits .and .u8 (bt a0 x7_1) 127)) x6_1) = j_ := ⟨_, rfl⟩
              replace H : (gocid_uvarint.l0 k1 a0 (Go.bits .or .u64 x5_1 (ji17)) (IntKind.u64.wrap (x6_1 + 7)) (wrap64 (x7_1 + 1))) = some (r1, r2, r3) := by first | (rw [hji17] at H; exact H) | (simp only [hji17] at H ⊢; exact H)
              have hji17_ : (IntKind.u64.wrap ((IntKind.u64.wrap (Go.bits .and .u8 (bt a0 x7_1) 127)) * 2 ^ min x6_1.toNat 64)) = ji17 := hji17
              have hji17z : x6_1 ≤ 64 → (IntKind.u64.wrap ((IntKind.u64.wrap (Go.bits .and .u8 (bt a0 x7_1) 127)) * 2 ^ x6_1.toNat)) = ji17 := shl_small hji17
              have H' := Aside0.mk H
              clear H
              have p4 : 0 ≤ (x7_1 : Int) := of_decide_eq_true (by first | (with_reducible assumption) | assumption)
              have q4 : x7_1 < (a0.size : Int) := of_decide_eq_true (by first | (with_reducible assumption) | assumption)
              have hx4 := bt_at a0 x7_1
              replace p4 := eq_true p4
              replace q4 := eq_true q4
              go_wp2
              repeat (go_quiet (fail); try go_wp2)
              go_roundg k1
              case measure => have := HK1.out; omega
              case rel => exact ⟨(Go.bits .or .u64 x5_1 (ji17)), (IntKind.u64.wrap (x6_1 + 7)), (wrap64 (x7_1 + 1)), (by first | rfl | (simp; done) | (simp only [← hji17] <;> (first | rfl | simp)) | (simp [*]; done)), (by first | rfl | (simp; done) | (simp [*]; done)), (by first | rfl | (simp; done) | (simp [*]; done)), H', ⟨by have := HK1.out; omega⟩, by repeat (first | exact Drawn0.refl _ | apply Drawn0.step)⟩
            · rw [if_neg c16] at H
              exact absurd H (by simp)
        · rw [if_neg c3] at H
          exact absurd H (by simp)
      · rw [if_neg c2] at H
        exact absurd H (by simp)

end Go.Proofs.YtbmeegkgcipmoaaDoor.PFnCidSafeFirst
