/- Printed by a program of this session (it drives the print of the kit, with contracts proved by hand beside): the Go functions of one law as Lean functions, and that the Go code comes to what they say. -/
import Derived.Test.YtbmeegkgcipmoaaPFnBitsOnesx0
import Derived.Test.YtbmeegkgcipmoaaPFnBitsOnesx3
import Derived.Test.YtbmeegkgcipmoaaPFnBitsOnesx4
import Derived.Test.YtbmeegkgcipmoaaPFnBitsOnesx8
namespace Go.Proofs.Ytbmeegkgcipmoaa.PFnBitsOnes
open Go.RowKit Go.Proofs.YtbmeegkgcipmoaaL Go.Proofs.YtbmeegkgcipmoaaW.PrintWords Go.Proofs.YtbmeegkgcipmoaaW.PrintLast Go.Proofs.YtbmeegkgcipmoaaW.PrintMore
attribute [local go_sem] max2_int min2_int max_two min_two max_three min_three max_four min_four   -- for this text's walks alone
set_option linter.unusedVariables false
set_option linter.unusedSimpArgs false

/-! ### laws_FnBitsOnes: function 4 -/
mutual
def laws_FnBitsOnes.l0 : Nat → List Int → Int → Int → List Bool → List Int → Int → Int → Option (Bool)
  | 0, _, _, _, _, _, _, _ => none
  | k + 1, x1, x7, x8, x9, x42, x43, x44 => if x44 < x43 then (if 0 ≤ x44 then (if x44 < (x42.length : Int) then (if (rd x42 x44) ≥ 0 then (if 0 ≤ (rd x42 x44) then (if (rd x42 x44) < (x9.length : Int) then (laws_FnBitsOnes.l0 k x1 x7 x8 (x9.set ((rd x42 x44) : Int).toNat true) x42 x43 (wrap64 (x44 + 1))) else (none)) else (none)) else (if 0 ≤ (wrap64 ((-1) - (rd x42 x44))) then (if (wrap64 ((-1) - (rd x42 x44))) < (x9.length : Int) then (laws_FnBitsOnes.l0 k x1 x7 x8 (x9.set ((wrap64 ((-1) - (rd x42 x44))) : Int).toNat false) x42 x43 (wrap64 (x44 + 1))) else (none)) else (none))) else (none)) else (none)) else (laws_FnBitsOnes.l1 k x1 x7 x8 x9 0 0 x9 (x9.length : Int) 0)
def laws_FnBitsOnes.l1 : Nat → List Int → Int → Int → List Bool → Int → Int → List Bool → Int → Int → Option (Bool)
  | 0, _, _, _, _, _, _, _, _, _ => none
  | k + 1, x1, x7, x8, x9, x12, x13, x58, x59, x60 => if x60 < x59 then (if 0 ≤ x60 then (if x60 < (x58.length : Int) then (if rdOf false x58 x60 = true then (if x60 < x8 then (laws_FnBitsOnes.l1 k x1 x7 x8 x9 (wrap64 (x12 + 1)) (wrap64 (x13 + 1)) x58 x59 (wrap64 (x60 + 1))) else (laws_FnBitsOnes.l1 k x1 x7 x8 x9 (wrap64 (x12 + 1)) x13 x58 x59 (wrap64 (x60 + 1)))) else (laws_FnBitsOnes.l1 k x1 x7 x8 x9 x12 x13 x58 x59 (wrap64 (x60 + 1)))) else (none)) else (none)) else ((laws_shardPlaces.f k x7 x1).bind fun t198 => ((impl_BitsSet.f k x7 t198).bind fun bt201 => ((impl_BitsOnes.f k x7 bt201.1 x8).bind fun bt205 => (if bt201.2 = true then (if bt205.2.2.2.2 = true then (if 0 ≤ x8 then (if x8 < (x9.length : Int) then (if (bt205.1 == (rdOf false x9 x8)) = true then (if bt205.2.1 = x12 then (if bt205.2.2.1 = x13 then (if bt205.2.2.2.1 = (wrap64 (x12 - x13)) then ((laws_shardSetting.f k).bind fun t211 => (some t211)) else (some false)) else (some false)) else (some false)) else (some false)) else (none)) else (none)) else (some false)) else (some false)))))
end
def laws_FnBitsOnes.f (k : Nat) (a0 : Int) (l1 : List Int) (a2 : Int) : Option (Bool) := if (l1.length : Int) > 2147483647 then (some true) else (if (l1.length : Int) > 3000 then ((laws_shardSetting.f k).bind fun t187 => (some t187)) else (if (wrap64 (8 * (wrap64 (1 + (wrap64 (a0)))))) = 0 then (none) else (if 0 ≤ (wrap64 (8 * (wrap64 (1 + (wrap64 (a0)))))) then (if (wrap64 (8 * (wrap64 (1 + (wrap64 (a0))))) : Int).toNat ≤ 281474976710656 then ((laws_shardPlaces.f k (wrap64 (8 * (wrap64 (1 + (wrap64 (a0)))))) l1).bind fun t191 => (laws_FnBitsOnes.l0 k l1 (wrap64 (8 * (wrap64 (1 + (wrap64 (a0)))))) (Int.tmod (wrap64 (a2)) (wrap64 (8 * (wrap64 (1 + (wrap64 (a0))))))) (List.replicate (wrap64 (8 * (wrap64 (1 + (wrap64 (a0))))) : Int).toNat false) t191 (t191.length : Int) 0)) else (none)) else (none))))
theorem laws_FnBitsOnes.mono_l : ∀ k, (∀ y0 y1 y2 y3 y4 y5 y6, LeO (laws_FnBitsOnes.l0 k y0 y1 y2 y3 y4 y5 y6) (laws_FnBitsOnes.l0 (k + 1) y0 y1 y2 y3 y4 y5 y6)) ∧ (∀ y0 y1 y2 y3 y4 y5 y6 y7 y8, LeO (laws_FnBitsOnes.l1 k y0 y1 y2 y3 y4 y5 y6 y7 y8) (laws_FnBitsOnes.l1 (k + 1) y0 y1 y2 y3 y4 y5 y6 y7 y8))
  | 0 => ⟨fun _ _ _ _ _ _ _ r h => by simp [laws_FnBitsOnes.l0] at h, fun _ _ _ _ _ _ _ _ _ r h => by simp [laws_FnBitsOnes.l1] at h⟩
  | k + 1 => by
    obtain ⟨ih0, ih1⟩ := laws_FnBitsOnes.mono_l k
    refine ⟨?_, ?_⟩
    · intro y0 y1 y2 y3 y4 y5 y6
      unfold laws_FnBitsOnes.l0
      repeat' first
      | (with_reducible exact ih0 _ _ _ _ _ _ _)
      | (with_reducible exact ih1 _ _ _ _ _ _ _ _ _)
      | (with_reducible exact impl_BitsOnes.mono _ _ _ _)
      | (with_reducible exact impl_BitsSet.mono _ _ _)
      | (with_reducible exact laws_shardPlaces.mono _ _ _)
      | (with_reducible exact laws_shardSetting.mono _)
      | (with_reducible exact LeO.refl _)
      | (with_reducible exact LeO.none _)
      | (with_reducible refine LeO.ite ?_ ?_)
      | (with_reducible refine LeO.bind ?_ (fun _ => ?_))
      | exact ih0 _ _ _ _ _ _ _
      | exact ih1 _ _ _ _ _ _ _ _ _
      | exact impl_BitsOnes.mono _ _ _ _
      | exact impl_BitsSet.mono _ _ _
      | exact laws_shardPlaces.mono _ _ _
      | exact laws_shardSetting.mono _
      | exact LeO.none _
      | refine LeO.ite ?_ ?_
      | refine LeO.bind ?_ (fun _ => ?_)
    · intro y0 y1 y2 y3 y4 y5 y6 y7 y8
      unfold laws_FnBitsOnes.l1
      repeat' first
      | (with_reducible exact ih0 _ _ _ _ _ _ _)
      | (with_reducible exact ih1 _ _ _ _ _ _ _ _ _)
      | (with_reducible exact impl_BitsOnes.mono _ _ _ _)
      | (with_reducible exact impl_BitsSet.mono _ _ _)
      | (with_reducible exact laws_shardPlaces.mono _ _ _)
      | (with_reducible exact laws_shardSetting.mono _)
      | (with_reducible exact LeO.refl _)
      | (with_reducible exact LeO.none _)
      | (with_reducible refine LeO.ite ?_ ?_)
      | (with_reducible refine LeO.bind ?_ (fun _ => ?_))
      | exact ih0 _ _ _ _ _ _ _
      | exact ih1 _ _ _ _ _ _ _ _ _
      | exact impl_BitsOnes.mono _ _ _ _
      | exact impl_BitsSet.mono _ _ _
      | exact laws_shardPlaces.mono _ _ _
      | exact laws_shardSetting.mono _
      | exact LeO.none _
      | refine LeO.ite ?_ ?_
      | refine LeO.bind ?_ (fun _ => ?_)
theorem laws_FnBitsOnes.mono : ∀ a0 a1 a2 k, LeO (laws_FnBitsOnes.f k a0 a1 a2) (laws_FnBitsOnes.f (k + 1) a0 a1 a2) := by
  intro a0 a1 a2 k
  obtain ⟨ih0, ih1⟩ := laws_FnBitsOnes.mono_l k
  unfold laws_FnBitsOnes.f
  repeat' first
      | (with_reducible exact ih0 _ _ _ _ _ _ _)
      | (with_reducible exact ih1 _ _ _ _ _ _ _ _ _)
      | (with_reducible exact impl_BitsOnes.mono _ _ _ _)
      | (with_reducible exact impl_BitsSet.mono _ _ _)
      | (with_reducible exact laws_shardPlaces.mono _ _ _)
      | (with_reducible exact laws_shardSetting.mono _)
      | (with_reducible exact LeO.refl _)
      | (with_reducible exact LeO.none _)
      | (with_reducible refine LeO.ite ?_ ?_)
      | (with_reducible refine LeO.bind ?_ (fun _ => ?_))
      | exact ih0 _ _ _ _ _ _ _
      | exact ih1 _ _ _ _ _ _ _ _ _
      | exact impl_BitsOnes.mono _ _ _ _
      | exact impl_BitsSet.mono _ _ _
      | exact laws_shardPlaces.mono _ _ _
      | exact laws_shardSetting.mono _
      | exact LeO.none _
      | refine LeO.ite ?_ ?_
      | refine LeO.bind ?_ (fun _ => ?_)
set_option maxHeartbeats 8000000 in
set_option maxRecDepth 100000 in
theorem laws_FnBitsOnes.calls (k : Nat) (a0 : Int) (A1 : Option Addr) (c1 : Nat) (l1 : List Int) (a2 : Int) (r : Bool) (w : World) (hr1 : Kd.C (Kd.int .i16) w A1 l1.length l1) (hc1 : l1.length ≤ c1) (h : laws_FnBitsOnes.f k a0 l1 a2 = some r) :
    Calls Try.prog 4 #[.int .u8 a0, .slice A1 l1.length c1, .int .u16 a2] w fun e w' => e = .returned (.bool r) ∧ Below w.heap.size w w' := by
  have HR1 := Aside0.mk hr1
  have HC1 := Aside0.mk hc1
  clear hr1 hc1
  have HB := Aside0.mk (Below.refl w.heap.size w)
  have H : (if (l1.length : Int) > 2147483647 then (some true) else (if (l1.length : Int) > 3000 then ((laws_shardSetting.f k).bind fun t187 => (some t187)) else (if (wrap64 (8 * (wrap64 (1 + (wrap64 (a0)))))) = 0 then (none) else (if 0 ≤ (wrap64 (8 * (wrap64 (1 + (wrap64 (a0)))))) then (if (wrap64 (8 * (wrap64 (1 + (wrap64 (a0))))) : Int).toNat ≤ 281474976710656 then ((laws_shardPlaces.f k (wrap64 (8 * (wrap64 (1 + (wrap64 (a0)))))) l1).bind fun t191 => (laws_FnBitsOnes.l0 k l1 (wrap64 (8 * (wrap64 (1 + (wrap64 (a0)))))) (Int.tmod (wrap64 (a2)) (wrap64 (8 * (wrap64 (1 + (wrap64 (a0))))))) (List.replicate (wrap64 (8 * (wrap64 (1 + (wrap64 (a0))))) : Int).toNat false) t191 (t191.length : Int) 0)) else (none)) else (none))))) = some r := h
  clear h
  by_cases c4 : (l1.length : Int) > 2147483647
  · rw [if_pos c4] at H
    have c4b0 : decide (2147483647 < (l1.length : Int)) = true := decide_eq_true c4
    have c4b1 : decide (2147483647 < l1.length) = true := decide_eq_true (by omega)
    clear c4
    obtain rfl := Option.some.inj H
    go_enter Try.func4, Try.ntmps4
    go_wp2
    go_ret
    exact ⟨by first | rfl | (simp [errV_none, errV_some] <;> rfl) | (simp [*, errV_none, errV_some] <;> rfl), by repeat (first | (with_reducible first | exact HB.out | apply below_alloc | apply pw_below_drewN | apply below_drew1) | exact HB.out)⟩
  · rw [if_neg c4] at H
    have c4b0 : decide (2147483647 < (l1.length : Int)) = false := decide_eq_false c4
    have c4b1 : decide (2147483647 < l1.length) = false := decide_eq_false (by omega)
    clear c4
    by_cases c5 : (l1.length : Int) > 3000
    · rw [if_pos c5] at H
      have c5b0 : decide (3000 < (l1.length : Int)) = true := decide_eq_true c5
      have c5b1 : decide (3000 < l1.length) = true := decide_eq_true (by omega)
      clear c5
      replace H := Option.bind_eq_some_iff.mp H
      obtain ⟨t187, A60, H⟩ := H
      replace H : (some t187) = some r := H
      have A6 := Aside0.mk A60
      clear A60
      obtain rfl := Option.some.inj H
      go_enter Try.func4, Try.ntmps4
      go_wp2_with (first | ((with_reducible refine gate_callee (f := 14) rfl ?_); refine goesL_ (some 33) rfl rfl Try.func14 (by kernel_rfl) rfl #[] rfl (by (try simp only [List.map_toArray, List.map_cons, List.map_nil]); first | done | rfl | (simp only [List.length_drop, List.length_take]; rfl)) ?_; (with_reducible refine (laws_shardSetting.calls k  t187 _ A6.out).mono ?_); rintro e w7 ⟨rfl, hb⟩; refine ⟨_, rfl, ?_⟩; have n0_ := Aside0.mk (below_step (by repeat (first | (with_reducible first | exact HB.out | apply below_alloc | apply pw_below_drewN | apply below_drew1) | exact HB.out)) hb); clear HB; have HB := n0_; clear n0_; (try clear hb); (try clear hb2); (try clear hk); (try clear hi)))
      go_ret
      exact ⟨by first | rfl | (simp [errV_none, errV_some] <;> rfl) | (simp [*, errV_none, errV_some] <;> rfl), by repeat (first | (with_reducible first | exact HB.out | apply below_alloc | apply pw_below_drewN | apply below_drew1) | exact HB.out)⟩
    · rw [if_neg c5] at H
      have c5b0 : decide (3000 < (l1.length : Int)) = false := decide_eq_false c5
      have c5b1 : decide (3000 < l1.length) = false := decide_eq_false (by omega)
      clear c5
      by_cases c8 : (wrap64 (8 * (wrap64 (1 + (wrap64 (a0)))))) = 0
      · rw [if_pos c8] at H
        exact absurd H (by simp)
      · rw [if_neg c8] at H
        have c8b0 : ((wrap64 (8 * (wrap64 (1 + (wrap64 (a0)))))) == 0) = false := beq_eq_false_iff_ne.mpr c8
        have c8b1 : ((wrap64 (8 * (wrap64 (1 + (wrap64 (a0)))))) != 0) = true := bne_iff_ne.mpr c8
        obtain ⟨ji9, hji9⟩ : ∃ j_ : Int, (wrap64 (8 * (wrap64 (1 + (wrap64 (a0)))))) = j_ := ⟨_, rfl⟩
        replace H : (if 0 ≤ (ji9) then (if (ji9 : Int).toNat ≤ 281474976710656 then ((laws_shardPlaces.f k (ji9) l1).bind fun t191 => (laws_FnBitsOnes.l0 k l1 ji9 (Int.tmod (wrap64 (a2)) (ji9)) (List.replicate (ji9 : Int).toNat false) t191 (t191.length : Int) 0)) else (none)) else (none)) = some r := by first | (rw [hji9] at H; exact H) | (simp only [hji9] at H ⊢; exact H)
        (try rw [hji9] at c8b0)
        (try rw [hji9] at c8b1)
        have hji9w : (IntKind.i64.wrap (8 * (wrap64 (1 + (wrap64 (a0)))))) = ji9 := (i64_w _).trans hji9
        by_cases c10 : 0 ≤ (ji9)
        · rw [if_pos c10] at H
          have c10b0 := eq_true c10
          have c10b1 : decide (0 ≤ (ji9)) = true := decide_eq_true c10
          clear c10
          by_cases c11 : (ji9 : Int).toNat ≤ 281474976710656
          · rw [if_pos c11] at H
            have c11b0 := eq_true c11
            have c11b1 : decide ((ji9 : Int).toNat ≤ 281474976710656) = true := decide_eq_true c11
            clear c11
            obtain ⟨y188, hy188⟩ : ∃ y_ : List Bool, y_ = (List.replicate (ji9 : Int).toNat false) := ⟨_, rfl⟩
            replace H : ((laws_shardPlaces.f k (ji9) l1).bind fun t191 => (laws_FnBitsOnes.l0 k l1 ji9 (Int.tmod (wrap64 (a2)) (ji9)) y188 t191 (t191.length : Int) 0)) = some r := by first | (rw [hy188]; with_reducible exact H) | (have H2_ := (Option.bind_some _ _).symm.trans H; rw [hy188]; with_reducible exact H2_) | (have H2_ := (Option.bind_some _ _).symm.trans H; with_reducible exact H2_) | with_reducible exact H | (rw [hy188]; exact H) | exact H
            have Ny188 := Aside0.mk hy188
            clear hy188
            replace H := Option.bind_eq_some_iff.mp H
            obtain ⟨t191, A120, H⟩ := H
            replace H : (laws_FnBitsOnes.l0 k l1 ji9 (Int.tmod (wrap64 (a2)) (ji9)) y188 t191 (t191.length : Int) 0) = some r := H
            have A12 := Aside0.mk A120
            clear A120
            have H' := Aside0.mk H
            clear H
            go_enter Try.func4, Try.ntmps4
            go_wp2_with (first | ((with_reducible refine gate_dst (N := 39) rfl ?_); refine Kd.R_make Kd.bool _ 4 rfl (N := 39) rfl 32 _ _ rfl ji9 rfl rfl Try.underlying32 (.bool false) 1 info4 rfl (by decide) (by omega) false (ok := fun _ => True) (okp := fun _ => True) rfl (fun _ hk => hk) trivial (of_decide_eq_true (by first | (with_reducible assumption) | assumption)) (Nat.le_trans (Nat.mul_le_mul_right _ (of_decide_eq_true (by first | (with_reducible assumption) | assumption) : ji9.toNat ≤ 281474976710656)) (by omega)) (Below.refl _ _) (Nat.le_refl _) ?_; intro v189 w13 ho14 hb hg_ hnew_; clear hg_ hnew_; (first | rw [← Ny188.out] at ho14 | (simp only [Int.reduceToNat] at ho14; rw [← Ny188.out] at ho14)); have n0_ := Aside0.mk (Kd.R_lower ho14 (below_size (by repeat (first | (with_reducible first | exact HB.out | apply below_alloc | apply pw_below_drewN | apply below_drew1) | exact HB.out)))); have n1_ := Aside0.mk (below_step (by repeat (first | (with_reducible first | exact HB.out | apply below_alloc | apply pw_below_drewN | apply below_drew1) | exact HB.out)) hb); clear HB; have HO190 := n0_; have HB := n1_; clear n0_ n1_; clear hb ho14) | ((with_reducible refine gate_callee (f := 15) rfl ?_); refine goesL_ (some 42) rfl rfl Try.func15 (by kernel_rfl) rfl #[.int .i64 ji9, .slice A1 l1.length c1] rfl (by (try simp only [List.map_toArray, List.map_cons, List.map_nil]); first | done | (simp only [hji9]; rfl) | rfl | (simp only [List.length_drop, List.length_take]; rfl)) ?_; (with_reducible refine (laws_shardPlaces.calls k ji9 _ _ l1 t191 _ ?side1 ?side2 A12.out).mono ?_); (case side1 => repeat (first | exact (Kd.C_below HR1.out HB.out) | (with_reducible refine Kd.C_alloc ?_ _) | (with_reducible refine Kd.C_drewN ?_ _) | (with_reducible refine Kd.C_drew ?_))); (case side2 => exact HC1.out); rintro e w15 ⟨v192, rfl, ho0, hb⟩; refine ⟨_, rfl, ?_⟩; have n0_ := Aside0.mk (Kd.R_below (by (with_reducible repeat (first | apply Kd.R_alloc | apply Kd.R_drewN | apply Kd.R_drew)); exact HO190.out) hb); have n1_ := Aside0.mk (Kd.R_lower ho0 (below_size (by repeat (first | (with_reducible first | exact HB.out | apply below_alloc | apply pw_below_drewN | apply below_drew1) | exact HB.out)))); have n2_ := Aside0.mk (below_step (by repeat (first | (with_reducible first | exact HB.out | apply below_alloc | apply pw_below_drewN | apply below_drew1) | exact HB.out)) hb); clear HO190; clear HB; have HO190 := n0_; have HO193 := n1_; have HB := n2_; clear n0_ n1_ n2_; (try clear hb); (try clear hb2); (try clear hk); (try clear hi); (try clear ho0); obtain ⟨Ao16, co16, eo16⟩ := Kd.R_slice HO193.out; subst eo16))
            go_loopg [44] k (fun kq v44 w' => ∃ (x9_1 : List Bool) (x44_1 : Int), v44 = .int .i64 x44_1 ∧ Aside0 (laws_FnBitsOnes.l0 kq l1 ji9 (Int.tmod (wrap64 (a2)) (ji9)) x9_1 t191 (t191.length : Int) x44_1 = some r) ∧ Aside0 (kq ≤ k) ∧ Aside0 (Kd.R Kd.bool 4 w' w.heap.size (fun _ => True) v189 x9_1) ∧ Aside0 (Kd.R (Kd.int .i64) 3 w' w.heap.size (fun _ => True) (.slice Ao16 t191.length co16) t191) ∧ Aside0 (Below w.heap.size w w'))
            case atStart => exact ⟨(y188), (0), (by first | rfl | (simp; done) | (simp [*]; done)), H', ⟨Nat.le_refl _⟩, ⟨by (with_reducible repeat (first | apply Kd.R_alloc | apply Kd.R_drewN | apply Kd.R_drew)); exact HO190.out⟩, ⟨by (with_reducible repeat (first | apply Kd.R_alloc | apply Kd.R_drewN | apply Kd.R_drew)); exact HO193.out⟩, ⟨by repeat (first | (with_reducible first | exact HB.out | apply below_alloc | apply pw_below_drewN | apply below_drew1) | exact HB.out)⟩⟩
            case round =>
              clear H'
              try clear c1
              try clear p2
              try clear c4
              try clear c4b0
              try clear c4b1
              try clear c5
              try clear c5b0
              try clear c5b1
              try clear p6
              try clear c8
              try clear c8b0
              try clear c8b1
              try clear c10
              try clear c10b0
              try clear c10b1
              try clear c11
              try clear c11b0
              try clear c11b1
              try clear c14
              try clear c15
              obtain ⟨x9_1, x44_1, rfl, HA, HK1, HO_9, HO_42, HB⟩ := hrel
              cases gk with
              | zero => exact absurd HA.out (by simp [laws_FnBitsOnes.l0])
              | succ k1 =>
                have H := HA.out
                clear HA
                simp only [laws_FnBitsOnes.l0] at H
                by_cases c17 : x44_1 < (t191.length : Int)
                · rw [if_pos c17] at H
                  have c17b0 : decide (x44_1 < (t191.length : Int)) = true := decide_eq_true c17
                  clear c17
                  by_cases c18 : 0 ≤ x44_1
                  · rw [if_pos c18] at H
                    have c18b0 : decide (0 ≤ x44_1) = true := decide_eq_true c18
                    clear c18
                    by_cases c19 : x44_1 < (t191.length : Int)
                    · rw [if_pos c19] at H
                      have c19b0 : decide (x44_1 < (t191.length : Int)) = true := decide_eq_true c19
                      clear c19
                      by_cases c20 : (rd t191 x44_1) ≥ 0
                      · rw [if_pos c20] at H
                        have c20b0 : decide (0 ≤ (rd t191 x44_1)) = true := decide_eq_true c20
                        clear c20
                        by_cases c21 : 0 ≤ (rd t191 x44_1)
                        · rw [if_pos c21] at H
                          have c21b0 : decide (0 ≤ (rd t191 x44_1)) = true := decide_eq_true c21
                          clear c21
                          by_cases c22 : (rd t191 x44_1) < (x9_1.length : Int)
                          · rw [if_pos c22] at H
                            have c22b0 : decide ((rd t191 x44_1) < (x9_1.length : Int)) = true := decide_eq_true c22
                            clear c22
                            obtain ⟨y195, hy195⟩ : ∃ y_ : List Bool, y_ = (x9_1.set ((rd t191 x44_1) : Int).toNat true) := ⟨_, rfl⟩
                            replace H : (laws_FnBitsOnes.l0 k1 l1 ji9 (Int.tmod (wrap64 (a2)) (ji9)) y195 t191 (t191.length : Int) (wrap64 (x44_1 + 1))) = some r := by first | (rw [hy195]; with_reducible exact H) | (have H2_ := (Option.bind_some _ _).symm.trans H; rw [hy195]; with_reducible exact H2_) | (have H2_ := (Option.bind_some _ _).symm.trans H; with_reducible exact H2_) | with_reducible exact H | (rw [hy195]; exact H) | exact H
                            have Ny195 := Aside0.mk hy195
                            clear hy195
                            have H' := Aside0.mk H
                            clear H
                            have p194 : 0 ≤ (x44_1 : Int) := of_decide_eq_true (by first | (with_reducible assumption) | assumption)
                            have q194 : x44_1 < (t191.length : Int) := of_decide_eq_true (by first | (with_reducible assumption) | assumption)
                            obtain ⟨ad194, e194, hx194_0⟩ := Kd.at_int (Kd.R_reads' HO_42.out).2.2 x44_1 p194 q194
                            cases e194
                            replace p194 := eq_true p194
                            replace q194 := eq_true q194
                            have p23 : 0 ≤ ((rd t191 x44_1) : Int) := of_decide_eq_true (by first | (with_reducible assumption) | assumption)
                            have q23 : ((rd t191 x44_1) : Int) < ((x9_1.length : Int) : Int) := of_decide_eq_true (by first | (with_reducible assumption) | assumption)
                            obtain ⟨go23, co23, eo23, gb23, gl23, cl23, HG23⟩ := Kd.R_form HO_9.out (by omega)
                            (first | cases eo23 | (injection eo23 with ea_ en_ ec_; (first | subst ea_ | (injection ea_ with ea_; subst ea_)); subst ec_; clear en_))
                            have GB23 := Aside0.mk gb23
                            have GG23 := Aside0.mk HG23
                            clear gb23 gl23 HG23
                            obtain ⟨hx23_0, hf23_0⟩ := Kd.R_celln false HO_9.out ((rd t191 x44_1) : Int) p23 q23
                            replace p23 := eq_true p23
                            replace q23 := eq_true q23
                            have HP24 := Kd.R_putg HO_9.out ((rd t191 x44_1) : Int) true
                            go_wp2_with (first | ((with_reducible refine gate_store (t := 4) (p := 52) rfl ?_); refine store_event (t := 4) (p := 52) (v := ?vo_w25) (w1 := (wr.setCell ⟨go23, ((rd t191 x44_1) : Int).toNat, none⟩ (.bool true))) ?hg ?ho ?hn ?hr ?_; (case ho => rfl); (case hg => rfl); (case hn => rfl); (case hr => first | (go_simp; done) | (go_simp; rfl)); intro w25 hw; have hg : wr.grownBy w25 (some go23) := (by rw [hw]; exact HP24.2); have hp_ : Kd.R Kd.bool 4 w25 w.heap.size (fun _ => True) (.slice (some ⟨go23, 0, none⟩) x9_1.length co23) y195 := (by rw [hw, Ny195.out]; exact HP24.1); clear HP24; have n0_ := Aside0.mk (hp_); have n1_ := Aside0.mk (Kd.R_over' (v := (.slice (some ⟨go23, 0, none⟩) x9_1.length co23)) (by (with_reducible repeat (first | apply Kd.R_alloc | apply Kd.R_drewN | apply Kd.R_drew)); exact HO_42.out) (Kd.R_typed HO_9.out) (by decide) hg); have n2_ := Aside0.mk ((by rw [hw]; exact below_set (HB.out) GB23.out : Below w.heap.size w w25)); clear HO_9; clear HO_42; clear HB; have HO_9 := n0_; have HO_42 := n1_; have HB := n2_; clear n0_ n1_ n2_; clear hg hw hp_))
                            go_roundg k1
                            case measure => have := HK1.out; omega
                            case rel => exact ⟨(y195), (wrap64 (x44_1 + 1)), (by first | rfl | (simp; done) | (simp [*]; done)), H', ⟨by have := HK1.out; omega⟩, ⟨by (with_reducible repeat (first | apply Kd.R_alloc | apply Kd.R_drewN | apply Kd.R_drew)); exact HO_9.out⟩, ⟨by (with_reducible repeat (first | apply Kd.R_alloc | apply Kd.R_drewN | apply Kd.R_drew)); exact HO_42.out⟩, ⟨by repeat (first | (with_reducible first | exact HB.out | apply below_alloc | apply pw_below_drewN | apply below_drew1) | exact HB.out)⟩⟩
                          · rw [if_neg c22] at H
                            exact absurd H (by simp)
                        · rw [if_neg c21] at H
                          exact absurd H (by simp)
                      · rw [if_neg c20] at H
                        have c20b0 : decide (0 ≤ (rd t191 x44_1)) = false := decide_eq_false c20
                        clear c20
                        obtain ⟨ji26, hji26⟩ : ∃ j_ : Int, (wrap64 ((-1) - (rd t191 x44_1))) = j_ := ⟨_, rfl⟩
                        replace H : (if 0 ≤ (ji26) then (if (ji26) < (x9_1.length : Int) then (laws_FnBitsOnes.l0 k1 l1 ji9 (Int.tmod (wrap64 (a2)) (ji9)) (x9_1.set ((ji26) : Int).toNat false) t191 (t191.length : Int) (wrap64 (x44_1 + 1))) else (none)) else (none)) = some r := by first | (rw [hji26] at H; exact H) | (simp only [hji26] at H ⊢; exact H)
                        have hji26w : (IntKind.i64.wrap ((-1) - (rd t191 x44_1))) = ji26 := (i64_w _).trans hji26
                        by_cases c27 : 0 ≤ (ji26)
                        · rw [if_pos c27] at H
                          have c27b0 : decide (0 ≤ (ji26)) = true := decide_eq_true c27
                          clear c27
                          by_cases c28 : (ji26) < (x9_1.length : Int)
                          · rw [if_pos c28] at H
                            have c28b0 : decide ((ji26) < (x9_1.length : Int)) = true := decide_eq_true c28
                            clear c28
                            obtain ⟨y196, hy196⟩ : ∃ y_ : List Bool, y_ = (x9_1.set ((ji26) : Int).toNat false) := ⟨_, rfl⟩
                            replace H : (laws_FnBitsOnes.l0 k1 l1 ji9 (Int.tmod (wrap64 (a2)) (ji9)) y196 t191 (t191.length : Int) (wrap64 (x44_1 + 1))) = some r := by first | (rw [hy196]; with_reducible exact H) | (have H2_ := (Option.bind_some _ _).symm.trans H; rw [hy196]; with_reducible exact H2_) | (have H2_ := (Option.bind_some _ _).symm.trans H; with_reducible exact H2_) | with_reducible exact H | (rw [hy196]; exact H) | exact H
                            have Ny196 := Aside0.mk hy196
                            clear hy196
                            have H' := Aside0.mk H
                            clear H
                            have p194 : 0 ≤ (x44_1 : Int) := of_decide_eq_true (by first | (with_reducible assumption) | assumption)
                            have q194 : x44_1 < (t191.length : Int) := of_decide_eq_true (by first | (with_reducible assumption) | assumption)
                            obtain ⟨ad194, e194, hx194_0⟩ := Kd.at_int (Kd.R_reads' HO_42.out).2.2 x44_1 p194 q194
                            cases e194
                            replace p194 := eq_true p194
                            replace q194 := eq_true q194
                            have p29 : 0 ≤ ((ji26) : Int) := of_decide_eq_true (by first | (with_reducible assumption) | assumption)
                            have q29 : ((ji26) : Int) < ((x9_1.length : Int) : Int) := of_decide_eq_true (by first | (with_reducible assumption) | assumption)
                            obtain ⟨go29, co29, eo29, gb29, gl29, cl29, HG29⟩ := Kd.R_form HO_9.out (by omega)
                            (first | cases eo29 | (injection eo29 with ea_ en_ ec_; (first | subst ea_ | (injection ea_ with ea_; subst ea_)); subst ec_; clear en_))
                            have GB29 := Aside0.mk gb29
                            have GG29 := Aside0.mk HG29
                            clear gb29 gl29 HG29
                            obtain ⟨hx29_0, hf29_0⟩ := Kd.R_celln false HO_9.out ((ji26) : Int) p29 q29
                            replace p29 := eq_true p29
                            replace q29 := eq_true q29
                            have HP30 := Kd.R_putg HO_9.out ((ji26) : Int) false
                            go_wp2_with (first | ((with_reducible refine gate_store (t := 4) (p := 56) rfl ?_); refine store_event (t := 4) (p := 56) (v := ?vo_w31) (w1 := (wr.setCell ⟨go29, ((ji26) : Int).toNat, none⟩ (.bool false))) ?hg ?ho ?hn ?hr ?_; (case ho => rfl); (case hg => rfl); (case hn => rfl); (case hr => first | (go_simp; done) | (go_simp; rfl)); intro w31 hw; have hg : wr.grownBy w31 (some go29) := (by rw [hw]; exact HP30.2); have hp_ : Kd.R Kd.bool 4 w31 w.heap.size (fun _ => True) (.slice (some ⟨go29, 0, none⟩) x9_1.length co29) y196 := (by rw [hw, Ny196.out]; exact HP30.1); clear HP30; have n0_ := Aside0.mk (hp_); have n1_ := Aside0.mk (Kd.R_over' (v := (.slice (some ⟨go29, 0, none⟩) x9_1.length co29)) (by (with_reducible repeat (first | apply Kd.R_alloc | apply Kd.R_drewN | apply Kd.R_drew)); exact HO_42.out) (Kd.R_typed HO_9.out) (by decide) hg); have n2_ := Aside0.mk ((by rw [hw]; exact below_set (HB.out) GB29.out : Below w.heap.size w w31)); clear HO_9; clear HO_42; clear HB; have HO_9 := n0_; have HO_42 := n1_; have HB := n2_; clear n0_ n1_ n2_; clear hg hw hp_))
                            go_roundg k1
                            case measure => have := HK1.out; omega
                            case rel => exact ⟨(y196), (wrap64 (x44_1 + 1)), (by first | rfl | (simp; done) | (simp [*]; done)), H', ⟨by have := HK1.out; omega⟩, ⟨by (with_reducible repeat (first | apply Kd.R_alloc | apply Kd.R_drewN | apply Kd.R_drew)); exact HO_9.out⟩, ⟨by (with_reducible repeat (first | apply Kd.R_alloc | apply Kd.R_drewN | apply Kd.R_drew)); exact HO_42.out⟩, ⟨by repeat (first | (with_reducible first | exact HB.out | apply below_alloc | apply pw_below_drewN | apply below_drew1) | exact HB.out)⟩⟩
                          · rw [if_neg c28] at H
                            exact absurd H (by simp)
                        · rw [if_neg c27] at H
                          exact absurd H (by simp)
                    · rw [if_neg c19] at H
                      exact absurd H (by simp)
                  · rw [if_neg c18] at H
                    exact absurd H (by simp)
                · rw [if_neg c17] at H
                  have c17b0 : decide (x44_1 < (t191.length : Int)) = false := decide_eq_false c17
                  clear c17
                  have H' := Aside0.mk H
                  clear H
                  obtain ⟨Ao32, co32, eo32⟩ := Kd.R_slice HO_9.out
                  subst eo32
                  go_wp2
                  go_loopg [12, 13, 60] k1 (fun kq v12 v13 v60 w' => ∃ (x12_2 : Int) (x13_2 : Int) (x60_2 : Int), v12 = .int .i64 x12_2 ∧ v13 = .int .i64 x13_2 ∧ v60 = .int .i64 x60_2 ∧ Aside0 (laws_FnBitsOnes.l1 kq l1 ji9 (Int.tmod (wrap64 (a2)) (ji9)) x9_1 x12_2 x13_2 x9_1 (x9_1.length : Int) x60_2 = some r) ∧ Aside0 (kq ≤ k1) ∧ Aside0 (Kd.R Kd.bool 4 w' w.heap.size (fun _ => True) (.slice Ao32 x9_1.length co32) x9_1) ∧ Aside0 (Kd.R Kd.bool 4 w' w.heap.size (fun _ => True) (.slice Ao32 x9_1.length co32) x9_1) ∧ Aside0 (Below w.heap.size w w'))
                  case atStart => exact ⟨(0), (0), (0), (by first | rfl | (simp; done) | (simp [*]; done)), (by first | rfl | (simp; done) | (simp [*]; done)), (by first | rfl | (simp; done) | (simp [*]; done)), H', ⟨Nat.le_refl _⟩, ⟨by (with_reducible repeat (first | apply Kd.R_alloc | apply Kd.R_drewN | apply Kd.R_drew)); exact HO_9.out⟩, ⟨by (with_reducible repeat (first | apply Kd.R_alloc | apply Kd.R_drewN | apply Kd.R_drew)); exact HO_9.out⟩, ⟨by repeat (first | (with_reducible first | exact HB.out | apply below_alloc | apply pw_below_drewN | apply below_drew1) | exact HB.out)⟩⟩
                  case round =>
                    clear H'
                    try clear c1
                    try clear p1
                    try clear q1
                    try clear hx1
                    try clear c2
                    try clear p2
                    try clear q2
                    try clear hx2
                    try clear c4
                    try clear c4b0
                    try clear c4b1
                    try clear c5
                    try clear c5b0
                    try clear c5b1
                    try clear p6
                    try clear c8
                    try clear c8b0
                    try clear c8b1
                    try clear c10
                    try clear c10b0
                    try clear c10b1
                    try clear c11
                    try clear c11b0
                    try clear c11b1
                    try clear c14
                    try clear c15
                    try clear c17
                    try clear c17b0
                    try clear c18
                    try clear c18b0
                    try clear c19
                    try clear c19b0
                    try clear p19
                    try clear q19
                    try clear hx19
                    try clear c20
                    try clear c20b0
                    try clear c21
                    try clear c21b0
                    try clear c22
                    try clear c22b0
                    try clear p23
                    try clear q23
                    try clear hx23
                    try clear hf23
                    try clear c27
                    try clear c27b0
                    try clear c28
                    try clear c28b0
                    try clear p29
                    try clear q29
                    try clear hx29
                    try clear hf29
                    try clear hx194_0
                    try clear hx23_0
                    try clear hx29_0
                    try clear p194
                    try clear p2
                    try clear p23
                    try clear p29
                    try clear p6
                    try clear q194
                    try clear q23
                    try clear q29
                    obtain ⟨x12_2, x13_2, x60_2, rfl, rfl, rfl, HA, HK2, HO_9, HO_58, HB⟩ := hrel
                    cases gk with
                    | zero => exact absurd HA.out (by simp [laws_FnBitsOnes.l1])
                    | succ k2 =>
                      have H := HA.out
                      clear HA
                      simp only [laws_FnBitsOnes.l1] at H
                      by_cases c33 : x60_2 < (x9_1.length : Int)
                      · rw [if_pos c33] at H
                        have c33b0 : decide (x60_2 < (x9_1.length : Int)) = true := decide_eq_true c33
                        clear c33
                        by_cases c34 : 0 ≤ x60_2
                        · rw [if_pos c34] at H
                          have c34b0 : decide (0 ≤ x60_2) = true := decide_eq_true c34
                          clear c34
                          by_cases c35 : x60_2 < (x9_1.length : Int)
                          · rw [if_pos c35] at H
                            have c35b0 : decide (x60_2 < (x9_1.length : Int)) = true := decide_eq_true c35
                            clear c35
                            obtain ⟨bq36, hbq36⟩ : ∃ b_ : Bool, b_ = (rdOf false x9_1 x60_2) := ⟨_, rfl⟩
                            replace H : (if bq36 = true then (if x60_2 < (Int.tmod (wrap64 (a2)) (ji9)) then (laws_FnBitsOnes.l1 k2 l1 ji9 (Int.tmod (wrap64 (a2)) (ji9)) x9_1 (wrap64 (x12_2 + 1)) (wrap64 (x13_2 + 1)) x9_1 (x9_1.length : Int) (wrap64 (x60_2 + 1))) else (laws_FnBitsOnes.l1 k2 l1 ji9 (Int.tmod (wrap64 (a2)) (ji9)) x9_1 (wrap64 (x12_2 + 1)) x13_2 x9_1 (x9_1.length : Int) (wrap64 (x60_2 + 1)))) else (laws_FnBitsOnes.l1 k2 l1 ji9 (Int.tmod (wrap64 (a2)) (ji9)) x9_1 x12_2 x13_2 x9_1 (x9_1.length : Int) (wrap64 (x60_2 + 1)))) = some r := by rw [← hbq36] at H; exact H
                            have Nbq36 := Aside0.mk hbq36
                            clear hbq36
                            by_cases c37 : bq36 = true
                            · subst c37
                              have H1 : (if x60_2 < (Int.tmod (wrap64 (a2)) (ji9)) then (laws_FnBitsOnes.l1 k2 l1 ji9 (Int.tmod (wrap64 (a2)) (ji9)) x9_1 (wrap64 (x12_2 + 1)) (wrap64 (x13_2 + 1)) x9_1 (x9_1.length : Int) (wrap64 (x60_2 + 1))) else (laws_FnBitsOnes.l1 k2 l1 ji9 (Int.tmod (wrap64 (a2)) (ji9)) x9_1 (wrap64 (x12_2 + 1)) x13_2 x9_1 (x9_1.length : Int) (wrap64 (x60_2 + 1)))) = some r := by rw [if_pos rfl] at H; exact H
                              clear H
                              have H := H1
                              clear H1
                              by_cases c38 : x60_2 < (Int.tmod (wrap64 (a2)) (ji9))
                              · rw [if_pos c38] at H
                                have c38b0 : decide (x60_2 < (Int.tmod (wrap64 (a2)) (ji9))) = true := decide_eq_true c38
                                clear c38
                                have H' := Aside0.mk H
                                clear H
                                have p197 : 0 ≤ (x60_2 : Int) := of_decide_eq_true (by first | (with_reducible assumption) | assumption)
                                have q197 : x60_2 < (x9_1.length : Int) := of_decide_eq_true (by first | (with_reducible assumption) | assumption)
                                obtain ⟨ad197, e197, hx197_0⟩ := Kd.at_bool (Kd.R_reads' HO_58.out).2.2 x60_2 p197 q197
                                (try rw [← Nbq36.out] at hx197_0)
                                cases e197
                                replace p197 := eq_true p197
                                replace q197 := eq_true q197
                                go_wp2
                                go_roundg k2
                                case measure => have := HK1.out; have := HK2.out; omega
                                case rel => exact ⟨(wrap64 (x12_2 + 1)), (wrap64 (x13_2 + 1)), (wrap64 (x60_2 + 1)), (by first | rfl | (simp; done) | (simp [*]; done)), (by first | rfl | (simp; done) | (simp [*]; done)), (by first | rfl | (simp; done) | (simp [*]; done)), H', ⟨by have := HK1.out; have := HK2.out; omega⟩, ⟨by (with_reducible repeat (first | apply Kd.R_alloc | apply Kd.R_drewN | apply Kd.R_drew)); exact HO_9.out⟩, ⟨by (with_reducible repeat (first | apply Kd.R_alloc | apply Kd.R_drewN | apply Kd.R_drew)); exact HO_58.out⟩, ⟨by repeat (first | (with_reducible first | exact HB.out | apply below_alloc | apply pw_below_drewN | apply below_drew1) | exact HB.out)⟩⟩
                              · rw [if_neg c38] at H
                                have c38b0 : decide (x60_2 < (Int.tmod (wrap64 (a2)) (ji9))) = false := decide_eq_false c38
                                clear c38
                                have H' := Aside0.mk H
                                clear H
                                have p197 : 0 ≤ (x60_2 : Int) := of_decide_eq_true (by first | (with_reducible assumption) | assumption)
                                have q197 : x60_2 < (x9_1.length : Int) := of_decide_eq_true (by first | (with_reducible assumption) | assumption)
                                obtain ⟨ad197, e197, hx197_0⟩ := Kd.at_bool (Kd.R_reads' HO_58.out).2.2 x60_2 p197 q197
                                (try rw [← Nbq36.out] at hx197_0)
                                cases e197
                                replace p197 := eq_true p197
                                replace q197 := eq_true q197
                                go_wp2
                                go_roundg k2
                                case measure => have := HK1.out; have := HK2.out; omega
                                case rel => exact ⟨(wrap64 (x12_2 + 1)), (x13_2), (wrap64 (x60_2 + 1)), (by first | rfl | (simp; done) | (simp [*]; done)), (by first | rfl | (simp; done) | (simp [*]; done)), (by first | rfl | (simp; done) | (simp [*]; done)), H', ⟨by have := HK1.out; have := HK2.out; omega⟩, ⟨by (with_reducible repeat (first | apply Kd.R_alloc | apply Kd.R_drewN | apply Kd.R_drew)); exact HO_9.out⟩, ⟨by (with_reducible repeat (first | apply Kd.R_alloc | apply Kd.R_drewN | apply Kd.R_drew)); exact HO_58.out⟩, ⟨by repeat (first | (with_reducible first | exact HB.out | apply below_alloc | apply pw_below_drewN | apply below_drew1) | exact HB.out)⟩⟩
                            · replace c37 := Bool.eq_false_iff.mpr c37
                              subst c37
                              have H1 : (laws_FnBitsOnes.l1 k2 l1 ji9 (Int.tmod (wrap64 (a2)) (ji9)) x9_1 x12_2 x13_2 x9_1 (x9_1.length : Int) (wrap64 (x60_2 + 1))) = some r := by rw [if_neg (show ¬ (false = true) by decide)] at H; exact H
                              clear H
                              have H := H1
                              clear H1
                              have H' := Aside0.mk H
                              clear H
                              have p197 : 0 ≤ (x60_2 : Int) := of_decide_eq_true (by first | (with_reducible assumption) | assumption)
                              have q197 : x60_2 < (x9_1.length : Int) := of_decide_eq_true (by first | (with_reducible assumption) | assumption)
                              obtain ⟨ad197, e197, hx197_0⟩ := Kd.at_bool (Kd.R_reads' HO_58.out).2.2 x60_2 p197 q197
                              (try rw [← Nbq36.out] at hx197_0)
                              cases e197
                              replace p197 := eq_true p197
                              replace q197 := eq_true q197
                              go_wp2
                              go_roundg k2
                              case measure => have := HK1.out; have := HK2.out; omega
                              case rel => exact ⟨(x12_2), (x13_2), (wrap64 (x60_2 + 1)), (by first | rfl | (simp; done) | (simp [*]; done)), (by first | rfl | (simp; done) | (simp [*]; done)), (by first | rfl | (simp; done) | (simp [*]; done)), H', ⟨by have := HK1.out; have := HK2.out; omega⟩, ⟨by (with_reducible repeat (first | apply Kd.R_alloc | apply Kd.R_drewN | apply Kd.R_drew)); exact HO_9.out⟩, ⟨by (with_reducible repeat (first | apply Kd.R_alloc | apply Kd.R_drewN | apply Kd.R_drew)); exact HO_58.out⟩, ⟨by repeat (first | (with_reducible first | exact HB.out | apply below_alloc | apply pw_below_drewN | apply below_drew1) | exact HB.out)⟩⟩
                          · rw [if_neg c35] at H
                            exact absurd H (by simp)
                        · rw [if_neg c34] at H
                          exact absurd H (by simp)
                      · rw [if_neg c33] at H
                        have c33b0 : decide (x60_2 < (x9_1.length : Int)) = false := decide_eq_false c33
                        clear c33
                        replace H := Option.bind_eq_some_iff.mp H
                        obtain ⟨t198, A390, H⟩ := H
                        replace H : ((impl_BitsSet.f k2 ji9 t198).bind fun bt201 => ((impl_BitsOnes.f k2 ji9 bt201.1 (Int.tmod (wrap64 (a2)) (ji9))).bind fun bt205 => (if bt201.2 = true then (if bt205.2.2.2.2 = true then (if 0 ≤ (Int.tmod (wrap64 (a2)) (ji9)) then (if (Int.tmod (wrap64 (a2)) (ji9)) < (x9_1.length : Int) then (if (bt205.1 == (rdOf false x9_1 (Int.tmod (wrap64 (a2)) (ji9)))) = true then (if bt205.2.1 = x12_2 then (if bt205.2.2.1 = x13_2 then (if bt205.2.2.2.1 = (wrap64 (x12_2 - x13_2)) then ((laws_shardSetting.f k2).bind fun t211 => (some t211)) else (some false)) else (some false)) else (some false)) else (some false)) else (none)) else (none)) else (some false)) else (some false)))) = some r := H
                        have A39 := Aside0.mk A390
                        clear A390
                        replace H := Option.bind_eq_some_iff.mp H
                        obtain ⟨⟨t201, t202⟩, A400, H⟩ := H
                        replace H : ((impl_BitsOnes.f k2 ji9 t201 (Int.tmod (wrap64 (a2)) (ji9))).bind fun bt205 => (if t202 = true then (if bt205.2.2.2.2 = true then (if 0 ≤ (Int.tmod (wrap64 (a2)) (ji9)) then (if (Int.tmod (wrap64 (a2)) (ji9)) < (x9_1.length : Int) then (if (bt205.1 == (rdOf false x9_1 (Int.tmod (wrap64 (a2)) (ji9)))) = true then (if bt205.2.1 = x12_2 then (if bt205.2.2.1 = x13_2 then (if bt205.2.2.2.1 = (wrap64 (x12_2 - x13_2)) then ((laws_shardSetting.f k2).bind fun t211 => (some t211)) else (some false)) else (some false)) else (some false)) else (some false)) else (none)) else (none)) else (some false)) else (some false))) = some r := H
                        have A40 := Aside0.mk A400
                        clear A400
                        replace H := Option.bind_eq_some_iff.mp H
                        obtain ⟨⟨t205, t206, t207, t208, t209⟩, A410, H⟩ := H
                        replace H : (if t202 = true then (if t209 = true then (if 0 ≤ (Int.tmod (wrap64 (a2)) (ji9)) then (if (Int.tmod (wrap64 (a2)) (ji9)) < (x9_1.length : Int) then (if (t205 == (rdOf false x9_1 (Int.tmod (wrap64 (a2)) (ji9)))) = true then (if t206 = x12_2 then (if t207 = x13_2 then (if t208 = (wrap64 (x12_2 - x13_2)) then ((laws_shardSetting.f k2).bind fun t211 => (some t211)) else (some false)) else (some false)) else (some false)) else (some false)) else (none)) else (none)) else (some false)) else (some false)) = some r := H
                        have A41 := Aside0.mk A410
                        clear A410
                        by_cases c42 : t202 = true
                        · subst c42
                          have H1 : (if t209 = true then (if 0 ≤ (Int.tmod (wrap64 (a2)) (ji9)) then (if (Int.tmod (wrap64 (a2)) (ji9)) < (x9_1.length : Int) then (if (t205 == (rdOf false x9_1 (Int.tmod (wrap64 (a2)) (ji9)))) = true then (if t206 = x12_2 then (if t207 = x13_2 then (if t208 = (wrap64 (x12_2 - x13_2)) then ((laws_shardSetting.f k2).bind fun t211 => (some t211)) else (some false)) else (some false)) else (some false)) else (some false)) else (none)) else (none)) else (some false)) = some r := by rw [if_pos rfl] at H; exact H
                          clear H
                          have H := H1
                          clear H1
                          by_cases c43 : t209 = true
                          · subst c43
                            have H1 : (if 0 ≤ (Int.tmod (wrap64 (a2)) (ji9)) then (if (Int.tmod (wrap64 (a2)) (ji9)) < (x9_1.length : Int) then (if (t205 == (rdOf false x9_1 (Int.tmod (wrap64 (a2)) (ji9)))) = true then (if t206 = x12_2 then (if t207 = x13_2 then (if t208 = (wrap64 (x12_2 - x13_2)) then ((laws_shardSetting.f k2).bind fun t211 => (some t211)) else (some false)) else (some false)) else (some false)) else (some false)) else (none)) else (none)) = some r := by rw [if_pos rfl] at H; exact H
                            clear H
                            have H := H1
                            clear H1
                            obtain ⟨ji44, hji44⟩ : ∃ j_ : Int, (Int.tmod (wrap64 (a2)) (ji9)) = j_ := ⟨_, rfl⟩
                            replace H : (if 0 ≤ (ji44) then (if (ji44) < (x9_1.length : Int) then (if (t205 == (rdOf false x9_1 (ji44))) = true then (if t206 = x12_2 then (if t207 = x13_2 then (if t208 = (wrap64 (x12_2 - x13_2)) then ((laws_shardSetting.f k2).bind fun t211 => (some t211)) else (some false)) else (some false)) else (some false)) else (some false)) else (none)) else (none)) = some r := by first | (rw [hji44] at H; exact H) | (simp only [hji44] at H ⊢; exact H)
                            (try rw [hji44] at A39)
                            (try rw [hji44] at A40)
                            (try rw [hji44] at A41)
                            by_cases c45 : 0 ≤ (ji44)
                            · rw [if_pos c45] at H
                              have c45b0 : decide (0 ≤ (ji44)) = true := decide_eq_true c45
                              clear c45
                              by_cases c46 : (ji44) < (x9_1.length : Int)
                              · rw [if_pos c46] at H
                                have c46b0 : decide ((ji44) < (x9_1.length : Int)) = true := decide_eq_true c46
                                clear c46
                                by_cases c47 : (t205 == (rdOf false x9_1 (ji44))) = true
                                · rw [if_pos c47] at H
                                  have c47b0 : (t205 == (rdOf false x9_1 (ji44))) = true := c47
                                  (try (have c47b1 : decide (t205 = (rdOf false x9_1 (ji44))) = true := by simpa using c47))
                                  (try (have c47b2 : (t205 == (rdOf false x9_1 (ji44))) = true := by simpa using c47))
                                  clear c47
                                  by_cases c48 : t206 = x12_2
                                  · rw [if_pos c48] at H
                                    have c48b0 : (t206 == x12_2) = true := beq_iff_eq.mpr c48
                                    have c48b1 : (t206 != x12_2) = false := bne_eq_false_iff_eq.mpr c48
                                    clear c48
                                    by_cases c49 : t207 = x13_2
                                    · rw [if_pos c49] at H
                                      have c49b0 : (t207 == x13_2) = true := beq_iff_eq.mpr c49
                                      have c49b1 : (t207 != x13_2) = false := bne_eq_false_iff_eq.mpr c49
                                      clear c49
                                      by_cases c50 : t208 = (wrap64 (x12_2 - x13_2))
                                      · rw [if_pos c50] at H
                                        have c50b0 : (t208 == (wrap64 (x12_2 - x13_2))) = true := beq_iff_eq.mpr c50
                                        have c50b1 : (t208 != (wrap64 (x12_2 - x13_2))) = false := bne_eq_false_iff_eq.mpr c50
                                        clear c50
                                        replace H := Option.bind_eq_some_iff.mp H
                                        obtain ⟨t211, A510, H⟩ := H
                                        replace H : (some t211) = some r := H
                                        have A51 := Aside0.mk A510
                                        clear A510
                                        obtain rfl := Option.some.inj H
                                        go_wp2_with (first | ((with_reducible refine gate_callee (f := 15) rfl ?_); refine goesL_ (some 78) rfl rfl Try.func15 (by kernel_rfl) rfl #[.int .i64 ji9, .slice A1 l1.length c1] rfl (by (try simp only [List.map_toArray, List.map_cons, List.map_nil]); first | done | (simp only [hji9]; rfl) | rfl | (simp only [List.length_drop, List.length_take]; rfl)) ?_; (with_reducible refine (laws_shardPlaces.calls k2 ji9 _ _ l1 t198 _ ?side1 ?side2 A39.out).mono ?_); (case side1 => repeat (first | exact (Kd.C_below HR1.out HB.out) | (with_reducible refine Kd.C_alloc ?_ _) | (with_reducible refine Kd.C_drewN ?_ _) | (with_reducible refine Kd.C_drew ?_))); (case side2 => exact HC1.out); rintro e w52 ⟨v199, rfl, ho0, hb⟩; refine ⟨_, rfl, ?_⟩; have n0_ := Aside0.mk (Kd.R_below (by (with_reducible repeat (first | apply Kd.R_alloc | apply Kd.R_drewN | apply Kd.R_drew)); exact HO_9.out) hb); have n1_ := Aside0.mk (Kd.R_below (by (with_reducible repeat (first | apply Kd.R_alloc | apply Kd.R_drewN | apply Kd.R_drew)); exact HO_58.out) hb); have n2_ := Aside0.mk (Kd.R_lower ho0 (below_size (by repeat (first | (with_reducible first | exact HB.out | apply below_alloc | apply pw_below_drewN | apply below_drew1) | exact HB.out)))); have n3_ := Aside0.mk (below_step (by repeat (first | (with_reducible first | exact HB.out | apply below_alloc | apply pw_below_drewN | apply below_drew1) | exact HB.out)) hb); clear HO_9; clear HO_58; clear HB; have HO_9 := n0_; have HO_58 := n1_; have HO200 := n2_; have HB := n3_; clear n0_ n1_ n2_ n3_; (try clear hb); (try clear hb2); (try clear hk); (try clear hi); (try clear ho0); obtain ⟨Ao53, co53, eo53⟩ := Kd.R_slice HO200.out; subst eo53) | ((with_reducible refine gate_callee (f := 16) rfl ?_); refine goesL_ (some 79) rfl rfl Try.func16 (by kernel_rfl) rfl #[.int .i64 ji9, .slice Ao53 t198.length co53] rfl (by (try simp only [List.map_toArray, List.map_cons, List.map_nil]); first | done | (simp only [hji9]; rfl) | rfl | (simp only [List.length_drop, List.length_take]; rfl)) ?_; (with_reducible refine (impl_BitsSet.calls k2 ji9 _ _ t198 t201 true _ ?side1 ?side2 A40.out).mono ?_); (case side1 => repeat (first | exact (Kd.R_reads' HO200.out).2.2 | (with_reducible refine Kd.C_alloc ?_ _) | (with_reducible refine Kd.C_drewN ?_ _) | (with_reducible refine Kd.C_drew ?_))); (case side2 => exact (Kd.R_reads' HO200.out).2.1); rintro e w54 ⟨v203, rfl, ho0, hb⟩; refine ⟨_, rfl, ?_⟩; have n0_ := Aside0.mk (Kd.R_below (by (with_reducible repeat (first | apply Kd.R_alloc | apply Kd.R_drewN | apply Kd.R_drew)); exact HO_9.out) hb); have n1_ := Aside0.mk (Kd.R_below (by (with_reducible repeat (first | apply Kd.R_alloc | apply Kd.R_drewN | apply Kd.R_drew)); exact HO_58.out) hb); have n2_ := Aside0.mk (Kd.R_below (by (with_reducible repeat (first | apply Kd.R_alloc | apply Kd.R_drewN | apply Kd.R_drew)); exact HO200.out) hb); have n3_ := Aside0.mk (Kd.R_lower ho0 (below_size (by repeat (first | (with_reducible first | exact HB.out | apply below_alloc | apply pw_below_drewN | apply below_drew1) | exact HB.out)))); have n4_ := Aside0.mk (below_step (by repeat (first | (with_reducible first | exact HB.out | apply below_alloc | apply pw_below_drewN | apply below_drew1) | exact HB.out)) hb); clear HO_9; clear HO_58; clear HO200; clear HB; have HO_9 := n0_; have HO_58 := n1_; have HO200 := n2_; have HO204 := n3_; have HB := n4_; clear n0_ n1_ n2_ n3_ n4_; (try clear hb); (try clear hb2); (try clear hk); (try clear hi); (try clear ho0); obtain ⟨Ao55, co55, eo55⟩ := Kd.R_slice HO204.out; subst eo55) | ((with_reducible refine gate_callee (f := 17) rfl ?_); refine goesL_ (some 86) rfl rfl Try.func17 (by kernel_rfl) rfl #[.int .i64 ji9, .slice Ao55 t201.length co55, .int .i64 (ji44)] rfl (by (try simp only [List.map_toArray, List.map_cons, List.map_nil]); first | done | (simp only [hji44, hji9]; rfl) | rfl | (simp only [List.length_drop, List.length_take]; rfl)) ?_; (with_reducible refine (impl_BitsOnes.calls k2 ji9 _ _ t201 (ji44) t205 t206 t207 t208 true _ ?side1 ?side2 A41.out).mono ?_); (case side1 => repeat (first | exact (Kd.R_reads' HO204.out).2.2 | (with_reducible refine Kd.C_alloc ?_ _) | (with_reducible refine Kd.C_drewN ?_ _) | (with_reducible refine Kd.C_drew ?_))); (case side2 => exact (Kd.R_reads' HO204.out).2.1); rintro e w56 ⟨rfl, hb⟩; refine ⟨_, rfl, ?_⟩; have n0_ := Aside0.mk (Kd.R_below (by (with_reducible repeat (first | apply Kd.R_alloc | apply Kd.R_drewN | apply Kd.R_drew)); exact HO_9.out) hb); have n1_ := Aside0.mk (Kd.R_below (by (with_reducible repeat (first | apply Kd.R_alloc | apply Kd.R_drewN | apply Kd.R_drew)); exact HO_58.out) hb); have n2_ := Aside0.mk (Kd.R_below (by (with_reducible repeat (first | apply Kd.R_alloc | apply Kd.R_drewN | apply Kd.R_drew)); exact HO200.out) hb); have n3_ := Aside0.mk (Kd.R_below (by (with_reducible repeat (first | apply Kd.R_alloc | apply Kd.R_drewN | apply Kd.R_drew)); exact HO204.out) hb); have n4_ := Aside0.mk (below_step (by repeat (first | (with_reducible first | exact HB.out | apply below_alloc | apply pw_below_drewN | apply below_drew1) | exact HB.out)) hb); clear HO_9; clear HO_58; clear HO200; clear HO204; clear HB; have HO_9 := n0_; have HO_58 := n1_; have HO200 := n2_; have HO204 := n3_; have HB := n4_; clear n0_ n1_ n2_ n3_ n4_; (try clear hb); (try clear hb2); (try clear hk); (try clear hi); have p210 : 0 ≤ ((ji44) : Int) := of_decide_eq_true (by first | (with_reducible assumption) | assumption); have q210 : (ji44) < (x9_1.length : Int) := of_decide_eq_true (by first | (with_reducible assumption) | assumption); obtain ⟨ad210, e210, hx210_0⟩ := Kd.at_bool (Kd.R_reads' HO_9.out).2.2 (ji44) p210 q210; cases e210; replace p210 := eq_true p210; replace q210 := eq_true q210) | (go_at_call 14; (with_reducible refine (laws_shardSetting.calls k2  t211 _ A51.out).mono ?_); rintro e w57 ⟨rfl, hb⟩; have n0_ := Aside0.mk (Kd.R_below (by (with_reducible repeat (first | apply Kd.R_alloc | apply Kd.R_drewN | apply Kd.R_drew)); exact HO_9.out) hb); have n1_ := Aside0.mk (Kd.R_below (by (with_reducible repeat (first | apply Kd.R_alloc | apply Kd.R_drewN | apply Kd.R_drew)); exact HO_58.out) hb); have n2_ := Aside0.mk (Kd.R_below (by (with_reducible repeat (first | apply Kd.R_alloc | apply Kd.R_drewN | apply Kd.R_drew)); exact HO200.out) hb); have n3_ := Aside0.mk (Kd.R_below (by (with_reducible repeat (first | apply Kd.R_alloc | apply Kd.R_drewN | apply Kd.R_drew)); exact HO204.out) hb); have n4_ := Aside0.mk (below_step (by repeat (first | (with_reducible first | exact HB.out | apply below_alloc | apply pw_below_drewN | apply below_drew1) | exact HB.out)) hb); clear HO_9; clear HO_58; clear HO200; clear HO204; clear HB; have HO_9 := n0_; have HO_58 := n1_; have HO200 := n2_; have HO204 := n3_; have HB := n4_; clear n0_ n1_ n2_ n3_ n4_; (try clear hb); (try clear hb2); (try clear hk); (try clear hi)))
                                        go_ret
                                        exact ⟨by first | rfl | (simp [errV_none, errV_some] <;> rfl) | (simp only [← hji9, ← hji44]; first | rfl | (simp [errV_none, errV_some] <;> rfl)) | (simp [*, errV_none, errV_some] <;> rfl), by repeat (first | (with_reducible first | exact HB.out | apply below_alloc | apply pw_below_drewN | apply below_drew1) | exact HB.out)⟩
                                      · rw [if_neg c50] at H
                                        have c50b0 : (t208 == (wrap64 (x12_2 - x13_2))) = false := beq_eq_false_iff_ne.mpr c50
                                        have c50b1 : (t208 != (wrap64 (x12_2 - x13_2))) = true := bne_iff_ne.mpr c50
                                        obtain rfl := Option.some.inj H
                                        go_wp2_with (first | ((with_reducible refine gate_callee (f := 15) rfl ?_); refine goesL_ (some 78) rfl rfl Try.func15 (by kernel_rfl) rfl #[.int .i64 ji9, .slice A1 l1.length c1] rfl (by (try simp only [List.map_toArray, List.map_cons, List.map_nil]); first | done | (simp only [hji9]; rfl) | rfl | (simp only [List.length_drop, List.length_take]; rfl)) ?_; (with_reducible refine (laws_shardPlaces.calls k2 ji9 _ _ l1 t198 _ ?side1 ?side2 A39.out).mono ?_); (case side1 => repeat (first | exact (Kd.C_below HR1.out HB.out) | (with_reducible refine Kd.C_alloc ?_ _) | (with_reducible refine Kd.C_drewN ?_ _) | (with_reducible refine Kd.C_drew ?_))); (case side2 => exact HC1.out); rintro e w58 ⟨v199, rfl, ho0, hb⟩; refine ⟨_, rfl, ?_⟩; have n0_ := Aside0.mk (Kd.R_below (by (with_reducible repeat (first | apply Kd.R_alloc | apply Kd.R_drewN | apply Kd.R_drew)); exact HO_9.out) hb); have n1_ := Aside0.mk (Kd.R_below (by (with_reducible repeat (first | apply Kd.R_alloc | apply Kd.R_drewN | apply Kd.R_drew)); exact HO_58.out) hb); have n2_ := Aside0.mk (Kd.R_lower ho0 (below_size (by repeat (first | (with_reducible first | exact HB.out | apply below_alloc | apply pw_below_drewN | apply below_drew1) | exact HB.out)))); have n3_ := Aside0.mk (below_step (by repeat (first | (with_reducible first | exact HB.out | apply below_alloc | apply pw_below_drewN | apply below_drew1) | exact HB.out)) hb); clear HO_9; clear HO_58; clear HB; have HO_9 := n0_; have HO_58 := n1_; have HO200 := n2_; have HB := n3_; clear n0_ n1_ n2_ n3_; (try clear hb); (try clear hb2); (try clear hk); (try clear hi); (try clear ho0); obtain ⟨Ao59, co59, eo59⟩ := Kd.R_slice HO200.out; subst eo59) | ((with_reducible refine gate_callee (f := 16) rfl ?_); refine goesL_ (some 79) rfl rfl Try.func16 (by kernel_rfl) rfl #[.int .i64 ji9, .slice Ao59 t198.length co59] rfl (by (try simp only [List.map_toArray, List.map_cons, List.map_nil]); first | done | (simp only [hji9]; rfl) | rfl | (simp only [List.length_drop, List.length_take]; rfl)) ?_; (with_reducible refine (impl_BitsSet.calls k2 ji9 _ _ t198 t201 true _ ?side1 ?side2 A40.out).mono ?_); (case side1 => repeat (first | exact (Kd.R_reads' HO200.out).2.2 | (with_reducible refine Kd.C_alloc ?_ _) | (with_reducible refine Kd.C_drewN ?_ _) | (with_reducible refine Kd.C_drew ?_))); (case side2 => exact (Kd.R_reads' HO200.out).2.1); rintro e w60 ⟨v203, rfl, ho0, hb⟩; refine ⟨_, rfl, ?_⟩; have n0_ := Aside0.mk (Kd.R_below (by (with_reducible repeat (first | apply Kd.R_alloc | apply Kd.R_drewN | apply Kd.R_drew)); exact HO_9.out) hb); have n1_ := Aside0.mk (Kd.R_below (by (with_reducible repeat (first | apply Kd.R_alloc | apply Kd.R_drewN | apply Kd.R_drew)); exact HO_58.out) hb); have n2_ := Aside0.mk (Kd.R_below (by (with_reducible repeat (first | apply Kd.R_alloc | apply Kd.R_drewN | apply Kd.R_drew)); exact HO200.out) hb); have n3_ := Aside0.mk (Kd.R_lower ho0 (below_size (by repeat (first | (with_reducible first | exact HB.out | apply below_alloc | apply pw_below_drewN | apply below_drew1) | exact HB.out)))); have n4_ := Aside0.mk (below_step (by repeat (first | (with_reducible first | exact HB.out | apply below_alloc | apply pw_below_drewN | apply below_drew1) | exact HB.out)) hb); clear HO_9; clear HO_58; clear HO200; clear HB; have HO_9 := n0_; have HO_58 := n1_; have HO200 := n2_; have HO204 := n3_; have HB := n4_; clear n0_ n1_ n2_ n3_ n4_; (try clear hb); (try clear hb2); (try clear hk); (try clear hi); (try clear ho0); obtain ⟨Ao61, co61, eo61⟩ := Kd.R_slice HO204.out; subst eo61) | ((with_reducible refine gate_callee (f := 17) rfl ?_); refine goesL_ (some 86) rfl rfl Try.func17 (by kernel_rfl) rfl #[.int .i64 ji9, .slice Ao61 t201.length co61, .int .i64 (ji44)] rfl (by (try simp only [List.map_toArray, List.map_cons, List.map_nil]); first | done | (simp only [hji44, hji9]; rfl) | rfl | (simp only [List.length_drop, List.length_take]; rfl)) ?_; (with_reducible refine (impl_BitsOnes.calls k2 ji9 _ _ t201 (ji44) t205 t206 t207 t208 true _ ?side1 ?side2 A41.out).mono ?_); (case side1 => repeat (first | exact (Kd.R_reads' HO204.out).2.2 | (with_reducible refine Kd.C_alloc ?_ _) | (with_reducible refine Kd.C_drewN ?_ _) | (with_reducible refine Kd.C_drew ?_))); (case side2 => exact (Kd.R_reads' HO204.out).2.1); rintro e w62 ⟨rfl, hb⟩; refine ⟨_, rfl, ?_⟩; have n0_ := Aside0.mk (Kd.R_below (by (with_reducible repeat (first | apply Kd.R_alloc | apply Kd.R_drewN | apply Kd.R_drew)); exact HO_9.out) hb); have n1_ := Aside0.mk (Kd.R_below (by (with_reducible repeat (first | apply Kd.R_alloc | apply Kd.R_drewN | apply Kd.R_drew)); exact HO_58.out) hb); have n2_ := Aside0.mk (Kd.R_below (by (with_reducible repeat (first | apply Kd.R_alloc | apply Kd.R_drewN | apply Kd.R_drew)); exact HO200.out) hb); have n3_ := Aside0.mk (Kd.R_below (by (with_reducible repeat (first | apply Kd.R_alloc | apply Kd.R_drewN | apply Kd.R_drew)); exact HO204.out) hb); have n4_ := Aside0.mk (below_step (by repeat (first | (with_reducible first | exact HB.out | apply below_alloc | apply pw_below_drewN | apply below_drew1) | exact HB.out)) hb); clear HO_9; clear HO_58; clear HO200; clear HO204; clear HB; have HO_9 := n0_; have HO_58 := n1_; have HO200 := n2_; have HO204 := n3_; have HB := n4_; clear n0_ n1_ n2_ n3_ n4_; (try clear hb); (try clear hb2); (try clear hk); (try clear hi); have p210 : 0 ≤ ((ji44) : Int) := of_decide_eq_true (by first | (with_reducible assumption) | assumption); have q210 : (ji44) < (x9_1.length : Int) := of_decide_eq_true (by first | (with_reducible assumption) | assumption); obtain ⟨ad210, e210, hx210_0⟩ := Kd.at_bool (Kd.R_reads' HO_9.out).2.2 (ji44) p210 q210; cases e210; replace p210 := eq_true p210; replace q210 := eq_true q210))
                                        go_ret
                                        exact ⟨by first | rfl | (simp [errV_none, errV_some] <;> rfl) | (simp only [← hji9, ← hji44]; first | rfl | (simp [errV_none, errV_some] <;> rfl)) | (simp [*, errV_none, errV_some] <;> rfl), by repeat (first | (with_reducible first | exact HB.out | apply below_alloc | apply pw_below_drewN | apply below_drew1) | exact HB.out)⟩
                                    · rw [if_neg c49] at H
                                      have c49b0 : (t207 == x13_2) = false := beq_eq_false_iff_ne.mpr c49
                                      have c49b1 : (t207 != x13_2) = true := bne_iff_ne.mpr c49
                                      obtain rfl := Option.some.inj H
                                      go_wp2_with (first | ((with_reducible refine gate_callee (f := 15) rfl ?_); refine goesL_ (some 78) rfl rfl Try.func15 (by kernel_rfl) rfl #[.int .i64 ji9, .slice A1 l1.length c1] rfl (by (try simp only [List.map_toArray, List.map_cons, List.map_nil]); first | done | (simp only [hji9]; rfl) | rfl | (simp only [List.length_drop, List.length_take]; rfl)) ?_; (with_reducible refine (laws_shardPlaces.calls k2 ji9 _ _ l1 t198 _ ?side1 ?side2 A39.out).mono ?_); (case side1 => repeat (first | exact (Kd.C_below HR1.out HB.out) | (with_reducible refine Kd.C_alloc ?_ _) | (with_reducible refine Kd.C_drewN ?_ _) | (with_reducible refine Kd.C_drew ?_))); (case side2 => exact HC1.out); rintro e w63 ⟨v199, rfl, ho0, hb⟩; refine ⟨_, rfl, ?_⟩; have n0_ := Aside0.mk (Kd.R_below (by (with_reducible repeat (first | apply Kd.R_alloc | apply Kd.R_drewN | apply Kd.R_drew)); exact HO_9.out) hb); have n1_ := Aside0.mk (Kd.R_below (by (with_reducible repeat (first | apply Kd.R_alloc | apply Kd.R_drewN | apply Kd.R_drew)); exact HO_58.out) hb); have n2_ := Aside0.mk (Kd.R_lower ho0 (below_size (by repeat (first | (with_reducible first | exact HB.out | apply below_alloc | apply pw_below_drewN | apply below_drew1) | exact HB.out)))); have n3_ := Aside0.mk (below_step (by repeat (first | (with_reducible first | exact HB.out | apply below_alloc | apply pw_below_drewN | apply below_drew1) | exact HB.out)) hb); clear HO_9; clear HO_58; clear HB; have HO_9 := n0_; have HO_58 := n1_; have HO200 := n2_; have HB := n3_; clear n0_ n1_ n2_ n3_; (try clear hb); (try clear hb2); (try clear hk); (try clear hi); (try clear ho0); obtain ⟨Ao64, co64, eo64⟩ := Kd.R_slice HO200.out; subst eo64) | ((with_reducible refine gate_callee (f := 16) rfl ?_); refine goesL_ (some 79) rfl rfl Try.func16 (by kernel_rfl) rfl #[.int .i64 ji9, .slice Ao64 t198.length co64] rfl (by (try simp only [List.map_toArray, List.map_cons, List.map_nil]); first | done | (simp only [hji9]; rfl) | rfl | (simp only [List.length_drop, List.length_take]; rfl)) ?_; (with_reducible refine (impl_BitsSet.calls k2 ji9 _ _ t198 t201 true _ ?side1 ?side2 A40.out).mono ?_); (case side1 => repeat (first | exact (Kd.R_reads' HO200.out).2.2 | (with_reducible refine Kd.C_alloc ?_ _) | (with_reducible refine Kd.C_drewN ?_ _) | (with_reducible refine Kd.C_drew ?_))); (case side2 => exact (Kd.R_reads' HO200.out).2.1); rintro e w65 ⟨v203, rfl, ho0, hb⟩; refine ⟨_, rfl, ?_⟩; have n0_ := Aside0.mk (Kd.R_below (by (with_reducible repeat (first | apply Kd.R_alloc | apply Kd.R_drewN | apply Kd.R_drew)); exact HO_9.out) hb); have n1_ := Aside0.mk (Kd.R_below (by (with_reducible repeat (first | apply Kd.R_alloc | apply Kd.R_drewN | apply Kd.R_drew)); exact HO_58.out) hb); have n2_ := Aside0.mk (Kd.R_below (by (with_reducible repeat (first | apply Kd.R_alloc | apply Kd.R_drewN | apply Kd.R_drew)); exact HO200.out) hb); have n3_ := Aside0.mk (Kd.R_lower ho0 (below_size (by repeat (first | (with_reducible first | exact HB.out | apply below_alloc | apply pw_below_drewN | apply below_drew1) | exact HB.out)))); have n4_ := Aside0.mk (below_step (by repeat (first | (with_reducible first | exact HB.out | apply below_alloc | apply pw_below_drewN | apply below_drew1) | exact HB.out)) hb); clear HO_9; clear HO_58; clear HO200; clear HB; have HO_9 := n0_; have HO_58 := n1_; have HO200 := n2_; have HO204 := n3_; have HB := n4_; clear n0_ n1_ n2_ n3_ n4_; (try clear hb); (try clear hb2); (try clear hk); (try clear hi); (try clear ho0); obtain ⟨Ao66, co66, eo66⟩ := Kd.R_slice HO204.out; subst eo66) | ((with_reducible refine gate_callee (f := 17) rfl ?_); refine goesL_ (some 86) rfl rfl Try.func17 (by kernel_rfl) rfl #[.int .i64 ji9, .slice Ao66 t201.length co66, .int .i64 (ji44)] rfl (by (try simp only [List.map_toArray, List.map_cons, List.map_nil]); first | done | (simp only [hji44, hji9]; rfl) | rfl | (simp only [List.length_drop, List.length_take]; rfl)) ?_; (with_reducible refine (impl_BitsOnes.calls k2 ji9 _ _ t201 (ji44) t205 t206 t207 t208 true _ ?side1 ?side2 A41.out).mono ?_); (case side1 => repeat (first | exact (Kd.R_reads' HO204.out).2.2 | (with_reducible refine Kd.C_alloc ?_ _) | (with_reducible refine Kd.C_drewN ?_ _) | (with_reducible refine Kd.C_drew ?_))); (case side2 => exact (Kd.R_reads' HO204.out).2.1); rintro e w67 ⟨rfl, hb⟩; refine ⟨_, rfl, ?_⟩; have n0_ := Aside0.mk (Kd.R_below (by (with_reducible repeat (first | apply Kd.R_alloc | apply Kd.R_drewN | apply Kd.R_drew)); exact HO_9.out) hb); have n1_ := Aside0.mk (Kd.R_below (by (with_reducible repeat (first | apply Kd.R_alloc | apply Kd.R_drewN | apply Kd.R_drew)); exact HO_58.out) hb); have n2_ := Aside0.mk (Kd.R_below (by (with_reducible repeat (first | apply Kd.R_alloc | apply Kd.R_drewN | apply Kd.R_drew)); exact HO200.out) hb); have n3_ := Aside0.mk (Kd.R_below (by (with_reducible repeat (first | apply Kd.R_alloc | apply Kd.R_drewN | apply Kd.R_drew)); exact HO204.out) hb); have n4_ := Aside0.mk (below_step (by repeat (first | (with_reducible first | exact HB.out | apply below_alloc | apply pw_below_drewN | apply below_drew1) | exact HB.out)) hb); clear HO_9; clear HO_58; clear HO200; clear HO204; clear HB; have HO_9 := n0_; have HO_58 := n1_; have HO200 := n2_; have HO204 := n3_; have HB := n4_; clear n0_ n1_ n2_ n3_ n4_; (try clear hb); (try clear hb2); (try clear hk); (try clear hi); have p210 : 0 ≤ ((ji44) : Int) := of_decide_eq_true (by first | (with_reducible assumption) | assumption); have q210 : (ji44) < (x9_1.length : Int) := of_decide_eq_true (by first | (with_reducible assumption) | assumption); obtain ⟨ad210, e210, hx210_0⟩ := Kd.at_bool (Kd.R_reads' HO_9.out).2.2 (ji44) p210 q210; cases e210; replace p210 := eq_true p210; replace q210 := eq_true q210))
                                      go_ret
                                      exact ⟨by first | rfl | (simp [errV_none, errV_some] <;> rfl) | (simp only [← hji9, ← hji44]; first | rfl | (simp [errV_none, errV_some] <;> rfl)) | (simp [*, errV_none, errV_some] <;> rfl), by repeat (first | (with_reducible first | exact HB.out | apply below_alloc | apply pw_below_drewN | apply below_drew1) | exact HB.out)⟩
                                  · rw [if_neg c48] at H
                                    have c48b0 : (t206 == x12_2) = false := beq_eq_false_iff_ne.mpr c48
                                    have c48b1 : (t206 != x12_2) = true := bne_iff_ne.mpr c48
                                    obtain rfl := Option.some.inj H
                                    go_wp2_with (first | ((with_reducible refine gate_callee (f := 15) rfl ?_); refine goesL_ (some 78) rfl rfl Try.func15 (by kernel_rfl) rfl #[.int .i64 ji9, .slice A1 l1.length c1] rfl (by (try simp only [List.map_toArray, List.map_cons, List.map_nil]); first | done | (simp only [hji9]; rfl) | rfl | (simp only [List.length_drop, List.length_take]; rfl)) ?_; (with_reducible refine (laws_shardPlaces.calls k2 ji9 _ _ l1 t198 _ ?side1 ?side2 A39.out).mono ?_); (case side1 => repeat (first | exact (Kd.C_below HR1.out HB.out) | (with_reducible refine Kd.C_alloc ?_ _) | (with_reducible refine Kd.C_drewN ?_ _) | (with_reducible refine Kd.C_drew ?_))); (case side2 => exact HC1.out); rintro e w68 ⟨v199, rfl, ho0, hb⟩; refine ⟨_, rfl, ?_⟩; have n0_ := Aside0.mk (Kd.R_below (by (with_reducible repeat (first | apply Kd.R_alloc | apply Kd.R_drewN | apply Kd.R_drew)); exact HO_9.out) hb); have n1_ := Aside0.mk (Kd.R_below (by (with_reducible repeat (first | apply Kd.R_alloc | apply Kd.R_drewN | apply Kd.R_drew)); exact HO_58.out) hb); have n2_ := Aside0.mk (Kd.R_lower ho0 (below_size (by repeat (first | (with_reducible first | exact HB.out | apply below_alloc | apply pw_below_drewN | apply below_drew1) | exact HB.out)))); have n3_ := Aside0.mk (below_step (by repeat (first | (with_reducible first | exact HB.out | apply below_alloc | apply pw_below_drewN | apply below_drew1) | exact HB.out)) hb); clear HO_9; clear HO_58; clear HB; have HO_9 := n0_; have HO_58 := n1_; have HO200 := n2_; have HB := n3_; clear n0_ n1_ n2_ n3_; (try clear hb); (try clear hb2); (try clear hk); (try clear hi); (try clear ho0); obtain ⟨Ao69, co69, eo69⟩ := Kd.R_slice HO200.out; subst eo69) | ((with_reducible refine gate_callee (f := 16) rfl ?_); refine goesL_ (some 79) rfl rfl Try.func16 (by kernel_rfl) rfl #[.int .i64 ji9, .slice Ao69 t198.length co69] rfl (by (try simp only [List.map_toArray, List.map_cons, List.map_nil]); first | done | (simp only [hji9]; rfl) | rfl | (simp only [List.length_drop, List.length_take]; rfl)) ?_; (with_reducible refine (impl_BitsSet.calls k2 ji9 _ _ t198 t201 true _ ?side1 ?side2 A40.out).mono ?_); (case side1 => repeat (first | exact (Kd.R_reads' HO200.out).2.2 | (with_reducible refine Kd.C_alloc ?_ _) | (with_reducible refine Kd.C_drewN ?_ _) | (with_reducible refine Kd.C_drew ?_))); (case side2 => exact (Kd.R_reads' HO200.out).2.1); rintro e w70 ⟨v203, rfl, ho0, hb⟩; refine ⟨_, rfl, ?_⟩; have n0_ := Aside0.mk (Kd.R_below (by (with_reducible repeat (first | apply Kd.R_alloc | apply Kd.R_drewN | apply Kd.R_drew)); exact HO_9.out) hb); have n1_ := Aside0.mk (Kd.R_below (by (with_reducible repeat (first | apply Kd.R_alloc | apply Kd.R_drewN | apply Kd.R_drew)); exact HO_58.out) hb); have n2_ := Aside0.mk (Kd.R_below (by (with_reducible repeat (first | apply Kd.R_alloc | apply Kd.R_drewN | apply Kd.R_drew)); exact HO200.out) hb); have n3_ := Aside0.mk (Kd.R_lower ho0 (below_size (by repeat (first | (with_reducible first | exact HB.out | apply below_alloc | apply pw_below_drewN | apply below_drew1) | exact HB.out)))); have n4_ := Aside0.mk (below_step (by repeat (first | (with_reducible first | exact HB.out | apply below_alloc | apply pw_below_drewN | apply below_drew1) | exact HB.out)) hb); clear HO_9; clear HO_58; clear HO200; clear HB; have HO_9 := n0_; have HO_58 := n1_; have HO200 := n2_; have HO204 := n3_; have HB := n4_; clear n0_ n1_ n2_ n3_ n4_; (try clear hb); (try clear hb2); (try clear hk); (try clear hi); (try clear ho0); obtain ⟨Ao71, co71, eo71⟩ := Kd.R_slice HO204.out; subst eo71) | ((with_reducible refine gate_callee (f := 17) rfl ?_); refine goesL_ (some 86) rfl rfl Try.func17 (by kernel_rfl) rfl #[.int .i64 ji9, .slice Ao71 t201.length co71, .int .i64 (ji44)] rfl (by (try simp only [List.map_toArray, List.map_cons, List.map_nil]); first | done | (simp only [hji44, hji9]; rfl) | rfl | (simp only [List.length_drop, List.length_take]; rfl)) ?_; (with_reducible refine (impl_BitsOnes.calls k2 ji9 _ _ t201 (ji44) t205 t206 t207 t208 true _ ?side1 ?side2 A41.out).mono ?_); (case side1 => repeat (first | exact (Kd.R_reads' HO204.out).2.2 | (with_reducible refine Kd.C_alloc ?_ _) | (with_reducible refine Kd.C_drewN ?_ _) | (with_reducible refine Kd.C_drew ?_))); (case side2 => exact (Kd.R_reads' HO204.out).2.1); rintro e w72 ⟨rfl, hb⟩; refine ⟨_, rfl, ?_⟩; have n0_ := Aside0.mk (Kd.R_below (by (with_reducible repeat (first | apply Kd.R_alloc | apply Kd.R_drewN | apply Kd.R_drew)); exact HO_9.out) hb); have n1_ := Aside0.mk (Kd.R_below (by (with_reducible repeat (first | apply Kd.R_alloc | apply Kd.R_drewN | apply Kd.R_drew)); exact HO_58.out) hb); have n2_ := Aside0.mk (Kd.R_below (by (with_reducible repeat (first | apply Kd.R_alloc | apply Kd.R_drewN | apply Kd.R_drew)); exact HO200.out) hb); have n3_ := Aside0.mk (Kd.R_below (by (with_reducible repeat (first | apply Kd.R_alloc | apply Kd.R_drewN | apply Kd.R_drew)); exact HO204.out) hb); have n4_ := Aside0.mk (below_step (by repeat (first | (with_reducible first | exact HB.out | apply below_alloc | apply pw_below_drewN | apply below_drew1) | exact HB.out)) hb); clear HO_9; clear HO_58; clear HO200; clear HO204; clear HB; have HO_9 := n0_; have HO_58 := n1_; have HO200 := n2_; have HO204 := n3_; have HB := n4_; clear n0_ n1_ n2_ n3_ n4_; (try clear hb); (try clear hb2); (try clear hk); (try clear hi); have p210 : 0 ≤ ((ji44) : Int) := of_decide_eq_true (by first | (with_reducible assumption) | assumption); have q210 : (ji44) < (x9_1.length : Int) := of_decide_eq_true (by first | (with_reducible assumption) | assumption); obtain ⟨ad210, e210, hx210_0⟩ := Kd.at_bool (Kd.R_reads' HO_9.out).2.2 (ji44) p210 q210; cases e210; replace p210 := eq_true p210; replace q210 := eq_true q210))
                                    go_ret
                                    exact ⟨by first | rfl | (simp [errV_none, errV_some] <;> rfl) | (simp only [← hji9, ← hji44]; first | rfl | (simp [errV_none, errV_some] <;> rfl)) | (simp [*, errV_none, errV_some] <;> rfl), by repeat (first | (with_reducible first | exact HB.out | apply below_alloc | apply pw_below_drewN | apply below_drew1) | exact HB.out)⟩
                                · rw [if_neg c47] at H
                                  have c47b0 : (t205 == (rdOf false x9_1 (ji44))) = false := by simpa using c47
                                  (try (have c47b1 : decide (t205 = (rdOf false x9_1 (ji44))) = false := by simpa using c47))
                                  (try (have c47b2 : (t205 == (rdOf false x9_1 (ji44))) = false := by simpa using c47))
                                  (try (have c47b3 : ¬ (t205 = (rdOf false x9_1 (ji44))) := by simpa using c47))
                                  clear c47
                                  obtain rfl := Option.some.inj H
                                  go_wp2_with (first | ((with_reducible refine gate_callee (f := 15) rfl ?_); refine goesL_ (some 78) rfl rfl Try.func15 (by kernel_rfl) rfl #[.int .i64 ji9, .slice A1 l1.length c1] rfl (by (try simp only [List.map_toArray, List.map_cons, List.map_nil]); first | done | (simp only [hji9]; rfl) | rfl | (simp only [List.length_drop, List.length_take]; rfl)) ?_; (with_reducible refine (laws_shardPlaces.calls k2 ji9 _ _ l1 t198 _ ?side1 ?side2 A39.out).mono ?_); (case side1 => repeat (first | exact (Kd.C_below HR1.out HB.out) | (with_reducible refine Kd.C_alloc ?_ _) | (with_reducible refine Kd.C_drewN ?_ _) | (with_reducible refine Kd.C_drew ?_))); (case side2 => exact HC1.out); rintro e w73 ⟨v199, rfl, ho0, hb⟩; refine ⟨_, rfl, ?_⟩; have n0_ := Aside0.mk (Kd.R_below (by (with_reducible repeat (first | apply Kd.R_alloc | apply Kd.R_drewN | apply Kd.R_drew)); exact HO_9.out) hb); have n1_ := Aside0.mk (Kd.R_below (by (with_reducible repeat (first | apply Kd.R_alloc | apply Kd.R_drewN | apply Kd.R_drew)); exact HO_58.out) hb); have n2_ := Aside0.mk (Kd.R_lower ho0 (below_size (by repeat (first | (with_reducible first | exact HB.out | apply below_alloc | apply pw_below_drewN | apply below_drew1) | exact HB.out)))); have n3_ := Aside0.mk (below_step (by repeat (first | (with_reducible first | exact HB.out | apply below_alloc | apply pw_below_drewN | apply below_drew1) | exact HB.out)) hb); clear HO_9; clear HO_58; clear HB; have HO_9 := n0_; have HO_58 := n1_; have HO200 := n2_; have HB := n3_; clear n0_ n1_ n2_ n3_; (try clear hb); (try clear hb2); (try clear hk); (try clear hi); (try clear ho0); obtain ⟨Ao74, co74, eo74⟩ := Kd.R_slice HO200.out; subst eo74) | ((with_reducible refine gate_callee (f := 16) rfl ?_); refine goesL_ (some 79) rfl rfl Try.func16 (by kernel_rfl) rfl #[.int .i64 ji9, .slice Ao74 t198.length co74] rfl (by (try simp only [List.map_toArray, List.map_cons, List.map_nil]); first | done | (simp only [hji9]; rfl) | rfl | (simp only [List.length_drop, List.length_take]; rfl)) ?_; (with_reducible refine (impl_BitsSet.calls k2 ji9 _ _ t198 t201 true _ ?side1 ?side2 A40.out).mono ?_); (case side1 => repeat (first | exact (Kd.R_reads' HO200.out).2.2 | (with_reducible refine Kd.C_alloc ?_ _) | (with_reducible refine Kd.C_drewN ?_ _) | (with_reducible refine Kd.C_drew ?_))); (case side2 => exact (Kd.R_reads' HO200.out).2.1); rintro e w75 ⟨v203, rfl, ho0, hb⟩; refine ⟨_, rfl, ?_⟩; have n0_ := Aside0.mk (Kd.R_below (by (with_reducible repeat (first | apply Kd.R_alloc | apply Kd.R_drewN | apply Kd.R_drew)); exact HO_9.out) hb); have n1_ := Aside0.mk (Kd.R_below (by (with_reducible repeat (first | apply Kd.R_alloc | apply Kd.R_drewN | apply Kd.R_drew)); exact HO_58.out) hb); have n2_ := Aside0.mk (Kd.R_below (by (with_reducible repeat (first | apply Kd.R_alloc | apply Kd.R_drewN | apply Kd.R_drew)); exact HO200.out) hb); have n3_ := Aside0.mk (Kd.R_lower ho0 (below_size (by repeat (first | (with_reducible first | exact HB.out | apply below_alloc | apply pw_below_drewN | apply below_drew1) | exact HB.out)))); have n4_ := Aside0.mk (below_step (by repeat (first | (with_reducible first | exact HB.out | apply below_alloc | apply pw_below_drewN | apply below_drew1) | exact HB.out)) hb); clear HO_9; clear HO_58; clear HO200; clear HB; have HO_9 := n0_; have HO_58 := n1_; have HO200 := n2_; have HO204 := n3_; have HB := n4_; clear n0_ n1_ n2_ n3_ n4_; (try clear hb); (try clear hb2); (try clear hk); (try clear hi); (try clear ho0); obtain ⟨Ao76, co76, eo76⟩ := Kd.R_slice HO204.out; subst eo76) | ((with_reducible refine gate_callee (f := 17) rfl ?_); refine goesL_ (some 86) rfl rfl Try.func17 (by kernel_rfl) rfl #[.int .i64 ji9, .slice Ao76 t201.length co76, .int .i64 (ji44)] rfl (by (try simp only [List.map_toArray, List.map_cons, List.map_nil]); first | done | (simp only [hji44, hji9]; rfl) | rfl | (simp only [List.length_drop, List.length_take]; rfl)) ?_; (with_reducible refine (impl_BitsOnes.calls k2 ji9 _ _ t201 (ji44) t205 t206 t207 t208 true _ ?side1 ?side2 A41.out).mono ?_); (case side1 => repeat (first | exact (Kd.R_reads' HO204.out).2.2 | (with_reducible refine Kd.C_alloc ?_ _) | (with_reducible refine Kd.C_drewN ?_ _) | (with_reducible refine Kd.C_drew ?_))); (case side2 => exact (Kd.R_reads' HO204.out).2.1); rintro e w77 ⟨rfl, hb⟩; refine ⟨_, rfl, ?_⟩; have n0_ := Aside0.mk (Kd.R_below (by (with_reducible repeat (first | apply Kd.R_alloc | apply Kd.R_drewN | apply Kd.R_drew)); exact HO_9.out) hb); have n1_ := Aside0.mk (Kd.R_below (by (with_reducible repeat (first | apply Kd.R_alloc | apply Kd.R_drewN | apply Kd.R_drew)); exact HO_58.out) hb); have n2_ := Aside0.mk (Kd.R_below (by (with_reducible repeat (first | apply Kd.R_alloc | apply Kd.R_drewN | apply Kd.R_drew)); exact HO200.out) hb); have n3_ := Aside0.mk (Kd.R_below (by (with_reducible repeat (first | apply Kd.R_alloc | apply Kd.R_drewN | apply Kd.R_drew)); exact HO204.out) hb); have n4_ := Aside0.mk (below_step (by repeat (first | (with_reducible first | exact HB.out | apply below_alloc | apply pw_below_drewN | apply below_drew1) | exact HB.out)) hb); clear HO_9; clear HO_58; clear HO200; clear HO204; clear HB; have HO_9 := n0_; have HO_58 := n1_; have HO200 := n2_; have HO204 := n3_; have HB := n4_; clear n0_ n1_ n2_ n3_ n4_; (try clear hb); (try clear hb2); (try clear hk); (try clear hi); have p210 : 0 ≤ ((ji44) : Int) := of_decide_eq_true (by first | (with_reducible assumption) | assumption); have q210 : (ji44) < (x9_1.length : Int) := of_decide_eq_true (by first | (with_reducible assumption) | assumption); obtain ⟨ad210, e210, hx210_0⟩ := Kd.at_bool (Kd.R_reads' HO_9.out).2.2 (ji44) p210 q210; cases e210; replace p210 := eq_true p210; replace q210 := eq_true q210))
                                  go_ret
                                  exact ⟨by first | rfl | (simp [errV_none, errV_some] <;> rfl) | (simp only [← hji9, ← hji44]; first | rfl | (simp [errV_none, errV_some] <;> rfl)) | (simp [*, errV_none, errV_some] <;> rfl), by repeat (first | (with_reducible first | exact HB.out | apply below_alloc | apply pw_below_drewN | apply below_drew1) | exact HB.out)⟩
                              · rw [if_neg c46] at H
                                exact absurd H (by simp)
                            · rw [if_neg c45] at H
                              exact absurd H (by simp)
                          · replace c43 := Bool.eq_false_iff.mpr c43
                            subst c43
                            have H1 : (some false) = some r := by rw [if_neg (show ¬ (false = true) by decide)] at H; exact H
                            clear H
                            have H := H1
                            clear H1
                            obtain rfl := Option.some.inj H
                            go_wp2_with (first | ((with_reducible refine gate_callee (f := 15) rfl ?_); refine goesL_ (some 78) rfl rfl Try.func15 (by kernel_rfl) rfl #[.int .i64 ji9, .slice A1 l1.length c1] rfl (by (try simp only [List.map_toArray, List.map_cons, List.map_nil]); first | done | (simp only [hji9]; rfl) | rfl | (simp only [List.length_drop, List.length_take]; rfl)) ?_; (with_reducible refine (laws_shardPlaces.calls k2 ji9 _ _ l1 t198 _ ?side1 ?side2 A39.out).mono ?_); (case side1 => repeat (first | exact (Kd.C_below HR1.out HB.out) | (with_reducible refine Kd.C_alloc ?_ _) | (with_reducible refine Kd.C_drewN ?_ _) | (with_reducible refine Kd.C_drew ?_))); (case side2 => exact HC1.out); rintro e w78 ⟨v199, rfl, ho0, hb⟩; refine ⟨_, rfl, ?_⟩; have n0_ := Aside0.mk (Kd.R_below (by (with_reducible repeat (first | apply Kd.R_alloc | apply Kd.R_drewN | apply Kd.R_drew)); exact HO_9.out) hb); have n1_ := Aside0.mk (Kd.R_below (by (with_reducible repeat (first | apply Kd.R_alloc | apply Kd.R_drewN | apply Kd.R_drew)); exact HO_58.out) hb); have n2_ := Aside0.mk (Kd.R_lower ho0 (below_size (by repeat (first | (with_reducible first | exact HB.out | apply below_alloc | apply pw_below_drewN | apply below_drew1) | exact HB.out)))); have n3_ := Aside0.mk (below_step (by repeat (first | (with_reducible first | exact HB.out | apply below_alloc | apply pw_below_drewN | apply below_drew1) | exact HB.out)) hb); clear HO_9; clear HO_58; clear HB; have HO_9 := n0_; have HO_58 := n1_; have HO200 := n2_; have HB := n3_; clear n0_ n1_ n2_ n3_; (try clear hb); (try clear hb2); (try clear hk); (try clear hi); (try clear ho0); obtain ⟨Ao79, co79, eo79⟩ := Kd.R_slice HO200.out; subst eo79) | ((with_reducible refine gate_callee (f := 16) rfl ?_); refine goesL_ (some 79) rfl rfl Try.func16 (by kernel_rfl) rfl #[.int .i64 ji9, .slice Ao79 t198.length co79] rfl (by (try simp only [List.map_toArray, List.map_cons, List.map_nil]); first | done | (simp only [hji9]; rfl) | rfl | (simp only [List.length_drop, List.length_take]; rfl)) ?_; (with_reducible refine (impl_BitsSet.calls k2 ji9 _ _ t198 t201 true _ ?side1 ?side2 A40.out).mono ?_); (case side1 => repeat (first | exact (Kd.R_reads' HO200.out).2.2 | (with_reducible refine Kd.C_alloc ?_ _) | (with_reducible refine Kd.C_drewN ?_ _) | (with_reducible refine Kd.C_drew ?_))); (case side2 => exact (Kd.R_reads' HO200.out).2.1); rintro e w80 ⟨v203, rfl, ho0, hb⟩; refine ⟨_, rfl, ?_⟩; have n0_ := Aside0.mk (Kd.R_below (by (with_reducible repeat (first | apply Kd.R_alloc | apply Kd.R_drewN | apply Kd.R_drew)); exact HO_9.out) hb); have n1_ := Aside0.mk (Kd.R_below (by (with_reducible repeat (first | apply Kd.R_alloc | apply Kd.R_drewN | apply Kd.R_drew)); exact HO_58.out) hb); have n2_ := Aside0.mk (Kd.R_below (by (with_reducible repeat (first | apply Kd.R_alloc | apply Kd.R_drewN | apply Kd.R_drew)); exact HO200.out) hb); have n3_ := Aside0.mk (Kd.R_lower ho0 (below_size (by repeat (first | (with_reducible first | exact HB.out | apply below_alloc | apply pw_below_drewN | apply below_drew1) | exact HB.out)))); have n4_ := Aside0.mk (below_step (by repeat (first | (with_reducible first | exact HB.out | apply below_alloc | apply pw_below_drewN | apply below_drew1) | exact HB.out)) hb); clear HO_9; clear HO_58; clear HO200; clear HB; have HO_9 := n0_; have HO_58 := n1_; have HO200 := n2_; have HO204 := n3_; have HB := n4_; clear n0_ n1_ n2_ n3_ n4_; (try clear hb); (try clear hb2); (try clear hk); (try clear hi); (try clear ho0); obtain ⟨Ao81, co81, eo81⟩ := Kd.R_slice HO204.out; subst eo81) | ((with_reducible refine gate_callee (f := 17) rfl ?_); refine goesL_ (some 86) rfl rfl Try.func17 (by kernel_rfl) rfl #[.int .i64 ji9, .slice Ao81 t201.length co81, .int .i64 (Int.tmod (wrap64 (a2)) (ji9))] rfl (by (try simp only [List.map_toArray, List.map_cons, List.map_nil]); first | done | (simp only [hji9]; rfl) | rfl | (simp only [List.length_drop, List.length_take]; rfl)) ?_; (with_reducible refine (impl_BitsOnes.calls k2 ji9 _ _ t201 (Int.tmod (wrap64 (a2)) (ji9)) t205 t206 t207 t208 false _ ?side1 ?side2 A41.out).mono ?_); (case side1 => repeat (first | exact (Kd.R_reads' HO204.out).2.2 | (with_reducible refine Kd.C_alloc ?_ _) | (with_reducible refine Kd.C_drewN ?_ _) | (with_reducible refine Kd.C_drew ?_))); (case side2 => exact (Kd.R_reads' HO204.out).2.1); rintro e w82 ⟨rfl, hb⟩; refine ⟨_, rfl, ?_⟩; have n0_ := Aside0.mk (Kd.R_below (by (with_reducible repeat (first | apply Kd.R_alloc | apply Kd.R_drewN | apply Kd.R_drew)); exact HO_9.out) hb); have n1_ := Aside0.mk (Kd.R_below (by (with_reducible repeat (first | apply Kd.R_alloc | apply Kd.R_drewN | apply Kd.R_drew)); exact HO_58.out) hb); have n2_ := Aside0.mk (Kd.R_below (by (with_reducible repeat (first | apply Kd.R_alloc | apply Kd.R_drewN | apply Kd.R_drew)); exact HO200.out) hb); have n3_ := Aside0.mk (Kd.R_below (by (with_reducible repeat (first | apply Kd.R_alloc | apply Kd.R_drewN | apply Kd.R_drew)); exact HO204.out) hb); have n4_ := Aside0.mk (below_step (by repeat (first | (with_reducible first | exact HB.out | apply below_alloc | apply pw_below_drewN | apply below_drew1) | exact HB.out)) hb); clear HO_9; clear HO_58; clear HO200; clear HO204; clear HB; have HO_9 := n0_; have HO_58 := n1_; have HO200 := n2_; have HO204 := n3_; have HB := n4_; clear n0_ n1_ n2_ n3_ n4_; (try clear hb); (try clear hb2); (try clear hk); (try clear hi)))
                            go_ret
                            exact ⟨by first | rfl | (simp [errV_none, errV_some] <;> rfl) | (simp only [← hji9]; first | rfl | (simp [errV_none, errV_some] <;> rfl)) | (simp [*, errV_none, errV_some] <;> rfl), by repeat (first | (with_reducible first | exact HB.out | apply below_alloc | apply pw_below_drewN | apply below_drew1) | exact HB.out)⟩
                        · replace c42 := Bool.eq_false_iff.mpr c42
                          subst c42
                          have H1 : (some false) = some r := by rw [if_neg (show ¬ (false = true) by decide)] at H; exact H
                          clear H
                          have H := H1
                          clear H1
                          obtain rfl := Option.some.inj H
                          go_wp2_with (first | ((with_reducible refine gate_callee (f := 15) rfl ?_); refine goesL_ (some 78) rfl rfl Try.func15 (by kernel_rfl) rfl #[.int .i64 ji9, .slice A1 l1.length c1] rfl (by (try simp only [List.map_toArray, List.map_cons, List.map_nil]); first | done | (simp only [hji9]; rfl) | rfl | (simp only [List.length_drop, List.length_take]; rfl)) ?_; (with_reducible refine (laws_shardPlaces.calls k2 ji9 _ _ l1 t198 _ ?side1 ?side2 A39.out).mono ?_); (case side1 => repeat (first | exact (Kd.C_below HR1.out HB.out) | (with_reducible refine Kd.C_alloc ?_ _) | (with_reducible refine Kd.C_drewN ?_ _) | (with_reducible refine Kd.C_drew ?_))); (case side2 => exact HC1.out); rintro e w83 ⟨v199, rfl, ho0, hb⟩; refine ⟨_, rfl, ?_⟩; have n0_ := Aside0.mk (Kd.R_below (by (with_reducible repeat (first | apply Kd.R_alloc | apply Kd.R_drewN | apply Kd.R_drew)); exact HO_9.out) hb); have n1_ := Aside0.mk (Kd.R_below (by (with_reducible repeat (first | apply Kd.R_alloc | apply Kd.R_drewN | apply Kd.R_drew)); exact HO_58.out) hb); have n2_ := Aside0.mk (Kd.R_lower ho0 (below_size (by repeat (first | (with_reducible first | exact HB.out | apply below_alloc | apply pw_below_drewN | apply below_drew1) | exact HB.out)))); have n3_ := Aside0.mk (below_step (by repeat (first | (with_reducible first | exact HB.out | apply below_alloc | apply pw_below_drewN | apply below_drew1) | exact HB.out)) hb); clear HO_9; clear HO_58; clear HB; have HO_9 := n0_; have HO_58 := n1_; have HO200 := n2_; have HB := n3_; clear n0_ n1_ n2_ n3_; (try clear hb); (try clear hb2); (try clear hk); (try clear hi); (try clear ho0); obtain ⟨Ao84, co84, eo84⟩ := Kd.R_slice HO200.out; subst eo84) | ((with_reducible refine gate_callee (f := 16) rfl ?_); refine goesL_ (some 79) rfl rfl Try.func16 (by kernel_rfl) rfl #[.int .i64 ji9, .slice Ao84 t198.length co84] rfl (by (try simp only [List.map_toArray, List.map_cons, List.map_nil]); first | done | (simp only [hji9]; rfl) | rfl | (simp only [List.length_drop, List.length_take]; rfl)) ?_; (with_reducible refine (impl_BitsSet.calls k2 ji9 _ _ t198 t201 false _ ?side1 ?side2 A40.out).mono ?_); (case side1 => repeat (first | exact (Kd.R_reads' HO200.out).2.2 | (with_reducible refine Kd.C_alloc ?_ _) | (with_reducible refine Kd.C_drewN ?_ _) | (with_reducible refine Kd.C_drew ?_))); (case side2 => exact (Kd.R_reads' HO200.out).2.1); rintro e w85 ⟨v203, rfl, ho0, hb⟩; refine ⟨_, rfl, ?_⟩; have n0_ := Aside0.mk (Kd.R_below (by (with_reducible repeat (first | apply Kd.R_alloc | apply Kd.R_drewN | apply Kd.R_drew)); exact HO_9.out) hb); have n1_ := Aside0.mk (Kd.R_below (by (with_reducible repeat (first | apply Kd.R_alloc | apply Kd.R_drewN | apply Kd.R_drew)); exact HO_58.out) hb); have n2_ := Aside0.mk (Kd.R_below (by (with_reducible repeat (first | apply Kd.R_alloc | apply Kd.R_drewN | apply Kd.R_drew)); exact HO200.out) hb); have n3_ := Aside0.mk (Kd.R_lower ho0 (below_size (by repeat (first | (with_reducible first | exact HB.out | apply below_alloc | apply pw_below_drewN | apply below_drew1) | exact HB.out)))); have n4_ := Aside0.mk (below_step (by repeat (first | (with_reducible first | exact HB.out | apply below_alloc | apply pw_below_drewN | apply below_drew1) | exact HB.out)) hb); clear HO_9; clear HO_58; clear HO200; clear HB; have HO_9 := n0_; have HO_58 := n1_; have HO200 := n2_; have HO204 := n3_; have HB := n4_; clear n0_ n1_ n2_ n3_ n4_; (try clear hb); (try clear hb2); (try clear hk); (try clear hi); (try clear ho0); obtain ⟨Ao86, co86, eo86⟩ := Kd.R_slice HO204.out; subst eo86) | ((with_reducible refine gate_callee (f := 17) rfl ?_); refine goesL_ (some 86) rfl rfl Try.func17 (by kernel_rfl) rfl #[.int .i64 ji9, .slice Ao86 t201.length co86, .int .i64 (Int.tmod (wrap64 (a2)) (ji9))] rfl (by (try simp only [List.map_toArray, List.map_cons, List.map_nil]); first | done | (simp only [hji9]; rfl) | rfl | (simp only [List.length_drop, List.length_take]; rfl)) ?_; (with_reducible refine (impl_BitsOnes.calls k2 ji9 _ _ t201 (Int.tmod (wrap64 (a2)) (ji9)) t205 t206 t207 t208 t209 _ ?side1 ?side2 A41.out).mono ?_); (case side1 => repeat (first | exact (Kd.R_reads' HO204.out).2.2 | (with_reducible refine Kd.C_alloc ?_ _) | (with_reducible refine Kd.C_drewN ?_ _) | (with_reducible refine Kd.C_drew ?_))); (case side2 => exact (Kd.R_reads' HO204.out).2.1); rintro e w87 ⟨rfl, hb⟩; refine ⟨_, rfl, ?_⟩; have n0_ := Aside0.mk (Kd.R_below (by (with_reducible repeat (first | apply Kd.R_alloc | apply Kd.R_drewN | apply Kd.R_drew)); exact HO_9.out) hb); have n1_ := Aside0.mk (Kd.R_below (by (with_reducible repeat (first | apply Kd.R_alloc | apply Kd.R_drewN | apply Kd.R_drew)); exact HO_58.out) hb); have n2_ := Aside0.mk (Kd.R_below (by (with_reducible repeat (first | apply Kd.R_alloc | apply Kd.R_drewN | apply Kd.R_drew)); exact HO200.out) hb); have n3_ := Aside0.mk (Kd.R_below (by (with_reducible repeat (first | apply Kd.R_alloc | apply Kd.R_drewN | apply Kd.R_drew)); exact HO204.out) hb); have n4_ := Aside0.mk (below_step (by repeat (first | (with_reducible first | exact HB.out | apply below_alloc | apply pw_below_drewN | apply below_drew1) | exact HB.out)) hb); clear HO_9; clear HO_58; clear HO200; clear HO204; clear HB; have HO_9 := n0_; have HO_58 := n1_; have HO200 := n2_; have HO204 := n3_; have HB := n4_; clear n0_ n1_ n2_ n3_ n4_; (try clear hb); (try clear hb2); (try clear hk); (try clear hi)))
                          go_ret
                          exact ⟨by first | rfl | (simp [errV_none, errV_some] <;> rfl) | (simp only [← hji9]; first | rfl | (simp [errV_none, errV_some] <;> rfl)) | (simp [*, errV_none, errV_some] <;> rfl), by repeat (first | (with_reducible first | exact HB.out | apply below_alloc | apply pw_below_drewN | apply below_drew1) | exact HB.out)⟩
          · rw [if_neg c11] at H
            exact absurd H (by simp)
        · rw [if_neg c10] at H
          exact absurd H (by simp)

/-- THE ONE PURE STATEMENT of laws_FnBitsOnes: yours. -/
def laws_FnBitsOnes.Pure : Prop := ∀ (a0 : Int) (l1 : List Int) (a2 : Int), (Lit.int .u8 a0).wf = true → l1.length ≤ maxLen → l1.length * 2 ≤ 140737488351232 → (∀ x ∈ l1, (Lit.int .i16 x).wf = true) → (Lit.int .u16 a2).wf = true → ∃ k, laws_FnBitsOnes.f k a0 l1 a2 = some true
theorem laws_FnBitsOnes.walk (P : laws_FnBitsOnes.Pure) (a0 : Int) (a1 : Option Addr) (len1 cap1 : Nat) (z1 : List Int) (a2 : Int) (w : World) (w0 : (Lit.int .u8 a0).wf = true) (w1 : (a1 = none ∧ len1 = 0 ∧ cap1 = 0 ∧ z1 = []) ∨ ∃ x, a1 = some x ∧ len1 ≤ cap1 ∧ cap1 ≤ maxLen ∧ z1.length = cap1 ∧ (∀ i, i < z1.length → w.cell? (x.add i) = some (.int .i16 (z1.getD i 0))) ∧ ∀ n ∈ z1, (Lit.int .i16 n).wf = true) (y1 : len1 * 2 ≤ 140737488351232) (w2 : (Lit.int .u16 a2).wf = true) :
    Calls Try.prog 4 #[.int .u8 a0, .slice a1 len1 cap1, .int .u16 a2] w fun e w' => e = .returned (.bool true) ∧ Below w.heap.size w w' := by
  obtain ⟨l1, rfl, hr1, hm1, hw1, hc1⟩ := ReadsInt.ofRowC w1
  obtain ⟨k, h⟩ := P a0 l1 a2 w0 hm1 y1 hw1 w2
  refine (laws_FnBitsOnes.calls k a0 _ _ l1 a2 true w (Kd.C_of_reads (d := (0 : Int)) (h1 := fun _ => rfl) hr1) hc1 h).mono ?_
  rintro e w' ⟨rfl, hd⟩
  exact ⟨rfl, hd⟩

end Go.Proofs.Ytbmeegkgcipmoaa.PFnBitsOnes
