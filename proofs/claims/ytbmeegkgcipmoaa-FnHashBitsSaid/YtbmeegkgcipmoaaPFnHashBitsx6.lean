/- Printed by a program of this session (it drives the print of the kit, with contracts proved by hand beside): the Go functions of one law as Lean functions, and that the Go code comes to what they say. -/
import Derived.Test.YtbmeegkgcipmoaaPFnHashBitsx0
namespace Go.Proofs.Ytbmeegkgcipmoaa.PFnHashBits
open Go.RowKit Go.Proofs.YtbmeegkgcipmoaaW.PrintWords Go.Proofs.YtbmeegkgcipmoaaW.PrintLast Go.Proofs.YtbmeegkgcipmoaaW.PrintMore
attribute [local go_sem] max2_int min2_int max_two min_two max_three min_three max_four min_four   -- for this text's walks alone
set_option linter.unusedVariables false
set_option linter.unusedSimpArgs false

/-! ### spec_HashBits: function 12 -/
mutual
def spec_HashBits.l0 : Nat → List Int → List Int → Int → List Int → Int → Int → Option (List Int × Bool)
  | 0, _, _, _, _, _, _ => none
  | k + 1, x0, x6, x7, x11, x12, x13 => if x13 < x12 then (if 0 ≤ x13 then (if x13 < (x11.length : Int) then (if (wrap64 (x7 + (rd x11 x13))) > (wrap64 (8 * (x0.length : Int))) then (some (([] : List Int), false)) else (spec_HashBits.l1 k x0 x6 x7 0 x11 x12 x13 (rd x11 x13) 0)) else (none)) else (none)) else (some (x6, true))
def spec_HashBits.l1 : Nat → List Int → List Int → Int → Int → List Int → Int → Int → Int → Int → Option (List Int × Bool)
  | 0, _, _, _, _, _, _, _, _, _ => none
  | k + 1, x0, x6, x7, x10, x11, x12, x13, x24, x25 => if x25 < x24 then (if 0 ≤ (wrap64 (Int.tdiv x7 8)) then (if (wrap64 (Int.tdiv x7 8)) < (x0.length : Int) then (if 0 ≤ (wrap64 (7 - (Int.tmod x7 8))) then (spec_HashBits.l1 k x0 x6 (wrap64 (x7 + 1)) (wrap64 ((wrap64 (2 * x10)) + (wrap64 (Go.bits .and .u8 (shr .u8 (rd x0 (wrap64 (Int.tdiv x7 8))) (wrap64 (7 - (Int.tmod x7 8)))) 1)))) x11 x12 x13 x24 (wrap64 (x25 + 1))) else (none)) else (none)) else (none)) else (if x6.length < 17592186044416 then (spec_HashBits.l0 k x0 (x6 ++ [x10]) x7 x11 x12 (wrap64 (x13 + 1))) else (none))
end
def spec_HashBits.f (k : Nat) (l0 : List Int) (l1 : List Int) : Option (List Int × Bool) := spec_HashBits.l0 k l0 ([] : List Int) 0 l1 (l1.length : Int) 0
theorem spec_HashBits.mono_l : ∀ k, (∀ y0 y1 y2 y3 y4 y5, LeO (spec_HashBits.l0 k y0 y1 y2 y3 y4 y5) (spec_HashBits.l0 (k + 1) y0 y1 y2 y3 y4 y5)) ∧ (∀ y0 y1 y2 y3 y4 y5 y6 y7 y8, LeO (spec_HashBits.l1 k y0 y1 y2 y3 y4 y5 y6 y7 y8) (spec_HashBits.l1 (k + 1) y0 y1 y2 y3 y4 y5 y6 y7 y8))
  | 0 => ⟨fun _ _ _ _ _ _ r h => by simp [spec_HashBits.l0] at h, fun _ _ _ _ _ _ _ _ _ r h => by simp [spec_HashBits.l1] at h⟩
  | k + 1 => by
    obtain ⟨ih0, ih1⟩ := spec_HashBits.mono_l k
    refine ⟨?_, ?_⟩
    · intro y0 y1 y2 y3 y4 y5
      unfold spec_HashBits.l0
      repeat' first
      | (with_reducible exact ih0 _ _ _ _ _ _)
      | (with_reducible exact ih1 _ _ _ _ _ _ _ _ _)
      | (with_reducible exact LeO.refl _)
      | (with_reducible exact LeO.none _)
      | (with_reducible refine LeO.ite ?_ ?_)
      | (with_reducible refine LeO.bind ?_ (fun _ => ?_))
      | exact ih0 _ _ _ _ _ _
      | exact ih1 _ _ _ _ _ _ _ _ _
      | exact LeO.none _
      | refine LeO.ite ?_ ?_
      | refine LeO.bind ?_ (fun _ => ?_)
    · intro y0 y1 y2 y3 y4 y5 y6 y7 y8
      unfold spec_HashBits.l1
      repeat' first
      | (with_reducible exact ih0 _ _ _ _ _ _)
      | (with_reducible exact ih1 _ _ _ _ _ _ _ _ _)
      | (with_reducible exact LeO.refl _)
      | (with_reducible exact LeO.none _)
      | (with_reducible refine LeO.ite ?_ ?_)
      | (with_reducible refine LeO.bind ?_ (fun _ => ?_))
      | exact ih0 _ _ _ _ _ _
      | exact ih1 _ _ _ _ _ _ _ _ _
      | exact LeO.none _
      | refine LeO.ite ?_ ?_
      | refine LeO.bind ?_ (fun _ => ?_)
theorem spec_HashBits.mono : ∀ a0 a1 k, LeO (spec_HashBits.f k a0 a1) (spec_HashBits.f (k + 1) a0 a1) := by
  intro a0 a1 k
  obtain ⟨ih0, ih1⟩ := spec_HashBits.mono_l k
  unfold spec_HashBits.f
  repeat' first
      | (with_reducible exact ih0 _ _ _ _ _ _)
      | (with_reducible exact ih1 _ _ _ _ _ _ _ _ _)
      | (with_reducible exact LeO.refl _)
      | (with_reducible exact LeO.none _)
      | (with_reducible refine LeO.ite ?_ ?_)
      | (with_reducible refine LeO.bind ?_ (fun _ => ?_))
      | exact ih0 _ _ _ _ _ _
      | exact ih1 _ _ _ _ _ _ _ _ _
      | exact LeO.none _
      | refine LeO.ite ?_ ?_
      | refine LeO.bind ?_ (fun _ => ?_)
set_option maxHeartbeats 8000000 in
set_option maxRecDepth 100000 in
theorem spec_HashBits.calls (k : Nat) (A0 : Option Addr) (c0 : Nat) (l0 : List Int) (A1 : Option Addr) (c1 : Nat) (l1 : List Int) (r1 : List Int) (r2 : Bool) (w : World) (hr0 : Kd.C (Kd.int .u8) w A0 l0.length l0) (hc0 : l0.length ≤ c0) (hr1 : Kd.C (Kd.int .i64) w A1 l1.length l1) (hc1 : l1.length ≤ c1) (h : spec_HashBits.f k l0 l1 = some (r1, r2)) :
    Calls Try.prog 12 #[.slice A0 l0.length c0, .slice A1 l1.length c1] w fun e w' => ∃ v0_ : Value, e = .returned (.tuple #[v0_, .bool r2]) ∧ Kd.R (Kd.int .i64) 3 w' w.heap.size (fun _ => True) v0_ r1 ∧ Below w.heap.size w w' := by
  have HR0 := Aside0.mk hr0
  have HC0 := Aside0.mk hc0
  clear hr0 hc0
  have HR1 := Aside0.mk hr1
  have HC1 := Aside0.mk hc1
  clear hr1 hc1
  have HB := Aside0.mk (Below.refl w.heap.size w)
  have H : (spec_HashBits.l0 k l0 ([] : List Int) 0 l1 (l1.length : Int) 0) = some (r1, r2) := h
  clear h
  have H' := Aside0.mk H
  clear H
  go_enter Try.func12, Try.ntmps12
  go_wp2
  go_loopg [6, 7, 13] k (fun kq v6 v7 v13 w' => ∃ (x6_1 : List Int) (x7_1 : Int) (x13_1 : Int), v7 = .int .i64 x7_1 ∧ v13 = .int .i64 x13_1 ∧ Aside0 (spec_HashBits.l0 kq l0 x6_1 x7_1 l1 (l1.length : Int) x13_1 = some (r1, r2)) ∧ Aside0 (kq ≤ k) ∧ Aside0 (Kd.R (Kd.int .i64) 3 w' w.heap.size (fun _ => True) v6 x6_1) ∧ Aside0 (Below w.heap.size w w'))
  case atStart => exact ⟨(([] : List Int)), (0), (0), (by first | rfl | (simp; done) | (simp [*]; done)), (by first | rfl | (simp; done) | (simp [*]; done)), H', ⟨Nat.le_refl _⟩, ⟨by first | exact Kd.R_nil _ _ _ _ _ | exact Kd.N_nil _ _ _ _ _ | exact Kd.V_nil _ _ _ _ _ | exact Kd.Q_nil _ _ _ _ _ | exact Kd.S_nil _ _ _ _ _⟩, ⟨by repeat (first | (with_reducible first | exact HB.out | apply below_alloc | apply pw_below_drewN | apply below_drew1) | exact HB.out)⟩⟩
  case round =>
    clear H'
    try clear c1
    try clear p2
    obtain ⟨x6_1, x7_1, x13_1, rfl, rfl, HA, HK1, HO_6, HB⟩ := hrel
    cases gk with
    | zero => exact absurd HA.out (by simp [spec_HashBits.l0])
    | succ k1 =>
      have H := HA.out
      clear HA
      simp only [spec_HashBits.l0] at H
      by_cases c3 : x13_1 < (l1.length : Int)
      · rw [if_pos c3] at H
        have c3b0 : decide (x13_1 < (l1.length : Int)) = true := decide_eq_true c3
        clear c3
        by_cases c4 : 0 ≤ x13_1
        · rw [if_pos c4] at H
          have c4b0 : decide (0 ≤ x13_1) = true := decide_eq_true c4
          clear c4
          by_cases c5 : x13_1 < (l1.length : Int)
          · rw [if_pos c5] at H
            have c5b0 : decide (x13_1 < (l1.length : Int)) = true := decide_eq_true c5
            clear c5
            by_cases c6 : (wrap64 (x7_1 + (rd l1 x13_1))) > (wrap64 (8 * (l0.length : Int)))
            · rw [if_pos c6] at H
              have c6b0 : decide ((wrap64 (8 * (l0.length : Int))) < (wrap64 (x7_1 + (rd l1 x13_1)))) = true := decide_eq_true c6
              clear c6
              simp only [Option.some.injEq, Prod.mk.injEq] at H
              obtain ⟨rfl, rfl⟩ := H
              have p142 : 0 ≤ (x13_1 : Int) := of_decide_eq_true (by first | (with_reducible assumption) | assumption)
              have q142 : x13_1 < (l1.length : Int) := of_decide_eq_true (by first | (with_reducible assumption) | assumption)
              obtain ⟨ad142, e142, hx142_0⟩ := Kd.at_int HR1.out x13_1 p142 q142
              cases e142
              replace hx142_0 := (HB.out.cell (World.block_lt_of_cell? w _ hx142_0)).trans hx142_0
              replace p142 := eq_true p142
              replace q142 := eq_true q142
              go_wp2
              go_ret2
              exact ⟨_, by first | rfl | (simp [errV_none, errV_some] <;> rfl) | (simp [*, errV_none, errV_some] <;> rfl), by first | exact Kd.R_nil _ _ _ _ _ | exact Kd.N_nil _ _ _ _ _ | exact Kd.V_nil _ _ _ _ _ | exact Kd.Q_nil _ _ _ _ _ | exact Kd.S_nil _ _ _ _ _, by repeat (first | (with_reducible first | exact HB.out | apply below_alloc | apply pw_below_drewN | apply below_drew1) | exact HB.out)⟩
            · rw [if_neg c6] at H
              have c6b0 : decide ((wrap64 (8 * (l0.length : Int))) < (wrap64 (x7_1 + (rd l1 x13_1)))) = false := decide_eq_false c6
              clear c6
              have H' := Aside0.mk H
              clear H
              have p142 : 0 ≤ (x13_1 : Int) := of_decide_eq_true (by first | (with_reducible assumption) | assumption)
              have q142 : x13_1 < (l1.length : Int) := of_decide_eq_true (by first | (with_reducible assumption) | assumption)
              obtain ⟨ad142, e142, hx142_0⟩ := Kd.at_int HR1.out x13_1 p142 q142
              cases e142
              replace hx142_0 := (HB.out.cell (World.block_lt_of_cell? w _ hx142_0)).trans hx142_0
              replace p142 := eq_true p142
              replace q142 := eq_true q142
              go_wp2
              go_loopg [7, 10, 25] k1 (fun kq v7 v10 v25 w' => ∃ (x7_2 : Int) (x10_2 : Int) (x25_2 : Int), v7 = .int .i64 x7_2 ∧ v10 = .int .i64 x10_2 ∧ v25 = .int .i64 x25_2 ∧ Aside0 (spec_HashBits.l1 kq l0 x6_1 x7_2 x10_2 l1 (l1.length : Int) x13_1 (rd l1 x13_1) x25_2 = some (r1, r2)) ∧ Aside0 (kq ≤ k1) ∧ Aside0 (Kd.R (Kd.int .i64) 3 w' w.heap.size (fun _ => True) u6 x6_1) ∧ Aside0 (Below w.heap.size w w'))
              case atStart => exact ⟨(x7_1), (0), (0), (by first | rfl | (simp; done) | (simp [*]; done)), (by first | rfl | (simp; done) | (simp [*]; done)), (by first | rfl | (simp; done) | (simp [*]; done)), H', ⟨Nat.le_refl _⟩, ⟨by (with_reducible repeat (first | apply Kd.R_alloc | apply Kd.R_drewN | apply Kd.R_drew)); exact HO_6.out⟩, ⟨by repeat (first | (with_reducible first | exact HB.out | apply below_alloc | apply pw_below_drewN | apply below_drew1) | exact HB.out)⟩⟩
              case round =>
                clear H'
                try clear c1
                try clear p1
                try clear q1
                try clear hx1
                try clear p2
                try clear c3
                try clear c3b0
                try clear c4
                try clear c4b0
                try clear c5
                try clear c5b0
                try clear c6
                try clear c6b0
                try clear p6
                try clear hx142_0
                try clear p142
                try clear p2
                try clear q142
                obtain ⟨x7_2, x10_2, x25_2, rfl, rfl, rfl, HA, HK2, HO_6, HB⟩ := hrel
                cases gk with
                | zero => exact absurd HA.out (by simp [spec_HashBits.l1])
                | succ k2 =>
                  have H := HA.out
                  clear HA
                  simp only [spec_HashBits.l1] at H
                  by_cases c7 : x25_2 < (rd l1 x13_1)
                  · rw [if_pos c7] at H
                    have c7b0 : decide (x25_2 < (rd l1 x13_1)) = true := decide_eq_true c7
                    clear c7
                    obtain ⟨ji8, hji8⟩ : ∃ j_ : Int, (wrap64 (Int.tdiv x7_2 8)) = j_ := ⟨_, rfl⟩
                    replace H : (if 0 ≤ (ji8) then (if (ji8) < (l0.length : Int) then (if 0 ≤ (wrap64 (7 - (Int.tmod x7_2 8))) then (spec_HashBits.l1 k2 l0 x6_1 (wrap64 (x7_2 + 1)) (wrap64 ((wrap64 (2 * x10_2)) + (wrap64 (Go.bits .and .u8 (shr .u8 (rd l0 (ji8)) (wrap64 (7 - (Int.tmod x7_2 8)))) 1)))) l1 (l1.length : Int) x13_1 (rd l1 x13_1) (wrap64 (x25_2 + 1))) else (none)) else (none)) else (none)) = some (r1, r2) := by first | (rw [hji8] at H; exact H) | (simp only [hji8] at H ⊢; exact H)
                    have hji8w : (IntKind.i64.wrap (Int.tdiv x7_2 8)) = ji8 := (i64_w _).trans hji8
                    by_cases c9 : 0 ≤ (ji8)
                    · rw [if_pos c9] at H
                      have c9b0 : decide (0 ≤ (ji8)) = true := decide_eq_true c9
                      clear c9
                      by_cases c10 : (ji8) < (l0.length : Int)
                      · rw [if_pos c10] at H
                        have c10b0 : decide ((ji8) < (l0.length : Int)) = true := decide_eq_true c10
                        clear c10
                        obtain ⟨ji11, hji11⟩ : ∃ j_ : Int, (wrap64 (7 - (Int.tmod x7_2 8))) = j_ := ⟨_, rfl⟩
                        replace H : (if 0 ≤ (ji11) then (spec_HashBits.l1 k2 l0 x6_1 (wrap64 (x7_2 + 1)) (wrap64 ((wrap64 (2 * x10_2)) + (wrap64 (Go.bits .and .u8 (shr .u8 (rd l0 (ji8)) (ji11)) 1)))) l1 (l1.length : Int) x13_1 (rd l1 x13_1) (wrap64 (x25_2 + 1))) else (none)) = some (r1, r2) := by first | (rw [hji11] at H; exact H) | (simp only [hji11] at H ⊢; exact H)
                        have hji11w : (IntKind.i64.wrap (7 - (Int.tmod x7_2 8))) = ji11 := (i64_w _).trans hji11
                        by_cases c12 : 0 ≤ (ji11)
                        · rw [if_pos c12] at H
                          have c12b0 := eq_true c12
                          have c12b1 : decide (0 ≤ (ji11)) = true := decide_eq_true c12
                          clear c12
                          obtain ⟨ji13, hji13⟩ : ∃ j_ : Int, (shr .u8 (rd l0 (ji8)) (ji11)) = j_ := ⟨_, rfl⟩
                          replace H : (spec_HashBits.l1 k2 l0 x6_1 (wrap64 (x7_2 + 1)) (wrap64 ((wrap64 (2 * x10_2)) + (wrap64 (Go.bits .and .u8 (ji13) 1)))) l1 (l1.length : Int) x13_1 (rd l1 x13_1) (wrap64 (x25_2 + 1))) = some (r1, r2) := by first | (rw [hji13] at H; exact H) | (simp only [hji13] at H ⊢; exact H)
                          have hji13_ : ((rd l0 (ji8)) / 2 ^ min (ji11).toNat 8) = ji13 := hji13
                          have hji13z : (ji11) ≤ 8 → ((rd l0 (ji8)) / 2 ^ (ji11).toNat) = ji13 := shr_small hji13
                          have H' := Aside0.mk H
                          clear H
                          have p143 : 0 ≤ ((ji8) : Int) := of_decide_eq_true (by first | (with_reducible assumption) | assumption)
                          have q143 : (ji8) < (l0.length : Int) := of_decide_eq_true (by first | (with_reducible assumption) | assumption)
                          obtain ⟨ad143, e143, hx143_0⟩ := Kd.at_int HR0.out (ji8) p143 q143
                          cases e143
                          replace hx143_0 := (HB.out.cell (World.block_lt_of_cell? w _ hx143_0)).trans hx143_0
                          replace p143 := eq_true p143
                          replace q143 := eq_true q143
                          go_wp2
                          go_roundg k2
                          case measure => have := HK1.out; have := HK2.out; omega
                          case rel => exact ⟨(wrap64 (x7_2 + 1)), (wrap64 ((wrap64 (2 * x10_2)) + (wrap64 (Go.bits .and .u8 (ji13) 1)))), (wrap64 (x25_2 + 1)), (by first | rfl | (simp; done) | (simp [*]; done)), (by first | rfl | (simp; done) | (simp only [← hji13] <;> (first | rfl | simp)) | (simp [*]; done)), (by first | rfl | (simp; done) | (simp [*]; done)), H', ⟨by have := HK1.out; have := HK2.out; omega⟩, ⟨by (with_reducible repeat (first | apply Kd.R_alloc | apply Kd.R_drewN | apply Kd.R_drew)); exact HO_6.out⟩, ⟨by repeat (first | (with_reducible first | exact HB.out | apply below_alloc | apply pw_below_drewN | apply below_drew1) | exact HB.out)⟩⟩
                        · rw [if_neg c12] at H
                          exact absurd H (by simp)
                      · rw [if_neg c10] at H
                        exact absurd H (by simp)
                    · rw [if_neg c9] at H
                      exact absurd H (by simp)
                  · rw [if_neg c7] at H
                    have c7b0 : decide (x25_2 < (rd l1 x13_1)) = false := decide_eq_false c7
                    clear c7
                    by_cases c14 : x6_1.length < 17592186044416
                    · rw [if_pos c14] at H
                      have LMc14 := Aside0.mk c14
                      clear c14
                      obtain ⟨y144, hy144⟩ : ∃ y_ : List Int, y_ = (x6_1 ++ [x10_2]) := ⟨_, rfl⟩
                      replace H : (spec_HashBits.l0 k2 l0 y144 x7_2 l1 (l1.length : Int) (wrap64 (x13_1 + 1))) = some (r1, r2) := by first | (rw [hy144]; with_reducible exact H) | (have H2_ := (Option.bind_some _ _).symm.trans H; rw [hy144]; with_reducible exact H2_) | (have H2_ := (Option.bind_some _ _).symm.trans H; with_reducible exact H2_) | with_reducible exact H | (rw [hy144]; exact H) | exact H
                      have Ny144 := Aside0.mk hy144
                      clear hy144
                      have H' := Aside0.mk H
                      clear H
                      go_wp2_with (first | ((with_reducible refine gate_builtin (b := .append) (xs := #[.tmp 44, .tmp 46]) rfl ?_); at_builtin; refine Kd.R_append (Kd.int .i64) (w0 := w) w.heap.size rfl (.tmp 44) (.tmp 46) 24 3 (.int .i64 0) 8 rfl Try.underlying24 info3 rfl (by decide) (by omega) u6 x6_1 x10_2 [.int .i64 x10_2] (fun _ => True) (fun _ => False) rfl rfl ?aP (fun _ hk => hk.elim) ?aF ?aO ?aB ?aS ?aL ?_; (case aP => exact rfl); (case aB => exact (by repeat (first | (with_reducible first | exact HB.out | apply below_alloc | apply pw_below_drewN | apply below_drew1) | exact HB.out))); (case aF => exact (fun _ _ => trivial)); (case aO => exact (by (with_reducible repeat (first | apply Kd.R_alloc | apply Kd.R_drewN | apply Kd.R_drew)); exact HO_6.out)); (case aS => exact (below_size (by repeat (first | (with_reducible first | exact HB.out | apply below_alloc | apply pw_below_drewN | apply below_drew1) | exact HB.out)))); (case aL => have := LMc14.out; omega); intro v145 w15 ho hb hg hat; rw [← Ny144.out] at ho; have n0_ := Aside0.mk (hb); have n1_ := Aside0.mk (ho); clear HB; clear HO_6; have HB := n0_; have HO146 := n1_; clear n0_ n1_; clear ho hb hg hat))
                      go_roundg k2
                      case measure => have := HK1.out; have := HK2.out; omega
                      case rel => exact ⟨(y144), (x7_2), (wrap64 (x13_1 + 1)), (by first | rfl | (simp; done) | (simp [*]; done)), (by first | rfl | (simp; done) | (simp [*]; done)), H', ⟨by have := HK1.out; have := HK2.out; omega⟩, ⟨by (with_reducible repeat (first | apply Kd.R_alloc | apply Kd.R_drewN | apply Kd.R_drew)); exact HO146.out⟩, ⟨by repeat (first | (with_reducible first | exact HB.out | apply below_alloc | apply pw_below_drewN | apply below_drew1) | exact HB.out)⟩⟩
                    · rw [if_neg c14] at H
                      exact absurd H (by simp)
          · rw [if_neg c5] at H
            exact absurd H (by simp)
        · rw [if_neg c4] at H
          exact absurd H (by simp)
      · rw [if_neg c3] at H
        have c3b0 : decide (x13_1 < (l1.length : Int)) = false := decide_eq_false c3
        clear c3
        simp only [Option.some.injEq, Prod.mk.injEq] at H
        obtain ⟨rfl, rfl⟩ := H
        go_wp2
        go_ret2
        exact ⟨_, by first | rfl | (simp [errV_none, errV_some] <;> rfl) | (simp [*, errV_none, errV_some] <;> rfl), by (with_reducible repeat (first | apply Kd.R_alloc | apply Kd.R_drewN | apply Kd.R_drew)); exact HO_6.out, by repeat (first | (with_reducible first | exact HB.out | apply below_alloc | apply pw_below_drewN | apply below_drew1) | exact HB.out)⟩

end Go.Proofs.Ytbmeegkgcipmoaa.PFnHashBits
