/- Printed by a program of this session (it drives the print of the kit, with contracts proved by hand beside): the Go functions of one law as Lean functions, and that the Go code comes to what they say. -/
import Derived.Test.YtbmeegkgcipmoaaDoorPFnBitsSetx0
import Derived.Test.YtbmeegkgcipmoaaDoorPFnBitsSetx1
import Derived.Test.YtbmeegkgcipmoaaDoorPFnBitsSetx2
namespace Go.Proofs.YtbmeegkgcipmoaaDoor.PFnBitsSet
open Go.RowKit Go.Proofs.YtbmeegkgcipmoaaDoorL Go.Proofs.YtbmeegkgcipmoaaDoorW.PrintWords Go.Proofs.YtbmeegkgcipmoaaDoorW.PrintLast Go.Proofs.YtbmeegkgcipmoaaDoorW.PrintMore
attribute [local go_sem] max2_int min2_int max_two min_two max_three min_three max_four min_four   -- for this text's walks alone
set_option linter.unusedVariables false
set_option linter.unusedSimpArgs false

/-! ### impl_BitsSet: function 6 -/
mutual
def impl_BitsSet.l0 : Nat → Int → List Int → List Int → Int → Int → Option (List Int × Bool)
  | 0, _, _, _, _, _ => none
  | k + 1, x0, x6, x17, x18, x19 => if x19 < x18 then (if 0 ≤ x19 then (if x19 < (x17.length : Int) then (if (rd x17 x19) ≥ x0 then (impl_BitsSet.j1 k x0 x6 (rd x17 x19) x17 x18 x19 true) else (impl_BitsSet.j1 k x0 x6 (rd x17 x19) x17 x18 x19 (decide ((rd x17 x19) < (wrap64 (-x0)))))) else (none)) else (none)) else ((gobitfield_Bitfield_Bytes.f k x6).bind fun t123 => ((bytes_Clone.f t123).bind fun t126 => (some (t126, true))))
def impl_BitsSet.j1 : Nat → Int → List Int → Int → List Int → Int → Int → Bool → Option (List Int × Bool)
  | 0, _, _, _, _, _, _, _ => none
  | k + 1, x0, x6, x9, x17, x18, x19, x27 => if x27 = true then (some (([] : List Int), false)) else (if x9 ≥ 0 then ((gobitfield_Bitfield_SetBit.f x6 x9).bind fun t130 => (impl_BitsSet.l0 k x0 t130 x17 x18 (wrap64 (x19 + 1)))) else ((gobitfield_Bitfield_UnsetBit.f x6 (wrap64 ((-1) - x9))).bind fun t131 => (impl_BitsSet.l0 k x0 t131 x17 x18 (wrap64 (x19 + 1)))))
end
def impl_BitsSet.f (k : Nat) (a0 : Int) (l1 : List Int) : Option (List Int × Bool) := (gobitfield_NewBitfield.f a0).bind fun bt118 => (if bt118.2.isNone = true then (impl_BitsSet.l0 k a0 bt118.1 l1 (l1.length : Int) 0) else (some (([] : List Int), false)))
theorem impl_BitsSet.mono_l : ∀ k, (∀ y0 y1 y2 y3 y4, LeO (impl_BitsSet.l0 k y0 y1 y2 y3 y4) (impl_BitsSet.l0 (k + 1) y0 y1 y2 y3 y4)) ∧ (∀ y0 y1 y2 y3 y4 y5 y6, LeO (impl_BitsSet.j1 k y0 y1 y2 y3 y4 y5 y6) (impl_BitsSet.j1 (k + 1) y0 y1 y2 y3 y4 y5 y6))
  | 0 => ⟨fun _ _ _ _ _ r h => by simp [impl_BitsSet.l0] at h, fun _ _ _ _ _ _ _ r h => by simp [impl_BitsSet.j1] at h⟩
  | k + 1 => by
    obtain ⟨ih0, ih1⟩ := impl_BitsSet.mono_l k
    refine ⟨?_, ?_⟩
    · intro y0 y1 y2 y3 y4
      unfold impl_BitsSet.l0
      repeat' first
      | (with_reducible exact ih0 _ _ _ _ _)
      | (with_reducible exact ih1 _ _ _ _ _ _ _)
      | (with_reducible exact gobitfield_Bitfield_Bytes.mono _ _)
      | (with_reducible exact LeO.refl _)
      | (with_reducible exact LeO.none _)
      | (with_reducible refine LeO.ite ?_ ?_)
      | (with_reducible refine LeO.bind ?_ (fun _ => ?_))
      | exact ih0 _ _ _ _ _
      | exact ih1 _ _ _ _ _ _ _
      | exact gobitfield_Bitfield_Bytes.mono _ _
      | exact LeO.none _
      | refine LeO.ite ?_ ?_
      | refine LeO.bind ?_ (fun _ => ?_)
    · intro y0 y1 y2 y3 y4 y5 y6
      unfold impl_BitsSet.j1
      repeat' first
      | (with_reducible exact ih0 _ _ _ _ _)
      | (with_reducible exact ih1 _ _ _ _ _ _ _)
      | (with_reducible exact gobitfield_Bitfield_Bytes.mono _ _)
      | (with_reducible exact LeO.refl _)
      | (with_reducible exact LeO.none _)
      | (with_reducible refine LeO.ite ?_ ?_)
      | (with_reducible refine LeO.bind ?_ (fun _ => ?_))
      | exact ih0 _ _ _ _ _
      | exact ih1 _ _ _ _ _ _ _
      | exact gobitfield_Bitfield_Bytes.mono _ _
      | exact LeO.none _
      | refine LeO.ite ?_ ?_
      | refine LeO.bind ?_ (fun _ => ?_)
theorem impl_BitsSet.mono : ∀ a0 a1 k, LeO (impl_BitsSet.f k a0 a1) (impl_BitsSet.f (k + 1) a0 a1) := by
  intro a0 a1 k
  obtain ⟨ih0, ih1⟩ := impl_BitsSet.mono_l k
  unfold impl_BitsSet.f
  repeat' first
      | (with_reducible exact ih0 _ _ _ _ _)
      | (with_reducible exact ih1 _ _ _ _ _ _ _)
      | (with_reducible exact gobitfield_Bitfield_Bytes.mono _ _)
      | (with_reducible exact LeO.refl _)
      | (with_reducible exact LeO.none _)
      | (with_reducible refine LeO.ite ?_ ?_)
      | (with_reducible refine LeO.bind ?_ (fun _ => ?_))
      | exact ih0 _ _ _ _ _
      | exact ih1 _ _ _ _ _ _ _
      | exact gobitfield_Bitfield_Bytes.mono _ _
      | exact LeO.none _
      | refine LeO.ite ?_ ?_
      | refine LeO.bind ?_ (fun _ => ?_)
set_option maxHeartbeats 8000000 in
set_option maxRecDepth 100000 in
theorem impl_BitsSet.calls (k : Nat) (a0 : Int) (A1 : Option Addr) (c1 : Nat) (l1 : List Int) (r1 : List Int) (r2 : Bool) (w : World) (hr1 : Kd.C (Kd.int .i64) w A1 l1.length l1) (hc1 : l1.length ≤ c1) (h : impl_BitsSet.f k a0 l1 = some (r1, r2)) :
    Calls Tryd.prog 6 #[.int .i64 a0, .slice A1 l1.length c1] w fun e w' => ∃ v0_ : Value, e = .returned (.tuple #[v0_, .bool r2]) ∧ Kd.R (Kd.int .u8) 5 w' w.heap.size (fun _ => True) v0_ r1 ∧ Below w.heap.size w w' := by
  have hu38 := Tryd.underlying38
  have HR1 := Aside0.mk hr1
  have HC1 := Aside0.mk hc1
  clear hr1 hc1
  have HB := Aside0.mk (Below.refl w.heap.size w)
  have H : ((gobitfield_NewBitfield.f a0).bind fun bt118 => (if bt118.2.isNone = true then (impl_BitsSet.l0 k a0 bt118.1 l1 (l1.length : Int) 0) else (some (([] : List Int), false)))) = some (r1, r2) := h
  clear h
  replace H := Option.bind_eq_some_iff.mp H
  obtain ⟨⟨t118, t119⟩, A30, H⟩ := H
  replace H : (if t119.isNone = true then (impl_BitsSet.l0 k a0 t118 l1 (l1.length : Int) 0) else (some (([] : List Int), false))) = some (r1, r2) := H
  have A3 := Aside0.mk A30
  clear A30
  rcases t119 with _ | q122
  · have H1 : (impl_BitsSet.l0 k a0 t118 l1 (l1.length : Int) 0) = some (r1, r2) := by rw [if_pos (show (none : Option Int).isNone = true by rfl)] at H; exact H
    clear H
    have H := H1
    clear H1
    try simp only [errV_none, errV_some]
    have H' := Aside0.mk H
    clear H
    go_enter Tryd.func6, Tryd.ntmps6
    go_wp2_with (first | ((with_reducible refine gate_callee (f := 13) rfl ?_); refine goesL_ (some 12) rfl rfl Tryd.func13 (by kernel_rfl) rfl #[.int .i64 a0] rfl (by (try simp only [List.map_toArray, List.map_cons, List.map_nil]); first | done | rfl | (simp only [List.length_drop, List.length_take]; rfl)) ?_; (with_reducible refine (gobitfield_NewBitfield.calls a0 t118 none _ A3.out).mono ?_); rintro e w4 ⟨v120, eT_t119, eX_t119, rfl, ho0, hb⟩; refine ⟨_, rfl, ?_⟩; have n0_ := Aside0.mk (Kd.R_lower ho0 (below_size (by repeat (first | (with_reducible first | exact HB.out | apply below_alloc | apply pw_below_drewN | apply below_drew1) | exact HB.out)))); have n1_ := Aside0.mk (below_step (by repeat (first | (with_reducible first | exact HB.out | apply below_alloc | apply pw_below_drewN | apply below_drew1) | exact HB.out)) hb); clear HB; have HO121 := n0_; have HB := n1_; clear n0_ n1_; (try clear hb); (try clear hb2); (try clear hk); (try clear hi); (try clear ho0); (try simp only [errV_none, errV_some])))
    go_loopg [19] k (fun kq v19 w' => ∃ (x6_1 : List Int) (x19_1 : Int), v19 = .int .i64 x19_1 ∧ Aside0 (impl_BitsSet.l0 kq a0 x6_1 l1 (l1.length : Int) x19_1 = some (r1, r2)) ∧ Aside0 (kq ≤ k) ∧ Aside0 (Kd.R (Kd.int .u8) 5 w' w.heap.size (fun _ => True) v120 x6_1) ∧ Aside0 (Below w.heap.size w w'))
    case atStart => exact ⟨(t118), (0), (by first | rfl | (simp; done) | (simp [*]; done)), H', ⟨Nat.le_refl _⟩, ⟨by (with_reducible repeat (first | apply Kd.R_alloc | apply Kd.R_drewN | apply Kd.R_drew)); exact HO121.out⟩, ⟨by repeat (first | (with_reducible first | exact HB.out | apply below_alloc | apply pw_below_drewN | apply below_drew1) | exact HB.out)⟩⟩
    case round =>
      clear H'
      try clear c1
      try clear q1
      try clear p2
      try clear q122
      obtain ⟨x6_1, x19_1, rfl, HA, HK1, HO_6, HB⟩ := hrel
      cases gk with
      | zero => exact absurd HA.out (by simp [impl_BitsSet.l0])
      | succ k1 =>
        have H := HA.out
        clear HA
        simp only [impl_BitsSet.l0] at H
        by_cases c5 : x19_1 < (l1.length : Int)
        · rw [if_pos c5] at H
          have c5b0 : decide (x19_1 < (l1.length : Int)) = true := decide_eq_true c5
          clear c5
          by_cases c6 : 0 ≤ x19_1
          · rw [if_pos c6] at H
            have c6b0 : decide (0 ≤ x19_1) = true := decide_eq_true c6
            clear c6
            by_cases c7 : x19_1 < (l1.length : Int)
            · rw [if_pos c7] at H
              have c7b0 : decide (x19_1 < (l1.length : Int)) = true := decide_eq_true c7
              clear c7
              have HC8 := Aside0.mk H
              clear H
              have p129 : 0 ≤ (x19_1 : Int) := of_decide_eq_true (by first | (with_reducible assumption) | assumption)
              have q129 : x19_1 < (l1.length : Int) := of_decide_eq_true (by first | (with_reducible assumption) | assumption)
              obtain ⟨ad129, e129, hx129_0⟩ := Kd.at_int HR1.out x19_1 p129 q129
              cases e129
              replace hx129_0 := (HB.out.cell (World.block_lt_of_cell? w _ hx129_0)).trans hx129_0
              replace p129 := eq_true p129
              replace q129 := eq_true q129
              go_upto_region 8 with (fail)
              go_cut [27] (fun v27 wc => ∃ (kq : Nat) (x27_7 : Bool), v27 = .bool x27_7 ∧ Aside0 (impl_BitsSet.j1 kq a0 x6_1 (rd l1 x19_1) l1 (l1.length : Int) x19_1 x27_7 = some (r1, r2)) ∧ Aside0 (kq ≤ k1) ∧ Aside0 (Kd.R (Kd.int .u8) 5 wc w.heap.size (fun _ => True) v120 x6_1) ∧ Aside0 (Below w.heap.size w wc))
              case first =>
                have H := HC8.out
                clear HC8
                by_cases c9 : (rd l1 x19_1) ≥ a0
                · rw [if_pos c9] at H
                  have c9b0 : decide (a0 ≤ (rd l1 x19_1)) = true := decide_eq_true c9
                  clear c9
                  (first | rw [c9b0] | (simp only [i64_w, i32_w]; rw [c9b0]) | skip)
                  have H' := Aside0.mk H
                  clear H
                  go_wp2
                  go_meet
                  case rel => exact ⟨_, (true), (by first | rfl | (simp; done) | (simp [*]; done)), H', ⟨by have := HK1.out; first | omega | exact Nat.le_refl _⟩, ⟨by (with_reducible repeat (first | apply Kd.R_alloc | apply Kd.R_drewN | apply Kd.R_drew)); exact HO_6.out⟩, ⟨by repeat (first | (with_reducible first | exact HB.out | apply below_alloc | apply pw_below_drewN | apply below_drew1) | exact HB.out)⟩⟩
                · rw [if_neg c9] at H
                  have c9b0 : decide (a0 ≤ (rd l1 x19_1)) = false := decide_eq_false c9
                  clear c9
                  (first | rw [c9b0] | (simp only [i64_w, i32_w]; rw [c9b0]) | skip)
                  have H' := Aside0.mk H
                  clear H
                  go_wp2
                  go_meet
                  case rel => exact ⟨_, (decide ((rd l1 x19_1) < (wrap64 (-a0)))), (by first | rfl | (simp; done) | (simp [*]; done)), H', ⟨by have := HK1.out; first | omega | exact Nat.le_refl _⟩, ⟨by (with_reducible repeat (first | apply Kd.R_alloc | apply Kd.R_drewN | apply Kd.R_drew)); exact HO_6.out⟩, ⟨by repeat (first | (with_reducible first | exact HB.out | apply below_alloc | apply pw_below_drewN | apply below_drew1) | exact HB.out)⟩⟩
              case rest =>
                clear HC8
                try clear c1
                try clear p1
                try clear q1
                try clear hx1
                try clear p2
                try clear c5
                try clear c5b0
                try clear c6
                try clear c6b0
                try clear p6
                try clear c7
                try clear c7b0
                try clear c9
                try clear c9b0
                try clear hx129_0
                try clear p129
                try clear p2
                try clear q1
                try clear q122
                try clear q129
                obtain ⟨kq, x27_7, rfl, HA, HJ7, HO_6, HB⟩ := hcut
                cases kq with
                | zero => exact absurd HA.out (by simp [impl_BitsSet.j1])
                | succ kj7 =>
                  have H := HA.out
                  clear HA
                  simp only [impl_BitsSet.j1] at H
                  by_cases c10 : x27_7 = true
                  · subst c10
                    have H1 : (some (([] : List Int), false)) = some (r1, r2) := by rw [if_pos rfl] at H; exact H
                    clear H
                    have H := H1
                    clear H1
                    simp only [Option.some.injEq, Prod.mk.injEq] at H
                    obtain ⟨rfl, rfl⟩ := H
                    go_wp2
                    go_ret2
                    exact ⟨_, by first | rfl | (simp [errV_none, errV_some] <;> rfl) | (simp [*, errV_none, errV_some] <;> rfl), by first | exact Kd.R_nil _ _ _ _ _ | exact Kd.N_nil _ _ _ _ _ | exact Kd.V_nil _ _ _ _ _ | exact Kd.Q_nil _ _ _ _ _ | exact Kd.S_nil _ _ _ _ _, by repeat (first | (with_reducible first | exact HB.out | apply below_alloc | apply pw_below_drewN | apply below_drew1) | exact HB.out)⟩
                  · replace c10 := Bool.eq_false_iff.mpr c10
                    subst c10
                    have H1 : (if (rd l1 x19_1) ≥ 0 then ((gobitfield_Bitfield_SetBit.f x6_1 (rd l1 x19_1)).bind fun t130 => (impl_BitsSet.l0 kj7 a0 t130 l1 (l1.length : Int) (wrap64 (x19_1 + 1)))) else ((gobitfield_Bitfield_UnsetBit.f x6_1 (wrap64 ((-1) - (rd l1 x19_1)))).bind fun t131 => (impl_BitsSet.l0 kj7 a0 t131 l1 (l1.length : Int) (wrap64 (x19_1 + 1))))) = some (r1, r2) := by rw [if_neg (show ¬ (false = true) by decide)] at H; exact H
                    clear H
                    have H := H1
                    clear H1
                    by_cases c11 : (rd l1 x19_1) ≥ 0
                    · rw [if_pos c11] at H
                      have c11b0 : decide (0 ≤ (rd l1 x19_1)) = true := decide_eq_true c11
                      clear c11
                      replace H := Option.bind_eq_some_iff.mp H
                      obtain ⟨t130, A120, H⟩ := H
                      replace H : (impl_BitsSet.l0 kj7 a0 t130 l1 (l1.length : Int) (wrap64 (x19_1 + 1))) = some (r1, r2) := H
                      have A12 := Aside0.mk A120
                      clear A120
                      have H' := Aside0.mk H
                      clear H
                      obtain ⟨Ao13, co13, eo13⟩ := Kd.R_slice HO_6.out
                      subst eo13
                      go_wp2_with (first | ((with_reducible refine gate_callee (f := 14) rfl ?_); refine goesL_ (some 42) rfl rfl Tryd.func14 (by kernel_rfl) rfl #[.slice Ao13 x6_1.length co13, .int .i64 (rd l1 x19_1)] rfl (by (try simp only [List.map_toArray, List.map_cons, List.map_nil]); first | done | rfl | (simp only [List.length_drop, List.length_take]; rfl)) ?_; (with_reducible refine (gobitfield_Bitfield_SetBit.calls (fun k_ => some k_ = (.slice Ao13 x6_1.length co13 : Value).ownBlock) (.slice Ao13 x6_1.length co13) x6_1 (rd l1 x19_1) t130 w _ ?side1 ?side2 A12.out).mono ?_); (case side1 => repeat (first | (with_reducible first | exact HB.out | apply below_alloc | apply pw_below_drewN | apply below_drew1) | exact HB.out)); (case side2 => exact Kd.R_tight rfl HO_6.out); rintro e w14 ⟨rfl, hy0, hb, hkp⟩; refine ⟨_, rfl, ?_⟩; have n0_ := Aside0.mk (Kd.R_reok rfl hy0 (fun k_ e_ => HO_6.out.1 k_ e_)); have n1_ := Aside0.mk (hb); clear HO_6; clear HB; have HO_6 := n0_; have HB := n1_; clear n0_ n1_; (try clear hb); (try clear hkp); (try clear hy0)))
                      go_roundg kj7
                      case measure => have := HK1.out; have := HJ7.out; omega
                      case rel => exact ⟨(t130), (wrap64 (x19_1 + 1)), (by first | rfl | (simp; done) | (simp [*]; done)), H', ⟨by have := HK1.out; have := HJ7.out; omega⟩, ⟨by (with_reducible repeat (first | apply Kd.R_alloc | apply Kd.R_drewN | apply Kd.R_drew)); exact HO_6.out⟩, ⟨by repeat (first | (with_reducible first | exact HB.out | apply below_alloc | apply pw_below_drewN | apply below_drew1) | exact HB.out)⟩⟩
                    · rw [if_neg c11] at H
                      have c11b0 : decide (0 ≤ (rd l1 x19_1)) = false := decide_eq_false c11
                      clear c11
                      replace H := Option.bind_eq_some_iff.mp H
                      obtain ⟨t131, A150, H⟩ := H
                      replace H : (impl_BitsSet.l0 kj7 a0 t131 l1 (l1.length : Int) (wrap64 (x19_1 + 1))) = some (r1, r2) := H
                      have A15 := Aside0.mk A150
                      clear A150
                      have H' := Aside0.mk H
                      clear H
                      obtain ⟨Ao16, co16, eo16⟩ := Kd.R_slice HO_6.out
                      subst eo16
                      go_wp2_with (first | ((with_reducible refine gate_callee (f := 15) rfl ?_); refine goesL_ (some 26) rfl rfl Tryd.func15 (by kernel_rfl) rfl #[.slice Ao16 x6_1.length co16, .int .i64 (wrap64 ((-1) - (rd l1 x19_1)))] rfl (by (try simp only [List.map_toArray, List.map_cons, List.map_nil]); first | done | rfl | (simp only [List.length_drop, List.length_take]; rfl)) ?_; (with_reducible refine (gobitfield_Bitfield_UnsetBit.calls (fun k_ => some k_ = (.slice Ao16 x6_1.length co16 : Value).ownBlock) (.slice Ao16 x6_1.length co16) x6_1 (wrap64 ((-1) - (rd l1 x19_1))) t131 w _ ?side1 ?side2 A15.out).mono ?_); (case side1 => repeat (first | (with_reducible first | exact HB.out | apply below_alloc | apply pw_below_drewN | apply below_drew1) | exact HB.out)); (case side2 => exact Kd.R_tight rfl HO_6.out); rintro e w17 ⟨rfl, hy0, hb, hkp⟩; refine ⟨_, rfl, ?_⟩; have n0_ := Aside0.mk (Kd.R_reok rfl hy0 (fun k_ e_ => HO_6.out.1 k_ e_)); have n1_ := Aside0.mk (hb); clear HO_6; clear HB; have HO_6 := n0_; have HB := n1_; clear n0_ n1_; (try clear hb); (try clear hkp); (try clear hy0)))
                      go_roundg kj7
                      case measure => have := HK1.out; have := HJ7.out; omega
                      case rel => exact ⟨(t131), (wrap64 (x19_1 + 1)), (by first | rfl | (simp; done) | (simp [*]; done)), H', ⟨by have := HK1.out; have := HJ7.out; omega⟩, ⟨by (with_reducible repeat (first | apply Kd.R_alloc | apply Kd.R_drewN | apply Kd.R_drew)); exact HO_6.out⟩, ⟨by repeat (first | (with_reducible first | exact HB.out | apply below_alloc | apply pw_below_drewN | apply below_drew1) | exact HB.out)⟩⟩
            · rw [if_neg c7] at H
              exact absurd H (by simp)
          · rw [if_neg c6] at H
            exact absurd H (by simp)
        · rw [if_neg c5] at H
          have c5b0 : decide (x19_1 < (l1.length : Int)) = false := decide_eq_false c5
          clear c5
          replace H := Option.bind_eq_some_iff.mp H
          obtain ⟨t123, A180, H⟩ := H
          replace H : ((bytes_Clone.f t123).bind fun t126 => (some (t126, true))) = some (r1, r2) := H
          have A18 := Aside0.mk A180
          clear A180
          replace H := Option.bind_eq_some_iff.mp H
          obtain ⟨t126, A190, H⟩ := H
          replace H : (some (t126, true)) = some (r1, r2) := H
          have A19 := Aside0.mk A190
          clear A190
          simp only [Option.some.injEq, Prod.mk.injEq] at H
          obtain ⟨rfl, rfl⟩ := H
          obtain ⟨Ao20, co20, eo20⟩ := Kd.R_slice HO_6.out
          subst eo20
          go_wp2_with (first | ((with_reducible refine gate_callee (f := 17) rfl ?_); refine goesL_ (some 45) rfl rfl Tryd.func17 (by kernel_rfl) rfl #[.slice Ao20 x6_1.length co20] rfl (by (try simp only [List.map_toArray, List.map_cons, List.map_nil]); first | done | rfl | (simp only [List.length_drop, List.length_take]; rfl)) ?_; (with_reducible refine (gobitfield_Bitfield_Bytes.calls k1 (fun k_ => some k_ = (.slice Ao20 x6_1.length co20 : Value).ownBlock) (.slice Ao20 x6_1.length co20) x6_1 t123 w _ ?side1 ?side2 A18.out).mono ?_); (case side1 => repeat (first | (with_reducible first | exact HB.out | apply below_alloc | apply pw_below_drewN | apply below_drew1) | exact HB.out)); (case side2 => exact Kd.R_tight rfl HO_6.out); rintro e w21 ⟨v124, rfl, ho0, hb, hkp⟩; refine ⟨_, rfl, ?_⟩; have n0_ := Aside0.mk (Kd.Q_mono (ok' := fun k_ => True) ho0 (fun k_ hk_ => trivial)); have n1_ := Aside0.mk (hb); clear HB; clear HO_6; have HO125 := n0_; have HB := n1_; clear n0_ n1_; (try clear hb); (try clear hkp); (try clear ho0); obtain ⟨Ao22, co22, eo22, _⟩ := Kd.Q_slice HO125.out; subst eo22) | ((with_reducible refine gate_callee (f := 16) rfl ?_); refine goesL_ (some 46) rfl rfl Tryd.func16 (by kernel_rfl) rfl #[.slice Ao22 t123.length co22] rfl (by (try simp only [List.map_toArray, List.map_cons, List.map_nil]); first | done | rfl | (simp only [List.length_drop, List.length_take]; rfl)) ?_; (with_reducible refine (bytes_Clone.calls _ _ t123 t126 _ ?side1 ?side2 A19.out).mono ?_); (case side1 => repeat (first | exact (Kd.Q_reads' HO125.out).2.2 | (with_reducible refine Kd.C_alloc ?_ _) | (with_reducible refine Kd.C_drewN ?_ _) | (with_reducible refine Kd.C_drew ?_))); (case side2 => exact (Kd.Q_reads' HO125.out).2.1); rintro e w23 ⟨v127, rfl, ho0, hb⟩; refine ⟨_, rfl, ?_⟩; have n0_ := Aside0.mk (Kd.Q_elder' (by (with_reducible repeat (first | apply Kd.Q_alloc | apply Kd.Q_drewN | apply Kd.Q_drew)); exact HO125.out) (Kd.R_base ho0) hb); have n1_ := Aside0.mk (Kd.R_lower (Kd.R_new' ho0 (Kd.Q_lt (by (with_reducible repeat (first | apply Kd.Q_alloc | apply Kd.Q_drewN | apply Kd.Q_drew)); exact HO125.out))) (below_size (by repeat (first | (with_reducible first | exact HB.out | apply below_alloc | apply pw_below_drewN | apply below_drew1) | exact HB.out)))); have n2_ := Aside0.mk (below_step (by repeat (first | (with_reducible first | exact HB.out | apply below_alloc | apply pw_below_drewN | apply below_drew1) | exact HB.out)) hb); clear HO125; clear HB; have HO125 := n0_; have HO128 := n1_; have HB := n2_; clear n0_ n1_ n2_; (try clear hb); (try clear hb2); (try clear hk); (try clear hi); (try clear ho0)))
          go_ret2
          exact ⟨_, by first | rfl | (simp [errV_none, errV_some] <;> rfl) | (simp [*, errV_none, errV_some] <;> rfl), by (with_reducible repeat (first | apply Kd.R_alloc | apply Kd.R_drewN | apply Kd.R_drew)); exact Kd.R_mono HO128.out (fun _ hk => trivial), by repeat (first | (with_reducible first | exact HB.out | apply below_alloc | apply pw_below_drewN | apply below_drew1) | exact HB.out)⟩
  · have H1 : (some (([] : List Int), false)) = some (r1, r2) := by rw [if_neg (show ¬ (some q122).isNone = true by simp)] at H; exact H
    clear H
    have H := H1
    clear H1
    try simp only [errV_none, errV_some]
    simp only [Option.some.injEq, Prod.mk.injEq] at H
    obtain ⟨rfl, rfl⟩ := H
    go_enter Tryd.func6, Tryd.ntmps6
    go_wp2_with (first | ((with_reducible refine gate_callee (f := 13) rfl ?_); refine goesL_ (some 12) rfl rfl Tryd.func13 (by kernel_rfl) rfl #[.int .i64 a0] rfl (by (try simp only [List.map_toArray, List.map_cons, List.map_nil]); first | done | rfl | (simp only [List.length_drop, List.length_take]; rfl)) ?_; (with_reducible refine (gobitfield_NewBitfield.calls a0 t118 (some q122) _ A3.out).mono ?_); rintro e w24 ⟨v120, eT_t119, eX_t119, rfl, ho0, hb⟩; refine ⟨_, rfl, ?_⟩; have n0_ := Aside0.mk (Kd.R_lower ho0 (below_size (by repeat (first | (with_reducible first | exact HB.out | apply below_alloc | apply pw_below_drewN | apply below_drew1) | exact HB.out)))); have n1_ := Aside0.mk (below_step (by repeat (first | (with_reducible first | exact HB.out | apply below_alloc | apply pw_below_drewN | apply below_drew1) | exact HB.out)) hb); clear HB; have HO121 := n0_; have HB := n1_; clear n0_ n1_; (try clear hb); (try clear hb2); (try clear hk); (try clear hi); (try clear ho0); (try simp only [errV_none, errV_some])))
    go_ret2
    exact ⟨_, by first | rfl | (simp [errV_none, errV_some] <;> rfl) | (simp [*, errV_none, errV_some] <;> rfl), by first | exact Kd.R_nil _ _ _ _ _ | exact Kd.N_nil _ _ _ _ _ | exact Kd.V_nil _ _ _ _ _ | exact Kd.Q_nil _ _ _ _ _ | exact Kd.S_nil _ _ _ _ _, by repeat (first | (with_reducible first | exact HB.out | apply below_alloc | apply pw_below_drewN | apply below_drew1) | exact HB.out)⟩

/-! ### bytes_Equal: function 8 -/
def bytes_Equal.f (l0 : List Int) (l1 : List Int) : Option (Bool) := some ((strOfNums l0).toList == (strOfNums l1).toList)
set_option maxHeartbeats 8000000 in
set_option maxRecDepth 100000 in
theorem bytes_Equal.calls (A0 : Option Addr) (c0 : Nat) (l0 : List Int) (A1 : Option Addr) (c1 : Nat) (l1 : List Int) (r : Bool) (w : World) (hr0 : Kd.C (Kd.int .u8) w A0 l0.length l0) (hc0 : l0.length ≤ c0) (hr1 : Kd.C (Kd.int .u8) w A1 l1.length l1) (hc1 : l1.length ≤ c1) (h : bytes_Equal.f l0 l1 = some r) :
    Calls Tryd.prog 8 #[.slice A0 l0.length c0, .slice A1 l1.length c1] w fun e w' => e = .returned (.bool r) ∧ Drawn0 w w' := by
  have HR0 := Aside0.mk hr0
  have HC0 := Aside0.mk hc0
  clear hr0 hc0
  have HR1 := Aside0.mk hr1
  have HC1 := Aside0.mk hc1
  clear hr1 hc1
  have H : (some ((strOfNums l0).toList == (strOfNums l1).toList)) = some r := h
  clear h
  obtain rfl := Option.some.inj H
  have hcv3 := Kd.C_string (P := Tryd.prog) (A := A0) (c := c0) Tryd.underlying24 Tryd.underlying5 Tryd.underlying9 HR0.out
  have hcv4 := Kd.C_string (P := Tryd.prog) (A := A1) (c := c1) Tryd.underlying24 Tryd.underlying5 Tryd.underlying9 HR1.out
  go_enter Tryd.func8, Tryd.ntmps8
  go_wp2
  go_ret
  exact ⟨by first | rfl | (simp; done) | (simp [*]; done), by repeat (first | exact Drawn0.refl _ | apply Drawn0.step)⟩

end Go.Proofs.YtbmeegkgcipmoaaDoor.PFnBitsSet
