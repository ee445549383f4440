/- Printed by a program of this session (it drives the print of the kit, with contracts proved by hand beside): the Go functions of one law as Lean functions, and that the Go code comes to what they say. -/
import Derived.Test.YtbmeegkgcipmoaaDoorPFnBitsSetx0
namespace Go.Proofs.YtbmeegkgcipmoaaDoor.PFnBitsSet
open Go.RowKit Go.Proofs.YtbmeegkgcipmoaaDoorL Go.Proofs.YtbmeegkgcipmoaaDoorW.PrintWords Go.Proofs.YtbmeegkgcipmoaaDoorW.PrintLast Go.Proofs.YtbmeegkgcipmoaaDoorW.PrintMore
attribute [local go_sem] max2_int min2_int max_two min_two max_three min_three max_four min_four   -- for this text's walks alone
set_option linter.unusedVariables false
set_option linter.unusedSimpArgs false

/-! ### gobitfield_Bitfield_Bytes: function 17 -/
def gobitfield_Bitfield_Bytes.l0 : Nat → List Int → List Int → Int → Int → Option (List Int)
  | 0, _, _, _, _ => none
  | k + 1, x0, x5, x6, x7 => if x7 < x6 then (if 0 ≤ x7 then (if x7 < (x5.length : Int) then (if (rd x5 x7) = 0 then (gobitfield_Bitfield_Bytes.l0 k x0 x5 x6 (wrap64 (x7 + 1))) else (if x7 ≤ (x0.length : Int) then (some (x0.drop (x7 : Int).toNat)) else (none))) else (none)) else (none)) else (some ([] : List Int))
def gobitfield_Bitfield_Bytes.f (k : Nat) (l0 : List Int) : Option (List Int) := gobitfield_Bitfield_Bytes.l0 k l0 l0 (l0.length : Int) 0
theorem gobitfield_Bitfield_Bytes.mono_l : ∀ k, (∀ y0 y1 y2 y3, LeO (gobitfield_Bitfield_Bytes.l0 k y0 y1 y2 y3) (gobitfield_Bitfield_Bytes.l0 (k + 1) y0 y1 y2 y3))
  | 0 => fun _ _ _ _ r h => by simp [gobitfield_Bitfield_Bytes.l0] at h
  | k + 1 => by
    have ih0 := gobitfield_Bitfield_Bytes.mono_l k
    · intro y0 y1 y2 y3
      unfold gobitfield_Bitfield_Bytes.l0
      repeat' first
      | (with_reducible exact ih0 _ _ _ _)
      | (with_reducible exact LeO.refl _)
      | (with_reducible exact LeO.none _)
      | (with_reducible refine LeO.ite ?_ ?_)
      | (with_reducible refine LeO.bind ?_ (fun _ => ?_))
      | exact ih0 _ _ _ _
      | exact LeO.none _
      | refine LeO.ite ?_ ?_
      | refine LeO.bind ?_ (fun _ => ?_)
theorem gobitfield_Bitfield_Bytes.mono : ∀ a0 k, LeO (gobitfield_Bitfield_Bytes.f k a0) (gobitfield_Bitfield_Bytes.f (k + 1) a0) := by
  intro a0 k
  have ih0 := gobitfield_Bitfield_Bytes.mono_l k
  unfold gobitfield_Bitfield_Bytes.f
  repeat' first
      | (with_reducible exact ih0 _ _ _ _)
      | (with_reducible exact LeO.refl _)
      | (with_reducible exact LeO.none _)
      | (with_reducible refine LeO.ite ?_ ?_)
      | (with_reducible refine LeO.bind ?_ (fun _ => ?_))
      | exact ih0 _ _ _ _
      | exact LeO.none _
      | refine LeO.ite ?_ ?_
      | refine LeO.bind ?_ (fun _ => ?_)
set_option maxHeartbeats 8000000 in
set_option maxRecDepth 100000 in
theorem gobitfield_Bitfield_Bytes.calls (k : Nat) (P0_ : Nat → Prop) (u9000_ : Value) (l0 : List Int) (r : List Int) (w0 w : World) (hB : Below w0.heap.size w0 w) (ho0 : Kd.R (Kd.int .u8) 5 w w0.heap.size P0_ u9000_ l0) (h : gobitfield_Bitfield_Bytes.f k l0 = some r) :
    Calls Tryd.prog 17 #[u9000_] w fun e w' => ∃ v0_ : Value, e = .returned (v0_) ∧ Kd.Q (Kd.int .u8) 5 w' w0.heap.size (fun k_ => (P0_ k_ ∨ w.heap.size ≤ k_)) v0_ r ∧ Below w0.heap.size w0 w' ∧ Kept w w' (fun k_ => P0_ k_) := by
  have HO0 := Aside0.mk (show Kd.R (Kd.int .u8) 5 w w0.heap.size (fun k_ => (P0_ k_ ∨ w.heap.size ≤ k_)) u9000_ l0 from Kd.R_mono ho0 (fun k_ hk => (.inl hk)))
  have HK := Aside0.mk (Kept.refl w (fun k_ => P0_ k_))
  have HW0 := Aside0.mk hB.size
  have HB := Aside0.mk hB
  clear hB
  have H : (gobitfield_Bitfield_Bytes.l0 k l0 l0 (l0.length : Int) 0) = some r := h
  clear h
  have H' := Aside0.mk H
  clear H
  obtain ⟨Ao2, co2, eo2⟩ := Kd.R_slice HO0.out
  subst eo2
  go_enter Tryd.func17, Tryd.ntmps17
  go_wp2
  go_loopg [7] k (fun kq v7 w' => ∃ (x7_1 : Int), v7 = .int .i64 x7_1 ∧ Aside0 (gobitfield_Bitfield_Bytes.l0 kq l0 l0 (l0.length : Int) x7_1 = some r) ∧ Aside0 (kq ≤ k) ∧ Aside0 (Kd.R (Kd.int .u8) 5 w' w0.heap.size (fun k_ => (P0_ k_ ∨ w.heap.size ≤ k_)) (.slice Ao2 l0.length co2) l0) ∧ Aside0 (Kd.R (Kd.int .u8) 5 w' w0.heap.size (fun k_ => (P0_ k_ ∨ w.heap.size ≤ k_)) (.slice Ao2 l0.length co2) l0) ∧ Aside0 (Kept w w' (fun k_ => P0_ k_)) ∧ Aside0 (Below w0.heap.size w0 w'))
  case atStart => exact ⟨(0), (by first | rfl | (simp; done) | (simp [*]; done)), H', ⟨Nat.le_refl _⟩, ⟨by (with_reducible repeat (first | apply Kd.R_alloc | apply Kd.R_drewN | apply Kd.R_drew)); exact HO0.out⟩, ⟨by (with_reducible repeat (first | apply Kd.R_alloc | apply Kd.R_drewN | apply Kd.R_drew)); exact HO0.out⟩, ⟨by repeat (first | (with_reducible first | exact HK.out | apply Kept.alloc | apply Kept.drewN | apply Kept.drew) | exact HK.out)⟩, ⟨by repeat (first | (with_reducible first | exact HB.out | apply below_alloc | apply pw_below_drewN | apply below_drew1) | exact HB.out)⟩⟩
  case round =>
    clear H'
    try clear c1
    try clear p2
    obtain ⟨x7_1, rfl, HA, HK1, HO_0, HO_5, HK, HB⟩ := hrel
    cases gk with
    | zero => exact absurd HA.out (by simp [gobitfield_Bitfield_Bytes.l0])
    | succ k1 =>
      have H := HA.out
      clear HA
      simp only [gobitfield_Bitfield_Bytes.l0] at H
      by_cases c3 : x7_1 < (l0.length : Int)
      · rw [if_pos c3] at H
        have c3b0 : decide (x7_1 < (l0.length : Int)) = true := decide_eq_true c3
        clear c3
        by_cases c4 : 0 ≤ x7_1
        · rw [if_pos c4] at H
          have c4b0 : decide (0 ≤ x7_1) = true := decide_eq_true c4
          clear c4
          by_cases c5 : x7_1 < (l0.length : Int)
          · rw [if_pos c5] at H
            have c5b0 : decide (x7_1 < (l0.length : Int)) = true := decide_eq_true c5
            clear c5
            by_cases c6 : (rd l0 x7_1) = 0
            · rw [if_pos c6] at H
              have c6b0 : ((rd l0 x7_1) == 0) = true := beq_iff_eq.mpr c6
              have c6b1 : ((rd l0 x7_1) != 0) = false := bne_eq_false_iff_eq.mpr c6
              clear c6
              have H' := Aside0.mk H
              clear H
              have p114 : 0 ≤ (x7_1 : Int) := of_decide_eq_true (by first | (with_reducible assumption) | assumption)
              have q114 : x7_1 < (l0.length : Int) := of_decide_eq_true (by first | (with_reducible assumption) | assumption)
              obtain ⟨ad114, e114, hx114_0⟩ := Kd.at_int (Kd.R_reads' HO_5.out).2.2 x7_1 p114 q114
              cases e114
              replace p114 := eq_true p114
              replace q114 := eq_true q114
              go_wp2
              go_roundg k1
              case measure => have := HK1.out; omega
              case rel => exact ⟨(wrap64 (x7_1 + 1)), (by first | rfl | (simp; done) | (simp [*]; done)), H', ⟨by have := HK1.out; omega⟩, ⟨by (with_reducible repeat (first | apply Kd.R_alloc | apply Kd.R_drewN | apply Kd.R_drew)); exact HO_0.out⟩, ⟨by (with_reducible repeat (first | apply Kd.R_alloc | apply Kd.R_drewN | apply Kd.R_drew)); exact HO_5.out⟩, ⟨by repeat (first | (with_reducible first | exact HK.out | apply Kept.alloc | apply Kept.drewN | apply Kept.drew) | exact HK.out)⟩, ⟨by repeat (first | (with_reducible first | exact HB.out | apply below_alloc | apply pw_below_drewN | apply below_drew1) | exact HB.out)⟩⟩
            · rw [if_neg c6] at H
              have c6b0 : ((rd l0 x7_1) == 0) = false := beq_eq_false_iff_ne.mpr c6
              have c6b1 : ((rd l0 x7_1) != 0) = true := bne_iff_ne.mpr c6
              by_cases c7 : x7_1 ≤ (l0.length : Int)
              · rw [if_pos c7] at H
                have c7b0 := eq_true c7
                have c7b1 : decide (x7_1 ≤ (l0.length : Int)) = true := decide_eq_true c7
                clear c7
                obtain ⟨y115, hy115⟩ : ∃ y_ : List Int, y_ = (l0.drop (x7_1 : Int).toNat) := ⟨_, rfl⟩
                replace H : (some y115) = some r := by first | (rw [hy115]; with_reducible exact H) | (have H2_ := (Option.bind_some _ _).symm.trans H; rw [hy115]; with_reducible exact H2_) | (have H2_ := (Option.bind_some _ _).symm.trans H; with_reducible exact H2_) | with_reducible exact H | (rw [hy115]; exact H) | exact H
                have Ny115 := Aside0.mk hy115
                clear hy115
                obtain rfl := Option.some.inj H
                have p114 : 0 ≤ (x7_1 : Int) := of_decide_eq_true (by first | (with_reducible assumption) | assumption)
                have q114 : x7_1 < (l0.length : Int) := of_decide_eq_true (by first | (with_reducible assumption) | assumption)
                obtain ⟨ad114, e114, hx114_0⟩ := Kd.at_int (Kd.R_reads' HO_5.out).2.2 x7_1 p114 q114
                cases e114
                replace p114 := eq_true p114
                replace q114 := eq_true q114
                have q8 : (x7_1 : Int) ≤ ((l0.length : Int) : Int) := of_decide_eq_true (by first | (with_reducible assumption) | assumption)
                obtain ⟨i08, hi08, _, hsz8, _⟩ := info_parts info5
                have hcut8 := cut_from (P := Tryd.prog) 36 5 .i64 Tryd.underlying36 hi08 1 hsz8 (some ad114) l0.length co2 x7_1 (of_decide_eq_true (by first | (with_reducible assumption) | assumption)) q8
                have hr8 := Kd.Q_drop (k := (x7_1 : Int).toNat) (Kd.Q_of_R HO_0.out) (by omega)
                obtain ⟨A8, hA8⟩ : ∃ A1, A1 = (if co2 = (x7_1 : Int).toNat then (some ad114) else ((some ad114) : Option Addr).map (·.add ((x7_1 : Int).toNat * 1))) := ⟨_, rfl⟩
                obtain ⟨c8, hc8⟩ : ∃ c1, c1 = co2 - (x7_1 : Int).toNat := ⟨_, rfl⟩
                have hy8 : y115.length = l0.length - (x7_1 : Int).toNat := (by rw [Ny115.out, List.length_drop])
                rw [← Ny115.out] at hr8
                rw [← hy8, ← hA8, ← hc8] at hcut8
                replace hr8 : Kd.Q (Kd.int .u8) 5 wr w0.heap.size (fun k_ => (P0_ k_ ∨ w.heap.size ≤ k_)) (.slice A8 y115.length c8) y115 := (by rw [hA8, hc8, hy8]; exact hr8)
                have HE8 : Aside0 ((Value.slice A8 y115.length c8).ownBlock = (.slice (some ad114) l0.length co2 : Value).ownBlock) := ⟨by rw [hA8]; split <;> (cases ((some ad114) : Option Addr) <;> (first | rfl | simp [Value.ownBlock, add_block]))⟩
                clear hy8 hi08 hsz8 HO_0 hA8 hc8
                have HO117 := Aside0.mk hr8
                clear hr8
                replace q8 := eq_true q8
                go_wp2
                go_ret
                exact ⟨_, by first | rfl | (simp [errV_none, errV_some] <;> rfl) | (simp [*, errV_none, errV_some] <;> rfl), by (with_reducible repeat (first | apply Kd.Q_alloc | apply Kd.Q_drewN | apply Kd.Q_drew)); exact HO117.out, by repeat (first | (with_reducible first | exact HB.out | apply below_alloc | apply pw_below_drewN | apply below_drew1) | exact HB.out), by repeat (first | (with_reducible first | exact HK.out | apply Kept.alloc | apply Kept.drewN | apply Kept.drew) | exact HK.out)⟩
              · rw [if_neg c7] at H
                exact absurd H (by simp)
          · rw [if_neg c5] at H
            exact absurd H (by simp)
        · rw [if_neg c4] at H
          exact absurd H (by simp)
      · rw [if_neg c3] at H
        have c3b0 : decide (x7_1 < (l0.length : Int)) = false := decide_eq_false c3
        clear c3
        obtain rfl := Option.some.inj H
        go_wp2
        go_ret
        exact ⟨_, by first | rfl | (simp [errV_none, errV_some] <;> rfl) | (simp [*, errV_none, errV_some] <;> rfl), Kd.Q_of_R (by first | exact Kd.R_nil _ _ _ _ _ | exact Kd.N_nil _ _ _ _ _ | exact Kd.V_nil _ _ _ _ _ | exact Kd.Q_nil _ _ _ _ _ | exact Kd.S_nil _ _ _ _ _), by repeat (first | (with_reducible first | exact HB.out | apply below_alloc | apply pw_below_drewN | apply below_drew1) | exact HB.out), by repeat (first | (with_reducible first | exact HK.out | apply Kept.alloc | apply Kept.drewN | apply Kept.drew) | exact HK.out)⟩

end Go.Proofs.YtbmeegkgcipmoaaDoor.PFnBitsSet
