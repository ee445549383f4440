/- Printed by a program of this session (it drives the print of the kit, with contracts proved by hand beside): the Go functions of one law as Lean functions, and that the Go code comes to what they say. -/
import Derived.Test.YtnhnlodmkbiiiaaDoorPPbSharex0
import Derived.Test.YtnhnlodmkbiiiaaDoorPPbSharex1
import Derived.Test.YtnhnlodmkbiiiaaDoorPPbSharex2
namespace Go.Proofs.YtnhnlodmkbiiiaaDoor.PPbShare
open Go.RowKit Go.Proofs.YtnhnlodmkbiiiaaDoorL Go.Proofs.YtnhnlodmkbiiiaaDoorW.PrintWords Go.Proofs.YtnhnlodmkbiiiaaDoorW.PrintLast Go.Proofs.YtnhnlodmkbiiiaaDoorW.PrintMore
attribute [local go_sem] max2_int min2_int max_two min_two max_three min_three max_four min_four   -- for this text's walks alone
set_option linter.unusedVariables false
set_option linter.unusedSimpArgs false

/-! ### spec_PbOurs: function 11 -/
mutual
def spec_PbOurs.l0 : Nat → List Int → Int → Int → List Int → Int → Int → Option (Bool)
  | 0, _, _, _, _, _, _ => none
  | k + 1, x0, x1, x5, x15, x16, x17 => if x17 < x16 then (if 0 ≤ x17 then (if x17 < (x15.length : Int) then (if (rd x15 x17) < 128 then (if 0 = 9 then (some false) else (spec_PbOurs.l0 k x0 x1 0 x15 x16 (wrap64 (x17 + 1)))) else (if (wrap64 (x5 + 1)) = 9 then (some false) else (spec_PbOurs.l0 k x0 x1 (wrap64 (x5 + 1)) x15 x16 (wrap64 (x17 + 1))))) else (none)) else (none)) else (spec_PbOurs.l1 k x0 x1)
def spec_PbOurs.l1 : Nat → List Int → Int → Option (Bool)
  | 0, _, _ => none
  | k + 1, x0, x1 => if (x0.length : Int) > 0 then ((spec_ReadUvarint.f k x0).bind fun bt119 => (if bt119.2 = 0 then (some true) else (if (bt119.1 / 8) < 1 then (spec_PbOurs.j2 k x0 x1 bt119.1 true) else (if (bt119.1 / 8) > x1 then (spec_PbOurs.j2 k x0 x1 bt119.1 true) else (if (Go.bits .and .u64 bt119.1 7) = 0 then (spec_PbOurs.j2 k x0 x1 bt119.1 false) else (spec_PbOurs.j2 k x0 x1 bt119.1 ((Go.bits .and .u64 bt119.1 7) != 2))))))) else (some true)
def spec_PbOurs.j2 : Nat → List Int → Int → Int → Bool → Option (Bool)
  | 0, _, _, _, _ => none
  | k + 1, x0, x1, x8, x56 => if x56 = true then (some false) else ((spec_pbTake.f k x0).bind fun bt121 => (if bt121.2.2.2.2 = 0 then (some true) else (if x1 = 2 then (if x8 = 18 then ((spec_PbOurs.f k bt121.2.2.2.1 3).bind fun t128 => (if t128 = true then (if 0 ≤ bt121.2.2.2.2 then (if bt121.2.2.2.2 ≤ (x0.length : Int) then (spec_PbOurs.l1 k (x0.drop (bt121.2.2.2.2 : Int).toNat) x1) else (none)) else (none)) else (some false))) else (if 0 ≤ bt121.2.2.2.2 then (if bt121.2.2.2.2 ≤ (x0.length : Int) then (spec_PbOurs.l1 k (x0.drop (bt121.2.2.2.2 : Int).toNat) x1) else (none)) else (none))) else (if 0 ≤ bt121.2.2.2.2 then (if bt121.2.2.2.2 ≤ (x0.length : Int) then (spec_PbOurs.l1 k (x0.drop (bt121.2.2.2.2 : Int).toNat) x1) else (none)) else (none)))))
def spec_PbOurs.f : Nat → List Int → Int → Option (Bool)
  | 0, _, _ => none
  | k + 1, l0, a1 => spec_PbOurs.l0 k l0 a1 0 l0 (l0.length : Int) 0
end
theorem spec_PbOurs.mono_l : ∀ k, (∀ y0 y1, LeO (spec_PbOurs.f k y0 y1) (spec_PbOurs.f (k + 1) y0 y1)) ∧ (∀ y0 y1 y2 y3 y4 y5, LeO (spec_PbOurs.l0 k y0 y1 y2 y3 y4 y5) (spec_PbOurs.l0 (k + 1) y0 y1 y2 y3 y4 y5)) ∧ (∀ y0 y1, LeO (spec_PbOurs.l1 k y0 y1) (spec_PbOurs.l1 (k + 1) y0 y1)) ∧ (∀ y0 y1 y2 y3, LeO (spec_PbOurs.j2 k y0 y1 y2 y3) (spec_PbOurs.j2 (k + 1) y0 y1 y2 y3))
  | 0 => ⟨fun _ _ r h => by simp [spec_PbOurs.f] at h, fun _ _ _ _ _ _ r h => by simp [spec_PbOurs.l0] at h, fun _ _ r h => by simp [spec_PbOurs.l1] at h, fun _ _ _ _ r h => by simp [spec_PbOurs.j2] at h⟩
  | k + 1 => by
    obtain ⟨ih0, ih1, ih2, ih3⟩ := spec_PbOurs.mono_l k
    refine ⟨?_, ?_, ?_, ?_⟩
    · intro y0 y1
      unfold spec_PbOurs.f
      repeat' first
      | (with_reducible exact ih0 _ _)
      | (with_reducible exact ih1 _ _ _ _ _ _)
      | (with_reducible exact ih2 _ _)
      | (with_reducible exact ih3 _ _ _ _)
      | (with_reducible exact spec_ReadUvarint.mono _ _)
      | (with_reducible exact spec_pbTake.mono _ _)
      | (with_reducible exact LeO.refl _)
      | (with_reducible exact LeO.none _)
      | (with_reducible refine LeO.ite ?_ ?_)
      | (with_reducible refine LeO.bind ?_ (fun _ => ?_))
      | exact ih0 _ _
      | exact ih1 _ _ _ _ _ _
      | exact ih2 _ _
      | exact ih3 _ _ _ _
      | exact spec_ReadUvarint.mono _ _
      | exact spec_pbTake.mono _ _
      | exact LeO.none _
      | refine LeO.ite ?_ ?_
      | refine LeO.bind ?_ (fun _ => ?_)
    · intro y0 y1 y2 y3 y4 y5
      unfold spec_PbOurs.l0
      repeat' first
      | (with_reducible exact ih0 _ _)
      | (with_reducible exact ih1 _ _ _ _ _ _)
      | (with_reducible exact ih2 _ _)
      | (with_reducible exact ih3 _ _ _ _)
      | (with_reducible exact spec_ReadUvarint.mono _ _)
      | (with_reducible exact spec_pbTake.mono _ _)
      | (with_reducible exact LeO.refl _)
      | (with_reducible exact LeO.none _)
      | (with_reducible refine LeO.ite ?_ ?_)
      | (with_reducible refine LeO.bind ?_ (fun _ => ?_))
      | exact ih0 _ _
      | exact ih1 _ _ _ _ _ _
      | exact ih2 _ _
      | exact ih3 _ _ _ _
      | exact spec_ReadUvarint.mono _ _
      | exact spec_pbTake.mono _ _
      | exact LeO.none _
      | refine LeO.ite ?_ ?_
      | refine LeO.bind ?_ (fun _ => ?_)
    · intro y0 y1
      unfold spec_PbOurs.l1
      repeat' first
      | (with_reducible exact ih0 _ _)
      | (with_reducible exact ih1 _ _ _ _ _ _)
      | (with_reducible exact ih2 _ _)
      | (with_reducible exact ih3 _ _ _ _)
      | (with_reducible exact spec_ReadUvarint.mono _ _)
      | (with_reducible exact spec_pbTake.mono _ _)
      | (with_reducible exact LeO.refl _)
      | (with_reducible exact LeO.none _)
      | (with_reducible refine LeO.ite ?_ ?_)
      | (with_reducible refine LeO.bind ?_ (fun _ => ?_))
      | exact ih0 _ _
      | exact ih1 _ _ _ _ _ _
      | exact ih2 _ _
      | exact ih3 _ _ _ _
      | exact spec_ReadUvarint.mono _ _
      | exact spec_pbTake.mono _ _
      | exact LeO.none _
      | refine LeO.ite ?_ ?_
      | refine LeO.bind ?_ (fun _ => ?_)
    · intro y0 y1 y2 y3
      unfold spec_PbOurs.j2
      repeat' first
      | (with_reducible exact ih0 _ _)
      | (with_reducible exact ih1 _ _ _ _ _ _)
      | (with_reducible exact ih2 _ _)
      | (with_reducible exact ih3 _ _ _ _)
      | (with_reducible exact spec_ReadUvarint.mono _ _)
      | (with_reducible exact spec_pbTake.mono _ _)
      | (with_reducible exact LeO.refl _)
      | (with_reducible exact LeO.none _)
      | (with_reducible refine LeO.ite ?_ ?_)
      | (with_reducible refine LeO.bind ?_ (fun _ => ?_))
      | exact ih0 _ _
      | exact ih1 _ _ _ _ _ _
      | exact ih2 _ _
      | exact ih3 _ _ _ _
      | exact spec_ReadUvarint.mono _ _
      | exact spec_pbTake.mono _ _
      | exact LeO.none _
      | refine LeO.ite ?_ ?_
      | refine LeO.bind ?_ (fun _ => ?_)
theorem spec_PbOurs.mono : ∀ a0 a1 k, LeO (spec_PbOurs.f k a0 a1) (spec_PbOurs.f (k + 1) a0 a1) := by
  intro a0 a1 k
  obtain ⟨ih0, ih1, ih2, ih3⟩ := spec_PbOurs.mono_l k
  exact ih0 a0 a1
set_option maxHeartbeats 8000000 in
set_option maxRecDepth 100000 in
theorem spec_PbOurs.calls (k : Nat) : ∀ (P0_ : Nat → Prop) (A0 : Option Addr) (c0 : Nat) (l0 : List Int) (a1 : Int) (r : Bool) (w : World) (hs0 : Kd.V (Kd.int .u8) 5 w w.heap.size (fun k_ => P0_ k_) (.slice A0 l0.length c0) l0) (h : spec_PbOurs.f k l0 a1 = some r),
    Calls Tryd.prog 11 #[.slice A0 l0.length c0, .int .u64 a1] w fun e w' => e = .returned (.bool r) ∧ Below w.heap.size w w' := by
  induction k using Nat.strongRecOn with
  | _ k ih =>
  intro P0_ A0 c0 l0 a1 r w hs0 h
  cases k with
  | zero => exact absurd h (by simp [spec_PbOurs.f])
  | succ k =>
  simp only [spec_PbOurs.f] at h
  have HO0 := Aside0.mk (show Kd.V (Kd.int .u8) 5 w w.heap.size (fun k_ => (P0_ k_ ∨ w.heap.size ≤ k_)) (.slice A0 l0.length c0) l0 from Kd.V_mono hs0 (fun k_ hk => .inl hk))
  have HB := Aside0.mk (Below.refl w.heap.size w)
  have H : (spec_PbOurs.l0 k l0 a1 0 l0 (l0.length : Int) 0) = some r := h
  clear h
  have H' := Aside0.mk H
  clear H
  go_enter Tryd.func11, Tryd.ntmps11
  go_wp2
  (try simp only [Act.put, List.setIfInBounds_toArray, List.set_cons_zero, List.set_cons_succ])
  go_loopg [5, 17] k (fun kq v5 v17 w' => ∃ (x5_1 : Int) (x17_1 : Int), v5 = .int .i64 x5_1 ∧ v17 = .int .i64 x17_1 ∧ Aside0 (spec_PbOurs.l0 kq l0 a1 x5_1 l0 (l0.length : Int) x17_1 = some r) ∧ Aside0 (kq ≤ k) ∧ Aside0 (Kd.V (Kd.int .u8) 5 w' w.heap.size (fun k_ => (P0_ k_ ∨ w.heap.size ≤ k_)) (.slice A0 l0.length c0) l0) ∧ Aside0 (Kd.V (Kd.int .u8) 5 w' w.heap.size (fun k_ => (P0_ k_ ∨ w.heap.size ≤ k_)) (.slice A0 l0.length c0) l0) ∧ Aside0 (Below w.heap.size w w'))
  case atStart => exact ⟨(0), (0), (by first | rfl | (simp; done) | (simp [*]; done)), (by first | rfl | (simp; done) | (simp [*]; done)), H', ⟨Nat.le_refl _⟩, ⟨by (with_reducible repeat (first | apply Kd.V_alloc | apply Kd.V_drewN | apply Kd.V_drew)); exact HO0.out⟩, ⟨by (with_reducible repeat (first | apply Kd.V_alloc | apply Kd.V_drewN | apply Kd.V_drew)); exact HO0.out⟩, ⟨by repeat (first | (with_reducible first | exact HB.out | apply below_alloc | apply pw_below_drewN | apply below_drew1) | exact HB.out)⟩⟩
  case round =>
    clear H'
    try clear c1
    try clear p2
    obtain ⟨x5_1, x17_1, rfl, rfl, HA, HK1, HO_0, HO_15, HB⟩ := hrel
    cases gk with
    | zero => exact absurd HA.out (by simp [spec_PbOurs.l0])
    | succ k1 =>
      have H := HA.out
      clear HA
      simp only [spec_PbOurs.l0] at H
      by_cases c3 : x17_1 < (l0.length : Int)
      · rw [if_pos c3] at H
        have c3b0 : decide (x17_1 < (l0.length : Int)) = true := decide_eq_true c3
        clear c3
        by_cases c4 : 0 ≤ x17_1
        · rw [if_pos c4] at H
          have c4b0 : decide (0 ≤ x17_1) = true := decide_eq_true c4
          clear c4
          by_cases c5 : x17_1 < (l0.length : Int)
          · rw [if_pos c5] at H
            have c5b0 : decide (x17_1 < (l0.length : Int)) = true := decide_eq_true c5
            clear c5
            by_cases c6 : (rd l0 x17_1) < 128
            · rw [if_pos c6] at H
              have c6b0 : decide ((rd l0 x17_1) < 128) = true := decide_eq_true c6
              clear c6
              by_cases c7 : 0 = 9
              · exact absurd c7 (by decide)
              · rw [if_neg c7] at H
                have c7b0 : (0 == 9) = false := beq_eq_false_iff_ne.mpr c7
                have c7b1 : (0 != 9) = true := bne_iff_ne.mpr c7
                have H' := Aside0.mk H
                clear H
                have p118 : 0 ≤ (x17_1 : Int) := of_decide_eq_true (by first | (with_reducible assumption) | assumption)
                have q118 : x17_1 < (l0.length : Int) := of_decide_eq_true (by first | (with_reducible assumption) | assumption)
                obtain ⟨ad118, e118, hx118_0⟩ := Kd.at_int (Kd.V_reads' HO_15.out).2.2 x17_1 p118 q118
                cases e118
                replace p118 := eq_true p118
                replace q118 := eq_true q118
                go_wp2
                go_roundg k1
                case measure => have := HK1.out; omega
                case rel => exact ⟨(0), (wrap64 (x17_1 + 1)), (by first | rfl | (simp; done) | (simp [*]; done)), (by first | rfl | (simp; done) | (simp [*]; done)), H', ⟨by have := HK1.out; omega⟩, ⟨by (with_reducible repeat (first | apply Kd.V_alloc | apply Kd.V_drewN | apply Kd.V_drew)); exact HO_0.out⟩, ⟨by (with_reducible repeat (first | apply Kd.V_alloc | apply Kd.V_drewN | apply Kd.V_drew)); exact HO_15.out⟩, ⟨by repeat (first | (with_reducible first | exact HB.out | apply below_alloc | apply pw_below_drewN | apply below_drew1) | exact HB.out)⟩⟩
            · rw [if_neg c6] at H
              have c6b0 : decide ((rd l0 x17_1) < 128) = false := decide_eq_false c6
              clear c6
              by_cases c8 : (wrap64 (x5_1 + 1)) = 9
              · rw [if_pos c8] at H
                have c8b0 : ((wrap64 (x5_1 + 1)) == 9) = true := beq_iff_eq.mpr c8
                have c8b1 : ((wrap64 (x5_1 + 1)) != 9) = false := bne_eq_false_iff_eq.mpr c8
                clear c8
                obtain rfl := Option.some.inj H
                have p118 : 0 ≤ (x17_1 : Int) := of_decide_eq_true (by first | (with_reducible assumption) | assumption)
                have q118 : x17_1 < (l0.length : Int) := of_decide_eq_true (by first | (with_reducible assumption) | assumption)
                obtain ⟨ad118, e118, hx118_0⟩ := Kd.at_int (Kd.V_reads' HO_15.out).2.2 x17_1 p118 q118
                cases e118
                replace p118 := eq_true p118
                replace q118 := eq_true q118
                go_wp2
                go_ret
                exact ⟨by first | rfl | (simp [errV_none, errV_some] <;> rfl) | (simp [*, errV_none, errV_some] <;> rfl), by repeat (first | (with_reducible first | exact HB.out | apply below_alloc | apply pw_below_drewN | apply below_drew1) | exact HB.out)⟩
              · rw [if_neg c8] at H
                have c8b0 : ((wrap64 (x5_1 + 1)) == 9) = false := beq_eq_false_iff_ne.mpr c8
                have c8b1 : ((wrap64 (x5_1 + 1)) != 9) = true := bne_iff_ne.mpr c8
                have H' := Aside0.mk H
                clear H
                have p118 : 0 ≤ (x17_1 : Int) := of_decide_eq_true (by first | (with_reducible assumption) | assumption)
                have q118 : x17_1 < (l0.length : Int) := of_decide_eq_true (by first | (with_reducible assumption) | assumption)
                obtain ⟨ad118, e118, hx118_0⟩ := Kd.at_int (Kd.V_reads' HO_15.out).2.2 x17_1 p118 q118
                cases e118
                replace p118 := eq_true p118
                replace q118 := eq_true q118
                go_wp2
                go_roundg k1
                case measure => have := HK1.out; omega
                case rel => exact ⟨(wrap64 (x5_1 + 1)), (wrap64 (x17_1 + 1)), (by first | rfl | (simp; done) | (simp [*]; done)), (by first | rfl | (simp; done) | (simp [*]; done)), H', ⟨by have := HK1.out; omega⟩, ⟨by (with_reducible repeat (first | apply Kd.V_alloc | apply Kd.V_drewN | apply Kd.V_drew)); exact HO_0.out⟩, ⟨by (with_reducible repeat (first | apply Kd.V_alloc | apply Kd.V_drewN | apply Kd.V_drew)); exact HO_15.out⟩, ⟨by repeat (first | (with_reducible first | exact HB.out | apply below_alloc | apply pw_below_drewN | apply below_drew1) | exact HB.out)⟩⟩
          · rw [if_neg c5] at H
            exact absurd H (by simp)
        · rw [if_neg c4] at H
          exact absurd H (by simp)
      · rw [if_neg c3] at H
        have c3b0 : decide (x17_1 < (l0.length : Int)) = false := decide_eq_false c3
        clear c3
        have H' := Aside0.mk H
        clear H
        go_wp2
        (try simp only [Act.put, List.setIfInBounds_toArray, List.set_cons_zero, List.set_cons_succ])
        go_loopg [0] k1 (fun kq v0 w' => ∃ (x0_2 : List Int), Aside0 (spec_PbOurs.l1 kq x0_2 a1 = some r) ∧ Aside0 (kq ≤ k1) ∧ Aside0 (Kd.V (Kd.int .u8) 5 w' w.heap.size (fun k_ => (P0_ k_ ∨ w.heap.size ≤ k_)) v0 x0_2) ∧ Aside0 (Below w.heap.size w w'))
        case atStart => exact ⟨(l0), H', ⟨Nat.le_refl _⟩, ⟨by (with_reducible repeat (first | apply Kd.V_alloc | apply Kd.V_drewN | apply Kd.V_drew)); exact HO_0.out⟩, ⟨by repeat (first | (with_reducible first | exact HB.out | apply below_alloc | apply pw_below_drewN | apply below_drew1) | exact HB.out)⟩⟩
        case round =>
          clear H'
          try clear c1
          try clear p1
          try clear q1
          try clear hx1
          try clear p2
          try clear c3
          try clear c3b0
          try clear c4
          try clear c4b0
          try clear c5
          try clear c5b0
          try clear c6
          try clear c6b0
          try clear p6
          try clear c7
          try clear c7b0
          try clear c7b1
          try clear c8
          try clear c8b0
          try clear c8b1
          try clear hx118_0
          try clear p118
          try clear p2
          try clear q118
          obtain ⟨x0_2, HA, HK2, HO_0, HB⟩ := hrel
          cases gk with
          | zero => exact absurd HA.out (by simp [spec_PbOurs.l1])
          | succ k2 =>
            have H := HA.out
            clear HA
            simp only [spec_PbOurs.l1] at H
            by_cases c9 : (x0_2.length : Int) > 0
            · rw [if_pos c9] at H
              have c9b0 : decide (0 < (x0_2.length : Int)) = true := decide_eq_true c9
              have c9b1 : decide (0 < x0_2.length) = true := decide_eq_true (by omega)
              clear c9
              replace H := Option.bind_eq_some_iff.mp H
              obtain ⟨⟨t119, t120⟩, A100, H⟩ := H
              replace H : (if t120 = 0 then (some true) else (if (t119 / 8) < 1 then (spec_PbOurs.j2 k2 x0_2 a1 t119 true) else (if (t119 / 8) > a1 then (spec_PbOurs.j2 k2 x0_2 a1 t119 true) else (if (Go.bits .and .u64 t119 7) = 0 then (spec_PbOurs.j2 k2 x0_2 a1 t119 false) else (spec_PbOurs.j2 k2 x0_2 a1 t119 ((Go.bits .and .u64 t119 7) != 2)))))) = some r := H
              have A10 := Aside0.mk A100
              clear A100
              by_cases c11 : t120 = 0
              · rw [if_pos c11] at H
                have c11b0 : (t120 == 0) = true := beq_iff_eq.mpr c11
                have c11b1 : (t120 != 0) = false := bne_eq_false_iff_eq.mpr c11
                clear c11
                obtain rfl := Option.some.inj H
                obtain ⟨Ao12, co12, eo12⟩ := Kd.V_slice HO_0.out
                subst eo12
                go_wp2_with (first | ((with_reducible refine gate_callee (f := 47) rfl ?_); refine goesL_ (some 33) rfl rfl Tryd.func47 (by kernel_rfl) rfl #[.slice Ao12 x0_2.length co12] rfl (by (try simp only [List.map_toArray, List.map_cons, List.map_nil]); first | done | rfl | (simp only [List.length_drop, List.length_take]; rfl)) ?_; (with_reducible refine (spec_ReadUvarint.calls k2 _ _ x0_2 t119 t120 _ ?side1 ?side2 A10.out).mono ?_); (case side1 => repeat (first | exact (Kd.V_reads' HO_0.out).2.2 | (with_reducible refine Kd.C_alloc ?_ _) | (with_reducible refine Kd.C_drewN ?_ _) | (with_reducible refine Kd.C_drew ?_))); (case side2 => exact (Kd.V_reads' HO_0.out).2.1); rintro e w' ⟨rfl, ⟨nd, rfl⟩⟩; refine ⟨_, rfl, ?_⟩))
                go_ret
                exact ⟨by first | rfl | (simp [errV_none, errV_some] <;> rfl) | (simp [*, errV_none, errV_some] <;> rfl), by repeat (first | (with_reducible first | exact HB.out | apply below_alloc | apply pw_below_drewN | apply below_drew1) | exact HB.out)⟩
              · rw [if_neg c11] at H
                have c11b0 : (t120 == 0) = false := beq_eq_false_iff_ne.mpr c11
                have c11b1 : (t120 != 0) = true := bne_iff_ne.mpr c11
                have HC13 := Aside0.mk H
                clear H
                obtain ⟨Ao14, co14, eo14⟩ := Kd.V_slice HO_0.out
                subst eo14
                go_upto_region 15 with (first | ((with_reducible refine gate_callee (f := 47) rfl ?_); refine goesL_ (some 33) rfl rfl Tryd.func47 (by kernel_rfl) rfl #[.slice Ao14 x0_2.length co14] rfl (by (try simp only [List.map_toArray, List.map_cons, List.map_nil]); first | done | rfl | (simp only [List.length_drop, List.length_take]; rfl)) ?_; (with_reducible refine (spec_ReadUvarint.calls k2 _ _ x0_2 t119 t120 _ ?side1 ?side2 A10.out).mono ?_); (case side1 => repeat (first | exact (Kd.V_reads' HO_0.out).2.2 | (with_reducible refine Kd.C_alloc ?_ _) | (with_reducible refine Kd.C_drewN ?_ _) | (with_reducible refine Kd.C_drew ?_))); (case side2 => exact (Kd.V_reads' HO_0.out).2.1); rintro e w' ⟨rfl, ⟨nd, rfl⟩⟩; refine ⟨_, rfl, ?_⟩))
                (try simp only [Act.put, List.setIfInBounds_toArray, List.set_cons_zero, List.set_cons_succ])
                go_cut [56] (fun v56 wc => ∃ (kq : Nat) (x56_12 : Bool), v56 = .bool x56_12 ∧ Aside0 (spec_PbOurs.j2 kq x0_2 a1 t119 x56_12 = some r) ∧ Aside0 (kq ≤ k2) ∧ Aside0 (Kd.V (Kd.int .u8) 5 wc w.heap.size (fun k_ => (P0_ k_ ∨ w.heap.size ≤ k_)) (.slice Ao14 x0_2.length co14) x0_2) ∧ Aside0 (Below w.heap.size w wc))
                case first =>
                  have H := HC13.out
                  clear HC13
                  by_cases c15 : (t119 / 8) < 1
                  · rw [if_pos c15] at H
                    have c15b0 : decide ((t119 / 8) < 1) = true := decide_eq_true c15
                    clear c15
                    (first | rw [c15b0] | (simp only [i64_w, i32_w]; rw [c15b0]) | skip)
                    have H' := Aside0.mk H
                    clear H
                    go_wp2
                    go_meet
                    case rel => exact ⟨_, (true), (by first | rfl | (simp; done) | (simp [*]; done)), H', ⟨by have := HK1.out; have := HK2.out; first | omega | exact Nat.le_refl _⟩, ⟨by (with_reducible repeat (first | apply Kd.V_alloc | apply Kd.V_drewN | apply Kd.V_drew)); exact HO_0.out⟩, ⟨by repeat (first | (with_reducible first | exact HB.out | apply below_alloc | apply pw_below_drewN | apply below_drew1) | exact HB.out)⟩⟩
                  · rw [if_neg c15] at H
                    have c15b0 : decide ((t119 / 8) < 1) = false := decide_eq_false c15
                    clear c15
                    (first | rw [c15b0] | (simp only [i64_w, i32_w]; rw [c15b0]) | skip)
                    by_cases c16 : (t119 / 8) > a1
                    · rw [if_pos c16] at H
                      have c16b0 : decide (a1 < (t119 / 8)) = true := decide_eq_true c16
                      clear c16
                      have H' := Aside0.mk H
                      clear H
                      go_wp2
                      go_meet
                      case rel => exact ⟨_, (true), (by first | rfl | (simp; done) | (simp [*]; done)), H', ⟨by have := HK1.out; have := HK2.out; first | omega | exact Nat.le_refl _⟩, ⟨by (with_reducible repeat (first | apply Kd.V_alloc | apply Kd.V_drewN | apply Kd.V_drew)); exact HO_0.out⟩, ⟨by repeat (first | (with_reducible first | exact HB.out | apply below_alloc | apply pw_below_drewN | apply below_drew1) | exact HB.out)⟩⟩
                    · rw [if_neg c16] at H
                      have c16b0 : decide (a1 < (t119 / 8)) = false := decide_eq_false c16
                      clear c16
                      by_cases c17 : (Go.bits .and .u64 t119 7) = 0
                      · rw [if_pos c17] at H
                        have c17b0 : ((Go.bits .and .u64 t119 7) == 0) = true := beq_iff_eq.mpr c17
                        have c17b1 : ((Go.bits .and .u64 t119 7) != 0) = false := bne_eq_false_iff_eq.mpr c17
                        clear c17
                        have H' := Aside0.mk H
                        clear H
                        go_wp2
                        go_meet
                        case rel => exact ⟨_, (false), (by first | rfl | (simp; done) | (simp [*]; done)), H', ⟨by have := HK1.out; have := HK2.out; first | omega | exact Nat.le_refl _⟩, ⟨by (with_reducible repeat (first | apply Kd.V_alloc | apply Kd.V_drewN | apply Kd.V_drew)); exact HO_0.out⟩, ⟨by repeat (first | (with_reducible first | exact HB.out | apply below_alloc | apply pw_below_drewN | apply below_drew1) | exact HB.out)⟩⟩
                      · rw [if_neg c17] at H
                        have c17b0 : ((Go.bits .and .u64 t119 7) == 0) = false := beq_eq_false_iff_ne.mpr c17
                        have c17b1 : ((Go.bits .and .u64 t119 7) != 0) = true := bne_iff_ne.mpr c17
                        have H' := Aside0.mk H
                        clear H
                        go_wp2
                        go_meet
                        case rel => exact ⟨_, (((Go.bits .and .u64 t119 7) != 2)), (by first | rfl | (simp; done) | (simp [*]; done)), H', ⟨by have := HK1.out; have := HK2.out; first | omega | exact Nat.le_refl _⟩, ⟨by (with_reducible repeat (first | apply Kd.V_alloc | apply Kd.V_drewN | apply Kd.V_drew)); exact HO_0.out⟩, ⟨by repeat (first | (with_reducible first | exact HB.out | apply below_alloc | apply pw_below_drewN | apply below_drew1) | exact HB.out)⟩⟩
                case rest =>
                  clear HC13
                  try clear c1
                  try clear p1
                  try clear q1
                  try clear hx1
                  try clear p2
                  try clear c3
                  try clear c3b0
                  try clear c4
                  try clear c4b0
                  try clear c5
                  try clear c5b0
                  try clear c6
                  try clear c6b0
                  try clear p6
                  try clear c7
                  try clear c7b0
                  try clear c7b1
                  try clear c8
                  try clear c8b0
                  try clear c8b1
                  try clear c9
                  try clear c9b0
                  try clear c9b1
                  try clear c11
                  try clear c11b0
                  try clear c11b1
                  try clear p11
                  try clear q11
                  try clear hx11
                  try clear c15
                  try clear c15b0
                  try clear c16
                  try clear c16b0
                  try clear c17
                  try clear c17b0
                  try clear c17b1
                  try clear hx118_0
                  try clear p1
                  try clear p118
                  try clear p2
                  try clear p6
                  try clear q1
                  try clear q118
                  obtain ⟨kq, x56_12, rfl, HA, HJ12, HO_0, HB⟩ := hcut
                  cases kq with
                  | zero => exact absurd HA.out (by simp [spec_PbOurs.j2])
                  | succ kj12 =>
                    have H := HA.out
                    clear HA
                    simp only [spec_PbOurs.j2] at H
                    by_cases c18 : x56_12 = true
                    · subst c18
                      have H1 : (some false) = some r := by rw [if_pos rfl] at H; exact H
                      clear H
                      have H := H1
                      clear H1
                      obtain rfl := Option.some.inj H
                      go_wp2
                      go_ret
                      exact ⟨by first | rfl | (simp [errV_none, errV_some] <;> rfl) | (simp [*, errV_none, errV_some] <;> rfl), by repeat (first | (with_reducible first | exact HB.out | apply below_alloc | apply pw_below_drewN | apply below_drew1) | exact HB.out)⟩
                    · replace c18 := Bool.eq_false_iff.mpr c18
                      subst c18
                      have H1 : ((spec_pbTake.f kj12 x0_2).bind fun bt121 => (if bt121.2.2.2.2 = 0 then (some true) else (if a1 = 2 then (if t119 = 18 then ((spec_PbOurs.f kj12 bt121.2.2.2.1 3).bind fun t128 => (if t128 = true then (if 0 ≤ bt121.2.2.2.2 then (if bt121.2.2.2.2 ≤ (x0_2.length : Int) then (spec_PbOurs.l1 kj12 (x0_2.drop (bt121.2.2.2.2 : Int).toNat) a1) else (none)) else (none)) else (some false))) else (if 0 ≤ bt121.2.2.2.2 then (if bt121.2.2.2.2 ≤ (x0_2.length : Int) then (spec_PbOurs.l1 kj12 (x0_2.drop (bt121.2.2.2.2 : Int).toNat) a1) else (none)) else (none))) else (if 0 ≤ bt121.2.2.2.2 then (if bt121.2.2.2.2 ≤ (x0_2.length : Int) then (spec_PbOurs.l1 kj12 (x0_2.drop (bt121.2.2.2.2 : Int).toNat) a1) else (none)) else (none))))) = some r := by rw [if_neg (show ¬ (false = true) by decide)] at H; exact H
                      clear H
                      have H := H1
                      clear H1
                      replace H := Option.bind_eq_some_iff.mp H
                      obtain ⟨⟨t121, t122, t123, t124, t127⟩, A190, H⟩ := H
                      replace H : (if t127 = 0 then (some true) else (if a1 = 2 then (if t119 = 18 then ((spec_PbOurs.f kj12 t124 3).bind fun t128 => (if t128 = true then (if 0 ≤ t127 then (if t127 ≤ (x0_2.length : Int) then (spec_PbOurs.l1 kj12 (x0_2.drop (t127 : Int).toNat) a1) else (none)) else (none)) else (some false))) else (if 0 ≤ t127 then (if t127 ≤ (x0_2.length : Int) then (spec_PbOurs.l1 kj12 (x0_2.drop (t127 : Int).toNat) a1) else (none)) else (none))) else (if 0 ≤ t127 then (if t127 ≤ (x0_2.length : Int) then (spec_PbOurs.l1 kj12 (x0_2.drop (t127 : Int).toNat) a1) else (none)) else (none)))) = some r := H
                      have A19 := Aside0.mk A190
                      clear A190
                      by_cases c20 : t127 = 0
                      · rw [if_pos c20] at H
                        have c20b0 : (t127 == 0) = true := beq_iff_eq.mpr c20
                        have c20b1 : (t127 != 0) = false := bne_eq_false_iff_eq.mpr c20
                        clear c20
                        obtain rfl := Option.some.inj H
                        go_wp2_with (first | ((with_reducible refine gate_callee (f := 48) rfl ?_); refine goesL_ (some 59) rfl rfl Tryd.func48 (by kernel_rfl) rfl #[.slice Ao14 x0_2.length co14] rfl (by (try simp only [List.map_toArray, List.map_cons, List.map_nil]); first | done | rfl | (simp only [List.length_drop, List.length_take]; rfl)) ?_; (with_reducible refine (spec_pbTake.calls kj12 (fun k_ => (P0_ k_ ∨ w.heap.size ≤ k_)) _ _ x0_2 t121 t122 t123 t124 t127 _ ?side1 A19.out).mono ?_); (case side1 => exact HO_0.out); rintro e w21 ⟨v125, rfl, ho0, hb⟩; refine ⟨_, rfl, ?_⟩; have n0_ := Aside0.mk (Kd.V_below (by (with_reducible repeat (first | apply Kd.V_alloc | apply Kd.V_drewN | apply Kd.V_drew)); exact HO_0.out) hb); have n1_ := Aside0.mk (Kd.V_lower (Kd.V_mono (ok' := fun k_ => (P0_ k_ ∨ w.heap.size ≤ k_)) ho0 (fun k_ hk_ => Or.elim hk_ (fun hs_ => hs_) (fun hn_ => (.inr (Nat.le_trans (below_size (by repeat (first | (with_reducible first | exact HB.out | apply below_alloc | apply pw_below_drewN | apply below_drew1) | exact HB.out))) hn_))))) (below_size (by repeat (first | (with_reducible first | exact HB.out | apply below_alloc | apply pw_below_drewN | apply below_drew1) | exact HB.out)))); have n2_ := Aside0.mk (below_step (by repeat (first | (with_reducible first | exact HB.out | apply below_alloc | apply pw_below_drewN | apply below_drew1) | exact HB.out)) hb); clear HO_0; clear HB; have HO_0 := n0_; have HO126 := n1_; have HB := n2_; clear n0_ n1_ n2_; (try clear hb); (try clear hb2); (try clear hk); (try clear hi); (try clear ho0)))
                        go_ret
                        exact ⟨by first | rfl | (simp [errV_none, errV_some] <;> rfl) | (simp [*, errV_none, errV_some] <;> rfl), by repeat (first | (with_reducible first | exact HB.out | apply below_alloc | apply pw_below_drewN | apply below_drew1) | exact HB.out)⟩
                      · rw [if_neg c20] at H
                        have c20b0 : (t127 == 0) = false := beq_eq_false_iff_ne.mpr c20
                        have c20b1 : (t127 != 0) = true := bne_iff_ne.mpr c20
                        by_cases c22 : a1 = 2
                        · rw [if_pos c22] at H
                          have c22b0 : (a1 == 2) = true := beq_iff_eq.mpr c22
                          have c22b1 : (a1 != 2) = false := bne_eq_false_iff_eq.mpr c22
                          clear c22
                          by_cases c23 : t119 = 18
                          · rw [if_pos c23] at H
                            have c23b0 : (t119 == 18) = true := beq_iff_eq.mpr c23
                            have c23b1 : (t119 != 18) = false := bne_eq_false_iff_eq.mpr c23
                            clear c23
                            replace H := Option.bind_eq_some_iff.mp H
                            obtain ⟨t128, A240, H⟩ := H
                            replace H : (if t128 = true then (if 0 ≤ t127 then (if t127 ≤ (x0_2.length : Int) then (spec_PbOurs.l1 kj12 (x0_2.drop (t127 : Int).toNat) a1) else (none)) else (none)) else (some false)) = some r := H
                            have A24 := Aside0.mk A240
                            clear A240
                            by_cases c25 : t128 = true
                            · subst c25
                              have H1 : (if 0 ≤ t127 then (if t127 ≤ (x0_2.length : Int) then (spec_PbOurs.l1 kj12 (x0_2.drop (t127 : Int).toNat) a1) else (none)) else (none)) = some r := by rw [if_pos rfl] at H; exact H
                              clear H
                              have H := H1
                              clear H1
                              by_cases c26 : 0 ≤ t127
                              · rw [if_pos c26] at H
                                have c26b0 := eq_true c26
                                have c26b1 : decide (0 ≤ t127) = true := decide_eq_true c26
                                clear c26
                                by_cases c27 : t127 ≤ (x0_2.length : Int)
                                · rw [if_pos c27] at H
                                  have c27b0 := eq_true c27
                                  have c27b1 : decide (t127 ≤ (x0_2.length : Int)) = true := decide_eq_true c27
                                  clear c27
                                  obtain ⟨y129, hy129⟩ : ∃ y_ : List Int, y_ = (x0_2.drop (t127 : Int).toNat) := ⟨_, rfl⟩
                                  replace H : (spec_PbOurs.l1 kj12 y129 a1) = some r := by first | (rw [hy129]; with_reducible exact H) | (have H2_ := (Option.bind_some _ _).symm.trans H; rw [hy129]; with_reducible exact H2_) | (have H2_ := (Option.bind_some _ _).symm.trans H; with_reducible exact H2_) | with_reducible exact H | (rw [hy129]; exact H) | exact H
                                  have Ny129 := Aside0.mk hy129
                                  clear hy129
                                  have H' := Aside0.mk H
                                  clear H
                                  go_wp2_with (first | ((with_reducible refine gate_callee (f := 48) rfl ?_); refine goesL_ (some 59) rfl rfl Tryd.func48 (by kernel_rfl) rfl #[.slice Ao14 x0_2.length co14] rfl (by (try simp only [List.map_toArray, List.map_cons, List.map_nil]); first | done | rfl | (simp only [List.length_drop, List.length_take]; rfl)) ?_; (with_reducible refine (spec_pbTake.calls kj12 (fun k_ => (P0_ k_ ∨ w.heap.size ≤ k_)) _ _ x0_2 t121 t122 t123 t124 t127 _ ?side1 A19.out).mono ?_); (case side1 => exact HO_0.out); rintro e w28 ⟨v125, rfl, ho0, hb⟩; refine ⟨_, rfl, ?_⟩; have n0_ := Aside0.mk (Kd.V_below (by (with_reducible repeat (first | apply Kd.V_alloc | apply Kd.V_drewN | apply Kd.V_drew)); exact HO_0.out) hb); have n1_ := Aside0.mk (Kd.V_lower (Kd.V_mono (ok' := fun k_ => (P0_ k_ ∨ w.heap.size ≤ k_)) ho0 (fun k_ hk_ => Or.elim hk_ (fun hs_ => hs_) (fun hn_ => (.inr (Nat.le_trans (below_size (by repeat (first | (with_reducible first | exact HB.out | apply below_alloc | apply pw_below_drewN | apply below_drew1) | exact HB.out))) hn_))))) (below_size (by repeat (first | (with_reducible first | exact HB.out | apply below_alloc | apply pw_below_drewN | apply below_drew1) | exact HB.out)))); have n2_ := Aside0.mk (below_step (by repeat (first | (with_reducible first | exact HB.out | apply below_alloc | apply pw_below_drewN | apply below_drew1) | exact HB.out)) hb); clear HO_0; clear HB; have HO_0 := n0_; have HO126 := n1_; have HB := n2_; clear n0_ n1_ n2_; (try clear hb); (try clear hb2); (try clear hk); (try clear hi); (try clear ho0); obtain ⟨Ao29, co29, eo29⟩ := Kd.V_slice HO126.out; subst eo29) | (go_at_call 11; (with_reducible refine (ih kj12 (by have := HK1.out; have := HK2.out; have := HJ12.out; omega) (fun k_ => (P0_ k_ ∨ w.heap.size ≤ k_)) _ _ t124 3 true _ ?side1 A24.out).mono ?_); (case side1 => exact HO126.out); rintro e w30 ⟨rfl, hb⟩; have n0_ := Aside0.mk (Kd.V_below (by (with_reducible repeat (first | apply Kd.V_alloc | apply Kd.V_drewN | apply Kd.V_drew)); exact HO_0.out) hb); have n1_ := Aside0.mk (Kd.V_below (by (with_reducible repeat (first | apply Kd.V_alloc | apply Kd.V_drewN | apply Kd.V_drew)); exact HO126.out) hb); have n2_ := Aside0.mk (below_step (by repeat (first | (with_reducible first | exact HB.out | apply below_alloc | apply pw_below_drewN | apply below_drew1) | exact HB.out)) hb); clear HO_0; clear HO126; clear HB; have HO_0 := n0_; have HO126 := n1_; have HB := n2_; clear n0_ n1_ n2_; (try clear hb); (try clear hb2); (try clear hk); (try clear hi); have q31 : (t127 : Int) ≤ ((x0_2.length : Int) : Int) := of_decide_eq_true (by first | (with_reducible assumption) | assumption); obtain ⟨i031, hi031, _, hsz31, _⟩ := info_parts info5; have hroom31 : x0_2.length ≤ co14 := (Kd.V_reads' HO_0.out).2.1; have hC31 : Kd.F (Kd.int .u8) _ _ Ao14 x0_2.length x0_2 := (Kd.V_at (base := w.heap.size) HO_0.out).2.2; have q031 : (0 : Int) ≤ (t127 : Int) := of_decide_eq_true (by first | (with_reducible assumption) | assumption); have hcut31 := cut_from (P := Tryd.prog) 22 5 .i64 Tryd.underlying22 hi031 1 hsz31 Ao14 x0_2.length co14 t127 q031 q31; have hr31 := Kd.F_cut (m := (t127 : Int).toNat) (c := co14) hC31 (by omega) hroom31; obtain ⟨A31, hA31⟩ : ∃ A1, A1 = (if co14 = (t127 : Int).toNat then Ao14 else (Ao14 : Option Addr).map (·.add ((t127 : Int).toNat * 1))) := ⟨_, rfl⟩; obtain ⟨c31, hc31⟩ : ∃ c1, c1 = co14 - (t127 : Int).toNat := ⟨_, rfl⟩; have hy31 : y129.length = x0_2.length - (t127 : Int).toNat := (by rw [Ny129.out, List.length_drop] <;> omega); rw [show (x0_2).drop (t127 : Int).toNat = y129 from Ny129.out.symm] at hr31; replace hr31 : Kd.F (Kd.int .u8) _ _ A31 y129.length y129 := (by rw [hA31]; exact hr31); rw [← hy31, ← hA31, ← hc31] at hcut31; have HO133 := Aside0.mk (show Kd.V (Kd.int .u8) 5 _ w.heap.size _ (.slice A31 y129.length c31) y129 from Kd.V_mk (by rw [hy31, hc31]; exact Nat.sub_le_sub_right hroom31 _) hr31); have HC133 := Aside0.mk (show y129.length ≤ c31 from by rw [hy31, hc31]; exact Nat.sub_le_sub_right hroom31 _); clear hr31 hC31 hroom31 hi031 hsz31 hc31; have KY31 := Aside0.mk hy31; have KA31 := Aside0.mk hA31; clear hy31 hA31; replace q31 := eq_true q31))
                                  go_roundg kj12
                                  case measure => have := HK1.out; have := HK2.out; have := HJ12.out; omega
                                  case rel => exact ⟨(y129), H', ⟨by have := HK1.out; have := HK2.out; have := HJ12.out; omega⟩, ⟨by (with_reducible repeat (first | apply Kd.V_alloc | apply Kd.V_drewN | apply Kd.V_drew)); exact HO133.out⟩, ⟨by repeat (first | (with_reducible first | exact HB.out | apply below_alloc | apply pw_below_drewN | apply below_drew1) | exact HB.out)⟩⟩
                                · rw [if_neg c27] at H
                                  exact absurd H (by simp)
                              · rw [if_neg c26] at H
                                exact absurd H (by simp)
                            · replace c25 := Bool.eq_false_iff.mpr c25
                              subst c25
                              have H1 : (some false) = some r := by rw [if_neg (show ¬ (false = true) by decide)] at H; exact H
                              clear H
                              have H := H1
                              clear H1
                              obtain rfl := Option.some.inj H
                              go_wp2_with (first | ((with_reducible refine gate_callee (f := 48) rfl ?_); refine goesL_ (some 59) rfl rfl Tryd.func48 (by kernel_rfl) rfl #[.slice Ao14 x0_2.length co14] rfl (by (try simp only [List.map_toArray, List.map_cons, List.map_nil]); first | done | rfl | (simp only [List.length_drop, List.length_take]; rfl)) ?_; (with_reducible refine (spec_pbTake.calls kj12 (fun k_ => (P0_ k_ ∨ w.heap.size ≤ k_)) _ _ x0_2 t121 t122 t123 t124 t127 _ ?side1 A19.out).mono ?_); (case side1 => exact HO_0.out); rintro e w32 ⟨v125, rfl, ho0, hb⟩; refine ⟨_, rfl, ?_⟩; have n0_ := Aside0.mk (Kd.V_below (by (with_reducible repeat (first | apply Kd.V_alloc | apply Kd.V_drewN | apply Kd.V_drew)); exact HO_0.out) hb); have n1_ := Aside0.mk (Kd.V_lower (Kd.V_mono (ok' := fun k_ => (P0_ k_ ∨ w.heap.size ≤ k_)) ho0 (fun k_ hk_ => Or.elim hk_ (fun hs_ => hs_) (fun hn_ => (.inr (Nat.le_trans (below_size (by repeat (first | (with_reducible first | exact HB.out | apply below_alloc | apply pw_below_drewN | apply below_drew1) | exact HB.out))) hn_))))) (below_size (by repeat (first | (with_reducible first | exact HB.out | apply below_alloc | apply pw_below_drewN | apply below_drew1) | exact HB.out)))); have n2_ := Aside0.mk (below_step (by repeat (first | (with_reducible first | exact HB.out | apply below_alloc | apply pw_below_drewN | apply below_drew1) | exact HB.out)) hb); clear HO_0; clear HB; have HO_0 := n0_; have HO126 := n1_; have HB := n2_; clear n0_ n1_ n2_; (try clear hb); (try clear hb2); (try clear hk); (try clear hi); (try clear ho0); obtain ⟨Ao33, co33, eo33⟩ := Kd.V_slice HO126.out; subst eo33) | (go_at_call 11; (with_reducible refine (ih kj12 (by have := HK1.out; have := HK2.out; have := HJ12.out; omega) (fun k_ => (P0_ k_ ∨ w.heap.size ≤ k_)) _ _ t124 3 false _ ?side1 A24.out).mono ?_); (case side1 => exact HO126.out); rintro e w34 ⟨rfl, hb⟩; have n0_ := Aside0.mk (Kd.V_below (by (with_reducible repeat (first | apply Kd.V_alloc | apply Kd.V_drewN | apply Kd.V_drew)); exact HO_0.out) hb); have n1_ := Aside0.mk (Kd.V_below (by (with_reducible repeat (first | apply Kd.V_alloc | apply Kd.V_drewN | apply Kd.V_drew)); exact HO126.out) hb); have n2_ := Aside0.mk (below_step (by repeat (first | (with_reducible first | exact HB.out | apply below_alloc | apply pw_below_drewN | apply below_drew1) | exact HB.out)) hb); clear HO_0; clear HO126; clear HB; have HO_0 := n0_; have HO126 := n1_; have HB := n2_; clear n0_ n1_ n2_; (try clear hb); (try clear hb2); (try clear hk); (try clear hi)))
                              go_ret
                              exact ⟨by first | rfl | (simp [errV_none, errV_some] <;> rfl) | (simp [*, errV_none, errV_some] <;> rfl), by repeat (first | (with_reducible first | exact HB.out | apply below_alloc | apply pw_below_drewN | apply below_drew1) | exact HB.out)⟩
                          · rw [if_neg c23] at H
                            have c23b0 : (t119 == 18) = false := beq_eq_false_iff_ne.mpr c23
                            have c23b1 : (t119 != 18) = true := bne_iff_ne.mpr c23
                            by_cases c35 : 0 ≤ t127
                            · rw [if_pos c35] at H
                              have c35b0 := eq_true c35
                              have c35b1 : decide (0 ≤ t127) = true := decide_eq_true c35
                              clear c35
                              by_cases c36 : t127 ≤ (x0_2.length : Int)
                              · rw [if_pos c36] at H
                                have c36b0 := eq_true c36
                                have c36b1 : decide (t127 ≤ (x0_2.length : Int)) = true := decide_eq_true c36
                                clear c36
                                obtain ⟨y134, hy134⟩ : ∃ y_ : List Int, y_ = (x0_2.drop (t127 : Int).toNat) := ⟨_, rfl⟩
                                replace H : (spec_PbOurs.l1 kj12 y134 a1) = some r := by first | (rw [hy134]; with_reducible exact H) | (have H2_ := (Option.bind_some _ _).symm.trans H; rw [hy134]; with_reducible exact H2_) | (have H2_ := (Option.bind_some _ _).symm.trans H; with_reducible exact H2_) | with_reducible exact H | (rw [hy134]; exact H) | exact H
                                have Ny134 := Aside0.mk hy134
                                clear hy134
                                have H' := Aside0.mk H
                                clear H
                                go_wp2_with (first | ((with_reducible refine gate_callee (f := 48) rfl ?_); refine goesL_ (some 59) rfl rfl Tryd.func48 (by kernel_rfl) rfl #[.slice Ao14 x0_2.length co14] rfl (by (try simp only [List.map_toArray, List.map_cons, List.map_nil]); first | done | rfl | (simp only [List.length_drop, List.length_take]; rfl)) ?_; (with_reducible refine (spec_pbTake.calls kj12 (fun k_ => (P0_ k_ ∨ w.heap.size ≤ k_)) _ _ x0_2 t121 t122 t123 t124 t127 _ ?side1 A19.out).mono ?_); (case side1 => exact HO_0.out); rintro e w37 ⟨v125, rfl, ho0, hb⟩; refine ⟨_, rfl, ?_⟩; have n0_ := Aside0.mk (Kd.V_below (by (with_reducible repeat (first | apply Kd.V_alloc | apply Kd.V_drewN | apply Kd.V_drew)); exact HO_0.out) hb); have n1_ := Aside0.mk (Kd.V_lower (Kd.V_mono (ok' := fun k_ => (P0_ k_ ∨ w.heap.size ≤ k_)) ho0 (fun k_ hk_ => Or.elim hk_ (fun hs_ => hs_) (fun hn_ => (.inr (Nat.le_trans (below_size (by repeat (first | (with_reducible first | exact HB.out | apply below_alloc | apply pw_below_drewN | apply below_drew1) | exact HB.out))) hn_))))) (below_size (by repeat (first | (with_reducible first | exact HB.out | apply below_alloc | apply pw_below_drewN | apply below_drew1) | exact HB.out)))); have n2_ := Aside0.mk (below_step (by repeat (first | (with_reducible first | exact HB.out | apply below_alloc | apply pw_below_drewN | apply below_drew1) | exact HB.out)) hb); clear HO_0; clear HB; have HO_0 := n0_; have HO126 := n1_; have HB := n2_; clear n0_ n1_ n2_; (try clear hb); (try clear hb2); (try clear hk); (try clear hi); (try clear ho0); have q38 : (t127 : Int) ≤ ((x0_2.length : Int) : Int) := of_decide_eq_true (by first | (with_reducible assumption) | assumption); obtain ⟨i038, hi038, _, hsz38, _⟩ := info_parts info5; have hroom38 : x0_2.length ≤ co14 := (Kd.V_reads' HO_0.out).2.1; have hC38 : Kd.F (Kd.int .u8) _ _ Ao14 x0_2.length x0_2 := (Kd.V_at (base := w.heap.size) HO_0.out).2.2; have q038 : (0 : Int) ≤ (t127 : Int) := of_decide_eq_true (by first | (with_reducible assumption) | assumption); have hcut38 := cut_from (P := Tryd.prog) 22 5 .i64 Tryd.underlying22 hi038 1 hsz38 Ao14 x0_2.length co14 t127 q038 q38; have hr38 := Kd.F_cut (m := (t127 : Int).toNat) (c := co14) hC38 (by omega) hroom38; obtain ⟨A38, hA38⟩ : ∃ A1, A1 = (if co14 = (t127 : Int).toNat then Ao14 else (Ao14 : Option Addr).map (·.add ((t127 : Int).toNat * 1))) := ⟨_, rfl⟩; obtain ⟨c38, hc38⟩ : ∃ c1, c1 = co14 - (t127 : Int).toNat := ⟨_, rfl⟩; have hy38 : y134.length = x0_2.length - (t127 : Int).toNat := (by rw [Ny134.out, List.length_drop] <;> omega); rw [show (x0_2).drop (t127 : Int).toNat = y134 from Ny134.out.symm] at hr38; replace hr38 : Kd.F (Kd.int .u8) _ _ A38 y134.length y134 := (by rw [hA38]; exact hr38); rw [← hy38, ← hA38, ← hc38] at hcut38; have HO138 := Aside0.mk (show Kd.V (Kd.int .u8) 5 _ w.heap.size _ (.slice A38 y134.length c38) y134 from Kd.V_mk (by rw [hy38, hc38]; exact Nat.sub_le_sub_right hroom38 _) hr38); have HC138 := Aside0.mk (show y134.length ≤ c38 from by rw [hy38, hc38]; exact Nat.sub_le_sub_right hroom38 _); clear hr38 hC38 hroom38 hi038 hsz38 hc38; have KY38 := Aside0.mk hy38; have KA38 := Aside0.mk hA38; clear hy38 hA38; replace q38 := eq_true q38))
                                go_roundg kj12
                                case measure => have := HK1.out; have := HK2.out; have := HJ12.out; omega
                                case rel => exact ⟨(y134), H', ⟨by have := HK1.out; have := HK2.out; have := HJ12.out; omega⟩, ⟨by (with_reducible repeat (first | apply Kd.V_alloc | apply Kd.V_drewN | apply Kd.V_drew)); exact HO138.out⟩, ⟨by repeat (first | (with_reducible first | exact HB.out | apply below_alloc | apply pw_below_drewN | apply below_drew1) | exact HB.out)⟩⟩
                              · rw [if_neg c36] at H
                                exact absurd H (by simp)
                            · rw [if_neg c35] at H
                              exact absurd H (by simp)
                        · rw [if_neg c22] at H
                          have c22b0 : (a1 == 2) = false := beq_eq_false_iff_ne.mpr c22
                          have c22b1 : (a1 != 2) = true := bne_iff_ne.mpr c22
                          by_cases c39 : 0 ≤ t127
                          · rw [if_pos c39] at H
                            have c39b0 := eq_true c39
                            have c39b1 : decide (0 ≤ t127) = true := decide_eq_true c39
                            clear c39
                            by_cases c40 : t127 ≤ (x0_2.length : Int)
                            · rw [if_pos c40] at H
                              have c40b0 := eq_true c40
                              have c40b1 : decide (t127 ≤ (x0_2.length : Int)) = true := decide_eq_true c40
                              clear c40
                              obtain ⟨y139, hy139⟩ : ∃ y_ : List Int, y_ = (x0_2.drop (t127 : Int).toNat) := ⟨_, rfl⟩
                              replace H : (spec_PbOurs.l1 kj12 y139 a1) = some r := by first | (rw [hy139]; with_reducible exact H) | (have H2_ := (Option.bind_some _ _).symm.trans H; rw [hy139]; with_reducible exact H2_) | (have H2_ := (Option.bind_some _ _).symm.trans H; with_reducible exact H2_) | with_reducible exact H | (rw [hy139]; exact H) | exact H
                              have Ny139 := Aside0.mk hy139
                              clear hy139
                              have H' := Aside0.mk H
                              clear H
                              go_wp2_with (first | ((with_reducible refine gate_callee (f := 48) rfl ?_); refine goesL_ (some 59) rfl rfl Tryd.func48 (by kernel_rfl) rfl #[.slice Ao14 x0_2.length co14] rfl (by (try simp only [List.map_toArray, List.map_cons, List.map_nil]); first | done | rfl | (simp only [List.length_drop, List.length_take]; rfl)) ?_; (with_reducible refine (spec_pbTake.calls kj12 (fun k_ => (P0_ k_ ∨ w.heap.size ≤ k_)) _ _ x0_2 t121 t122 t123 t124 t127 _ ?side1 A19.out).mono ?_); (case side1 => exact HO_0.out); rintro e w41 ⟨v125, rfl, ho0, hb⟩; refine ⟨_, rfl, ?_⟩; have n0_ := Aside0.mk (Kd.V_below (by (with_reducible repeat (first | apply Kd.V_alloc | apply Kd.V_drewN | apply Kd.V_drew)); exact HO_0.out) hb); have n1_ := Aside0.mk (Kd.V_lower (Kd.V_mono (ok' := fun k_ => (P0_ k_ ∨ w.heap.size ≤ k_)) ho0 (fun k_ hk_ => Or.elim hk_ (fun hs_ => hs_) (fun hn_ => (.inr (Nat.le_trans (below_size (by repeat (first | (with_reducible first | exact HB.out | apply below_alloc | apply pw_below_drewN | apply below_drew1) | exact HB.out))) hn_))))) (below_size (by repeat (first | (with_reducible first | exact HB.out | apply below_alloc | apply pw_below_drewN | apply below_drew1) | exact HB.out)))); have n2_ := Aside0.mk (below_step (by repeat (first | (with_reducible first | exact HB.out | apply below_alloc | apply pw_below_drewN | apply below_drew1) | exact HB.out)) hb); clear HO_0; clear HB; have HO_0 := n0_; have HO126 := n1_; have HB := n2_; clear n0_ n1_ n2_; (try clear hb); (try clear hb2); (try clear hk); (try clear hi); (try clear ho0); have q42 : (t127 : Int) ≤ ((x0_2.length : Int) : Int) := of_decide_eq_true (by first | (with_reducible assumption) | assumption); obtain ⟨i042, hi042, _, hsz42, _⟩ := info_parts info5; have hroom42 : x0_2.length ≤ co14 := (Kd.V_reads' HO_0.out).2.1; have hC42 : Kd.F (Kd.int .u8) _ _ Ao14 x0_2.length x0_2 := (Kd.V_at (base := w.heap.size) HO_0.out).2.2; have q042 : (0 : Int) ≤ (t127 : Int) := of_decide_eq_true (by first | (with_reducible assumption) | assumption); have hcut42 := cut_from (P := Tryd.prog) 22 5 .i64 Tryd.underlying22 hi042 1 hsz42 Ao14 x0_2.length co14 t127 q042 q42; have hr42 := Kd.F_cut (m := (t127 : Int).toNat) (c := co14) hC42 (by omega) hroom42; obtain ⟨A42, hA42⟩ : ∃ A1, A1 = (if co14 = (t127 : Int).toNat then Ao14 else (Ao14 : Option Addr).map (·.add ((t127 : Int).toNat * 1))) := ⟨_, rfl⟩; obtain ⟨c42, hc42⟩ : ∃ c1, c1 = co14 - (t127 : Int).toNat := ⟨_, rfl⟩; have hy42 : y139.length = x0_2.length - (t127 : Int).toNat := (by rw [Ny139.out, List.length_drop] <;> omega); rw [show (x0_2).drop (t127 : Int).toNat = y139 from Ny139.out.symm] at hr42; replace hr42 : Kd.F (Kd.int .u8) _ _ A42 y139.length y139 := (by rw [hA42]; exact hr42); rw [← hy42, ← hA42, ← hc42] at hcut42; have HO143 := Aside0.mk (show Kd.V (Kd.int .u8) 5 _ w.heap.size _ (.slice A42 y139.length c42) y139 from Kd.V_mk (by rw [hy42, hc42]; exact Nat.sub_le_sub_right hroom42 _) hr42); have HC143 := Aside0.mk (show y139.length ≤ c42 from by rw [hy42, hc42]; exact Nat.sub_le_sub_right hroom42 _); clear hr42 hC42 hroom42 hi042 hsz42 hc42; have KY42 := Aside0.mk hy42; have KA42 := Aside0.mk hA42; clear hy42 hA42; replace q42 := eq_true q42))
                              go_roundg kj12
                              case measure => have := HK1.out; have := HK2.out; have := HJ12.out; omega
                              case rel => exact ⟨(y139), H', ⟨by have := HK1.out; have := HK2.out; have := HJ12.out; omega⟩, ⟨by (with_reducible repeat (first | apply Kd.V_alloc | apply Kd.V_drewN | apply Kd.V_drew)); exact HO143.out⟩, ⟨by repeat (first | (with_reducible first | exact HB.out | apply below_alloc | apply pw_below_drewN | apply below_drew1) | exact HB.out)⟩⟩
                            · rw [if_neg c40] at H
                              exact absurd H (by simp)
                          · rw [if_neg c39] at H
                            exact absurd H (by simp)
            · rw [if_neg c9] at H
              have c9b0 : decide (0 < (x0_2.length : Int)) = false := decide_eq_false c9
              have c9b1 : decide (0 < x0_2.length) = false := decide_eq_false (by omega)
              clear c9
              obtain rfl := Option.some.inj H
              obtain ⟨Ao43, co43, eo43⟩ := Kd.V_slice HO_0.out
              subst eo43
              go_wp2
              go_ret
              exact ⟨by first | rfl | (simp [errV_none, errV_some] <;> rfl) | (simp [*, errV_none, errV_some] <;> rfl), by repeat (first | (with_reducible first | exact HB.out | apply below_alloc | apply pw_below_drewN | apply below_drew1) | exact HB.out)⟩

end Go.Proofs.YtnhnlodmkbiiiaaDoor.PPbShare
