/- Printed by a program of this session (it drives the print of the kit, with contracts proved by hand beside): the Go functions of one law as Lean functions, and that the Go code comes to what they say. -/
import Derived.Test.YtbmeegkgcipmoaaDoorPFnBitsSetx0
import Derived.Test.YtbmeegkgcipmoaaDoorPFnBitsSetx5
namespace Go.Proofs.YtbmeegkgcipmoaaDoor.PFnBitsSet
open Go.RowKit Go.Proofs.YtbmeegkgcipmoaaDoorL Go.Proofs.YtbmeegkgcipmoaaDoorW.PrintWords Go.Proofs.YtbmeegkgcipmoaaDoorW.PrintLast Go.Proofs.YtbmeegkgcipmoaaDoorW.PrintMore
attribute [local go_sem] max2_int min2_int max_two min_two max_three min_three max_four min_four   -- for this text's walks alone
set_option linter.unusedVariables false
set_option linter.unusedSimpArgs false

/-! ### bytes_TrimLeft: function 18 -/
def bytes_TrimLeft.j0 : Nat → List Int → ByteArray → Bool → Option (List Int)
  | 0, _, _, _ => none
  | k + 1, x0, x1, x20 => if x20 = true then (if 0 < (x1.size : Int) then ((bytes_trimLeftByte.f k x0 (bt x1 0)).bind fun t158 => (some t158)) else (none)) else (none)
def bytes_TrimLeft.f (k : Nat) (l0 : List Int) (a1 : ByteArray) : Option (List Int) := if (l0.length : Int) = 0 then (some ([] : List Int)) else (if a1.toList = ([] : List UInt8) then (some l0) else (if (a1.size : Int) = 1 then (if 0 < (a1.size : Int) then (bytes_TrimLeft.j0 k l0 a1 (decide ((bt a1 0) < 128))) else (none)) else (bytes_TrimLeft.j0 k l0 a1 false)))
theorem bytes_TrimLeft.mono_l : ∀ k, (∀ y0 y1 y2, LeO (bytes_TrimLeft.j0 k y0 y1 y2) (bytes_TrimLeft.j0 (k + 1) y0 y1 y2))
  | 0 => fun _ _ _ r h => by simp [bytes_TrimLeft.j0] at h
  | k + 1 => by
    have ih0 := bytes_TrimLeft.mono_l k
    · intro y0 y1 y2
      unfold bytes_TrimLeft.j0
      repeat' first
      | (with_reducible exact ih0 _ _ _)
      | (with_reducible exact bytes_trimLeftByte.mono _ _ _)
      | (with_reducible exact LeO.refl _)
      | (with_reducible exact LeO.none _)
      | (with_reducible refine LeO.ite ?_ ?_)
      | (with_reducible refine LeO.bind ?_ (fun _ => ?_))
      | exact ih0 _ _ _
      | exact bytes_trimLeftByte.mono _ _ _
      | exact LeO.none _
      | refine LeO.ite ?_ ?_
      | refine LeO.bind ?_ (fun _ => ?_)
theorem bytes_TrimLeft.mono : ∀ a0 a1 k, LeO (bytes_TrimLeft.f k a0 a1) (bytes_TrimLeft.f (k + 1) a0 a1) := by
  intro a0 a1 k
  have ih0 := bytes_TrimLeft.mono_l k
  unfold bytes_TrimLeft.f
  repeat' first
      | (with_reducible exact ih0 _ _ _)
      | (with_reducible exact bytes_trimLeftByte.mono _ _ _)
      | (with_reducible exact LeO.refl _)
      | (with_reducible exact LeO.none _)
      | (with_reducible refine LeO.ite ?_ ?_)
      | (with_reducible refine LeO.bind ?_ (fun _ => ?_))
      | exact ih0 _ _ _
      | exact bytes_trimLeftByte.mono _ _ _
      | exact LeO.none _
      | refine LeO.ite ?_ ?_
      | refine LeO.bind ?_ (fun _ => ?_)
set_option maxHeartbeats 8000000 in
set_option maxRecDepth 100000 in
theorem bytes_TrimLeft.calls (k : Nat) (P0_ : Nat → Prop) (u9000_ : Value) (l0 : List Int) (a1 : ByteArray) (r : List Int) (w0 w : World) (hB : Below w0.heap.size w0 w) (ho0 : Kd.R (Kd.int .u8) 5 w w0.heap.size P0_ u9000_ l0) (h : bytes_TrimLeft.f k l0 a1 = some r) :
    Calls Tryd.prog 18 #[u9000_, .string a1] w fun e w' => ∃ v0_ : Value, e = .returned (v0_) ∧ Kd.V (Kd.int .u8) 5 w' w0.heap.size (fun k_ => (P0_ k_ ∨ w.heap.size ≤ k_)) v0_ r ∧ Below w0.heap.size w0 w' ∧ Kept w w' (fun k_ => P0_ k_) := by
  have HO0 := Aside0.mk (show Kd.R (Kd.int .u8) 5 w w0.heap.size (fun k_ => (P0_ k_ ∨ w.heap.size ≤ k_)) u9000_ l0 from Kd.R_mono ho0 (fun k_ hk => (.inl hk)))
  have HK := Aside0.mk (Kept.refl w (fun k_ => P0_ k_))
  have HW0 := Aside0.mk hB.size
  have HB := Aside0.mk hB
  clear hB
  have H : (if (l0.length : Int) = 0 then (some ([] : List Int)) else (if a1.toList = ([] : List UInt8) then (some l0) else (if (a1.size : Int) = 1 then (if 0 < (a1.size : Int) then (bytes_TrimLeft.j0 k l0 a1 (decide ((bt a1 0) < 128))) else (none)) else (bytes_TrimLeft.j0 k l0 a1 false)))) = some r := h
  clear h
  by_cases c3 : (l0.length : Int) = 0
  · rw [if_pos c3] at H
    have c3b0 : ((l0.length : Int) == 0) = true := beq_iff_eq.mpr c3
    have c3b1 : ((l0.length : Int) != 0) = false := bne_eq_false_iff_eq.mpr c3
    clear c3
    obtain rfl := Option.some.inj H
    obtain ⟨Ao4, co4, eo4⟩ := Kd.R_slice HO0.out
    subst eo4
    go_enter Tryd.func18, Tryd.ntmps18
    go_wp2
    go_ret
    exact ⟨_, by first | rfl | (simp [errV_none, errV_some] <;> rfl) | (simp [*, errV_none, errV_some] <;> rfl), by first | exact Kd.V_nil _ _ _ _ _ | exact Kd.R_V (Kd.R_nil _ _ _ _ _), by repeat (first | (with_reducible first | exact HB.out | apply below_alloc | apply pw_below_drewN | apply below_drew1) | exact HB.out), by repeat (first | (with_reducible first | exact HK.out | apply Kept.alloc | apply Kept.drewN | apply Kept.drew) | exact HK.out)⟩
  · rw [if_neg c3] at H
    have c3b0 : ((l0.length : Int) == 0) = false := beq_eq_false_iff_ne.mpr c3
    have c3b1 : ((l0.length : Int) != 0) = true := bne_iff_ne.mpr c3
    have c3b2 : ¬ (l0 = []) := fun h_ => c3 (by rw [h_]; rfl)
    by_cases c5 : a1.toList = ([] : List UInt8)
    · rw [if_pos c5] at H
      have c5b0 : (a1.toList == ([] : List UInt8)) = true := beq_iff_eq.mpr c5
      have c5b1 : (a1.toList != ([] : List UInt8)) = false := bne_eq_false_iff_eq.mpr c5
      clear c5
      obtain rfl := Option.some.inj H
      obtain ⟨Ao6, co6, eo6⟩ := Kd.R_slice HO0.out
      subst eo6
      go_enter Tryd.func18, Tryd.ntmps18
      go_wp2
      go_ret
      exact ⟨_, by first | rfl | (simp [errV_none, errV_some] <;> rfl) | (simp [*, errV_none, errV_some] <;> rfl), Kd.R_V (by (with_reducible repeat (first | apply Kd.R_alloc | apply Kd.R_drewN | apply Kd.R_drew)); exact HO0.out), by repeat (first | (with_reducible first | exact HB.out | apply below_alloc | apply pw_below_drewN | apply below_drew1) | exact HB.out), by repeat (first | (with_reducible first | exact HK.out | apply Kept.alloc | apply Kept.drewN | apply Kept.drew) | exact HK.out)⟩
    · rw [if_neg c5] at H
      have c5b0 : (a1.toList == ([] : List UInt8)) = false := beq_eq_false_iff_ne.mpr c5
      have c5b1 : (a1.toList != ([] : List UInt8)) = true := bne_iff_ne.mpr c5
      have HC7 := Aside0.mk H
      clear H
      obtain ⟨Ao8, co8, eo8⟩ := Kd.R_slice HO0.out
      subst eo8
      go_enter Tryd.func18, Tryd.ntmps18
      go_upto_region 5 with (fail)
      go_cut [20] (fun v20 wc => ∃ (kq : Nat) (x20_6 : Bool), v20 = .bool x20_6 ∧ Aside0 (bytes_TrimLeft.j0 kq l0 a1 x20_6 = some r) ∧ Aside0 (kq ≤ k) ∧ Aside0 (Kd.R (Kd.int .u8) 5 wc w0.heap.size (fun k_ => (P0_ k_ ∨ w.heap.size ≤ k_)) (.slice Ao8 l0.length co8) l0) ∧ Aside0 (Kept w wc (fun k_ => P0_ k_)) ∧ Aside0 (Below w0.heap.size w0 wc))
      case first =>
        have H := HC7.out
        clear HC7
        by_cases c9 : (a1.size : Int) = 1
        · rw [if_pos c9] at H
          have c9b0 : ((a1.size : Int) == 1) = true := beq_iff_eq.mpr c9
          have c9b1 : ((a1.size : Int) != 1) = false := bne_eq_false_iff_eq.mpr c9
          clear c9
          (first | rw [c9b0] | (simp only [i64_w, i32_w]; rw [c9b0]) | skip)
          by_cases c10 : 0 < (a1.size : Int)
          · rw [if_pos c10] at H
            have c10b0 : decide (0 < (a1.size : Int)) = true := decide_eq_true c10
            have c10b1 : decide (0 < a1.size) = true := decide_eq_true (by omega)
            clear c10
            have H' := Aside0.mk H
            clear H
            have p11 : 0 ≤ (0 : Int) := (by omega)
            have q11 : 0 < a1.size := (by have : (0 : Int) < (a1.size : Int) := of_decide_eq_true (by first | (with_reducible assumption) | assumption); omega)
            have hx11 : ∀ h : 0 < a1.size, ((a1[0]'h).toNat : Int) = bt a1 0 := bt_at a1 0
            clear p11
            have qi11 : (0 < (a1.size : Int)) = True := eq_true (of_decide_eq_true (by first | (with_reducible assumption) | assumption))
            replace q11 := eq_true q11
            go_wp2
            go_meet
            case rel => exact ⟨_, (decide ((bt a1 0) < 128)), (by first | rfl | (simp; done) | (simp [*]; done)), H', ⟨by first | omega | exact Nat.le_refl _⟩, ⟨by (with_reducible repeat (first | apply Kd.R_alloc | apply Kd.R_drewN | apply Kd.R_drew)); exact HO0.out⟩, ⟨by repeat (first | (with_reducible first | exact HK.out | apply Kept.alloc | apply Kept.drewN | apply Kept.drew) | exact HK.out)⟩, ⟨by repeat (first | (with_reducible first | exact HB.out | apply below_alloc | apply pw_below_drewN | apply below_drew1) | exact HB.out)⟩⟩
          · rw [if_neg c10] at H
            exact absurd H (by simp)
        · rw [if_neg c9] at H
          have c9b0 : ((a1.size : Int) == 1) = false := beq_eq_false_iff_ne.mpr c9
          have c9b1 : ((a1.size : Int) != 1) = true := bne_iff_ne.mpr c9
          (first | rw [c9b0] | (simp only [i64_w, i32_w]; rw [c9b0]) | skip)
          have H' := Aside0.mk H
          clear H
          go_wp2
          go_meet
          case rel => exact ⟨_, (false), (by first | rfl | (simp; done) | (simp [*]; done)), H', ⟨by first | omega | exact Nat.le_refl _⟩, ⟨by (with_reducible repeat (first | apply Kd.R_alloc | apply Kd.R_drewN | apply Kd.R_drew)); exact HO0.out⟩, ⟨by repeat (first | (with_reducible first | exact HK.out | apply Kept.alloc | apply Kept.drewN | apply Kept.drew) | exact HK.out)⟩, ⟨by repeat (first | (with_reducible first | exact HB.out | apply below_alloc | apply pw_below_drewN | apply below_drew1) | exact HB.out)⟩⟩
      case rest =>
        clear HC7
        try clear c1
        try clear p1
        try clear q1
        try clear hx1
        try clear qi1
        try clear p2
        try clear c3
        try clear c3b0
        try clear c3b1
        try clear c3b2
        try clear c5
        try clear c5b0
        try clear c5b1
        try clear c9
        try clear c9b0
        try clear c9b1
        try clear c10
        try clear c10b0
        try clear c10b1
        try clear p11
        try clear q11
        try clear hx11
        try clear qi11
        try clear p11
        try clear q11
        obtain ⟨kq, x20_6, rfl, HA, HJ6, HO_0, HK, HB⟩ := hcut
        cases kq with
        | zero => exact absurd HA.out (by simp [bytes_TrimLeft.j0])
        | succ kj6 =>
          have H := HA.out
          clear HA
          simp only [bytes_TrimLeft.j0] at H
          by_cases c12 : x20_6 = true
          · subst c12
            have H1 : (if 0 < (a1.size : Int) then ((bytes_trimLeftByte.f kj6 l0 (bt a1 0)).bind fun t158 => (some t158)) else (none)) = some r := by rw [if_pos rfl] at H; exact H
            clear H
            have H := H1
            clear H1
            by_cases c13 : 0 < (a1.size : Int)
            · rw [if_pos c13] at H
              have c13b0 : decide (0 < (a1.size : Int)) = true := decide_eq_true c13
              have c13b1 : decide (0 < a1.size) = true := decide_eq_true (by omega)
              clear c13
              replace H := Option.bind_eq_some_iff.mp H
              obtain ⟨t158, A150, H⟩ := H
              replace H : (some t158) = some r := H
              have A15 := Aside0.mk A150
              clear A150
              obtain rfl := Option.some.inj H
              have p14 : 0 ≤ (0 : Int) := (by omega)
              have q14 : 0 < a1.size := (by have : (0 : Int) < (a1.size : Int) := of_decide_eq_true (by first | (with_reducible assumption) | assumption); omega)
              have hx14 : ∀ h : 0 < a1.size, ((a1[0]'h).toNat : Int) = bt a1 0 := bt_at a1 0
              clear p14
              have qi14 : (0 < (a1.size : Int)) = True := eq_true (of_decide_eq_true (by first | (with_reducible assumption) | assumption))
              replace q14 := eq_true q14
              go_wp2_with (first | ((with_reducible refine gate_callee (f := 24) rfl ?_); refine goesL_ (some 24) rfl rfl Tryd.func24 (by kernel_rfl) rfl #[.slice Ao8 l0.length co8, .int .u8 (bt a1 0)] rfl (by (try simp only [List.map_toArray, List.map_cons, List.map_nil]); first | done | rfl | (simp only [List.length_drop, List.length_take]; rfl)) ?_; (with_reducible refine (bytes_trimLeftByte.calls kj6 (fun k_ => some k_ = (.slice Ao8 l0.length co8 : Value).ownBlock) _ _ l0 (bt a1 0) t158 _ ?side1 A15.out).mono ?_); (case side1 => exact Kd.R_V (Kd.R_tight rfl (HO_0.out))); rintro e w16 ⟨v159, rfl, ho0, hb⟩; refine ⟨_, rfl, ?_⟩; have n0_ := Aside0.mk (Kd.R_below (by (with_reducible repeat (first | apply Kd.R_alloc | apply Kd.R_drewN | apply Kd.R_drew)); exact HO_0.out) hb); have n1_ := Aside0.mk (Kd.V_lower (Kd.V_mono (ok' := fun k_ => (P0_ k_ ∨ w.heap.size ≤ k_)) ho0 (fun k_ hk_ => Or.elim hk_ (fun hs_ => ((HO_0.out).1 k_ hs_.symm)) (fun hn_ => (.inr (Nat.le_trans (by first | exact HK.out.1 | exact (show Kept w _ (fun k_ => P0_ k_) from by repeat (first | (with_reducible first | exact HK.out | apply Kept.alloc | apply Kept.drewN | apply Kept.drew) | exact HK.out)).1) hn_))))) (below_size (by repeat (first | (with_reducible first | exact HB.out | apply below_alloc | apply pw_below_drewN | apply below_drew1) | exact HB.out)))); have n2_ := Aside0.mk (Kept.below (S := (fun k_ => P0_ k_)) (by repeat (first | (with_reducible first | exact HK.out | apply Kept.alloc | apply Kept.drewN | apply Kept.drew) | exact HK.out)) hb); have n3_ := Aside0.mk (below_step (by repeat (first | (with_reducible first | exact HB.out | apply below_alloc | apply pw_below_drewN | apply below_drew1) | exact HB.out)) hb); clear HO_0; clear HK; clear HB; have HO_0 := n0_; have HO160 := n1_; have HK := n2_; have HB := n3_; clear n0_ n1_ n2_ n3_; (try clear hb); (try clear hb2); (try clear hk); (try clear hi); (try clear ho0)))
              go_ret
              exact ⟨_, by first | rfl | (simp [errV_none, errV_some] <;> rfl) | (simp [*, errV_none, errV_some] <;> rfl), by (with_reducible repeat (first | apply Kd.V_alloc | apply Kd.V_drewN | apply Kd.V_drew)); exact HO160.out, by repeat (first | (with_reducible first | exact HB.out | apply below_alloc | apply pw_below_drewN | apply below_drew1) | exact HB.out), by repeat (first | (with_reducible first | exact HK.out | apply Kept.alloc | apply Kept.drewN | apply Kept.drew) | exact HK.out)⟩
            · rw [if_neg c13] at H
              exact absurd H (by simp)
          · replace c12 := Bool.eq_false_iff.mpr c12
            subst c12
            have H1 : (none) = some r := by rw [if_neg (show ¬ (false = true) by decide)] at H; exact H
            clear H
            have H := H1
            clear H1
            exact absurd H (by simp)

end Go.Proofs.YtbmeegkgcipmoaaDoor.PFnBitsSet
