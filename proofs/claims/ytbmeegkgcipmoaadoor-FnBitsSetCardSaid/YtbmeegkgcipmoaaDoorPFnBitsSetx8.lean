/- Printed by a program of this session (it drives the print of the kit, with contracts proved by hand beside): the Go functions of one law as Lean functions, and that the Go code comes to what they say. -/
import Derived.Test.YtbmeegkgcipmoaaDoorPFnBitsSetx0
import Derived.Test.YtbmeegkgcipmoaaDoorPFnBitsSetx3
import Derived.Test.YtbmeegkgcipmoaaDoorPFnBitsSetx4
import Derived.Test.YtbmeegkgcipmoaaDoorPFnBitsSetx7
namespace Go.Proofs.YtbmeegkgcipmoaaDoor.PFnBitsSet
open Go.RowKit Go.Proofs.YtbmeegkgcipmoaaDoorL Go.Proofs.YtbmeegkgcipmoaaDoorW.PrintWords Go.Proofs.YtbmeegkgcipmoaaDoorW.PrintLast Go.Proofs.YtbmeegkgcipmoaaDoorW.PrintMore
attribute [local go_sem] max2_int min2_int max_two min_two max_three min_three max_four min_four   -- for this text's walks alone
set_option linter.unusedVariables false
set_option linter.unusedSimpArgs false

/-! ### laws_FnBitsSet: function 3 -/
def laws_FnBitsSet.f (k : Nat) (a0 : Int) (l1 : List Int) : Option (Bool) := if (l1.length : Int) > 2147483647 then (some true) else (if (l1.length : Int) > 3000 then ((laws_shardSetting.f k).bind fun t172 => (some t172)) else ((laws_shardPlaces.f k (wrap64 (8 * (wrap64 (1 + (wrap64 (a0)))))) l1).bind fun t173 => ((impl_BitsSet.f k (wrap64 (8 * (wrap64 (1 + (wrap64 (a0)))))) t173).bind fun bt176 => (if bt176.2 = true then ((laws_shardPlaces.f k (wrap64 (8 * (wrap64 (1 + (wrap64 (a0)))))) l1).bind fun t180 => ((spec_BitsSet.f k (wrap64 (8 * (wrap64 (1 + (wrap64 (a0)))))) t180).bind fun t183 => ((bytes_Equal.f bt176.1 t183).bind fun t186 => (if t186 = true then ((laws_shardSetting.f k).bind fun t187 => (some t187)) else (some false))))) else (some false)))))
theorem laws_FnBitsSet.mono : ∀ a0 a1 k, LeO (laws_FnBitsSet.f k a0 a1) (laws_FnBitsSet.f (k + 1) a0 a1) := by
  intro a0 a1 k
  unfold laws_FnBitsSet.f
  repeat' first
      | (with_reducible exact impl_BitsSet.mono _ _ _)
      | (with_reducible exact laws_shardPlaces.mono _ _ _)
      | (with_reducible exact laws_shardSetting.mono _)
      | (with_reducible exact spec_BitsSet.mono _ _ _)
      | (with_reducible exact LeO.refl _)
      | (with_reducible exact LeO.none _)
      | (with_reducible refine LeO.ite ?_ ?_)
      | (with_reducible refine LeO.bind ?_ (fun _ => ?_))
      | exact impl_BitsSet.mono _ _ _
      | exact laws_shardPlaces.mono _ _ _
      | exact laws_shardSetting.mono _
      | exact spec_BitsSet.mono _ _ _
      | exact LeO.none _
      | refine LeO.ite ?_ ?_
      | refine LeO.bind ?_ (fun _ => ?_)
set_option maxHeartbeats 8000000 in
set_option maxRecDepth 100000 in
theorem laws_FnBitsSet.calls (k : Nat) (a0 : Int) (A1 : Option Addr) (c1 : Nat) (l1 : List Int) (r : Bool) (w : World) (hr1 : Kd.C (Kd.int .i16) w A1 l1.length l1) (hc1 : l1.length ≤ c1) (h : laws_FnBitsSet.f k a0 l1 = some r) :
    Calls Tryd.prog 3 #[.int .u8 a0, .slice A1 l1.length c1] w fun e w' => e = .returned (.bool r) ∧ Below w.heap.size w w' := by
  have HR1 := Aside0.mk hr1
  have HC1 := Aside0.mk hc1
  clear hr1 hc1
  have HB := Aside0.mk (Below.refl w.heap.size w)
  have H : (if (l1.length : Int) > 2147483647 then (some true) else (if (l1.length : Int) > 3000 then ((laws_shardSetting.f k).bind fun t172 => (some t172)) else ((laws_shardPlaces.f k (wrap64 (8 * (wrap64 (1 + (wrap64 (a0)))))) l1).bind fun t173 => ((impl_BitsSet.f k (wrap64 (8 * (wrap64 (1 + (wrap64 (a0)))))) t173).bind fun bt176 => (if bt176.2 = true then ((laws_shardPlaces.f k (wrap64 (8 * (wrap64 (1 + (wrap64 (a0)))))) l1).bind fun t180 => ((spec_BitsSet.f k (wrap64 (8 * (wrap64 (1 + (wrap64 (a0)))))) t180).bind fun t183 => ((bytes_Equal.f bt176.1 t183).bind fun t186 => (if t186 = true then ((laws_shardSetting.f k).bind fun t187 => (some t187)) else (some false))))) else (some false)))))) = some r := h
  clear h
  by_cases c3 : (l1.length : Int) > 2147483647
  · rw [if_pos c3] at H
    have c3b0 : decide (2147483647 < (l1.length : Int)) = true := decide_eq_true c3
    have c3b1 : decide (2147483647 < l1.length) = true := decide_eq_true (by omega)
    clear c3
    obtain rfl := Option.some.inj H
    go_enter Tryd.func3, Tryd.ntmps3
    go_wp2
    go_ret
    exact ⟨by first | rfl | (simp [errV_none, errV_some] <;> rfl) | (simp [*, errV_none, errV_some] <;> rfl), by repeat (first | (with_reducible first | exact HB.out | apply below_alloc | apply pw_below_drewN | apply below_drew1) | exact HB.out)⟩
  · rw [if_neg c3] at H
    have c3b0 : decide (2147483647 < (l1.length : Int)) = false := decide_eq_false c3
    have c3b1 : decide (2147483647 < l1.length) = false := decide_eq_false (by omega)
    clear c3
    by_cases c4 : (l1.length : Int) > 3000
    · rw [if_pos c4] at H
      have c4b0 : decide (3000 < (l1.length : Int)) = true := decide_eq_true c4
      have c4b1 : decide (3000 < l1.length) = true := decide_eq_true (by omega)
      clear c4
      replace H := Option.bind_eq_some_iff.mp H
      obtain ⟨t172, A50, H⟩ := H
      replace H : (some t172) = some r := H
      have A5 := Aside0.mk A50
      clear A50
      obtain rfl := Option.some.inj H
      go_enter Tryd.func3, Tryd.ntmps3
      go_wp2_with (first | ((with_reducible refine gate_callee (f := 5) rfl ?_); refine goesL_ (some 18) rfl rfl Tryd.func5 (by kernel_rfl) rfl #[] rfl (by (try simp only [List.map_toArray, List.map_cons, List.map_nil]); first | done | rfl | (simp only [List.length_drop, List.length_take]; rfl)) ?_; (with_reducible refine (laws_shardSetting.calls k  t172 _ A5.out).mono ?_); rintro e w6 ⟨rfl, hb⟩; refine ⟨_, rfl, ?_⟩; have n0_ := Aside0.mk (below_step (by repeat (first | (with_reducible first | exact HB.out | apply below_alloc | apply pw_below_drewN | apply below_drew1) | exact HB.out)) hb); clear HB; have HB := n0_; clear n0_; (try clear hb); (try clear hb2); (try clear hk); (try clear hi)))
      go_ret
      exact ⟨by first | rfl | (simp [errV_none, errV_some] <;> rfl) | (simp [*, errV_none, errV_some] <;> rfl), by repeat (first | (with_reducible first | exact HB.out | apply below_alloc | apply pw_below_drewN | apply below_drew1) | exact HB.out)⟩
    · rw [if_neg c4] at H
      have c4b0 : decide (3000 < (l1.length : Int)) = false := decide_eq_false c4
      have c4b1 : decide (3000 < l1.length) = false := decide_eq_false (by omega)
      clear c4
      replace H := Option.bind_eq_some_iff.mp H
      obtain ⟨t173, A70, H⟩ := H
      replace H : ((impl_BitsSet.f k (wrap64 (8 * (wrap64 (1 + (wrap64 (a0)))))) t173).bind fun bt176 => (if bt176.2 = true then ((laws_shardPlaces.f k (wrap64 (8 * (wrap64 (1 + (wrap64 (a0)))))) l1).bind fun t180 => ((spec_BitsSet.f k (wrap64 (8 * (wrap64 (1 + (wrap64 (a0)))))) t180).bind fun t183 => ((bytes_Equal.f bt176.1 t183).bind fun t186 => (if t186 = true then ((laws_shardSetting.f k).bind fun t187 => (some t187)) else (some false))))) else (some false))) = some r := H
      have A7 := Aside0.mk A70
      clear A70
      replace H := Option.bind_eq_some_iff.mp H
      obtain ⟨⟨t176, t177⟩, A80, H⟩ := H
      replace H : (if t177 = true then ((laws_shardPlaces.f k (wrap64 (8 * (wrap64 (1 + (wrap64 (a0)))))) l1).bind fun t180 => ((spec_BitsSet.f k (wrap64 (8 * (wrap64 (1 + (wrap64 (a0)))))) t180).bind fun t183 => ((bytes_Equal.f t176 t183).bind fun t186 => (if t186 = true then ((laws_shardSetting.f k).bind fun t187 => (some t187)) else (some false))))) else (some false)) = some r := H
      have A8 := Aside0.mk A80
      clear A80
      by_cases c9 : t177 = true
      · subst c9
        have H1 : ((laws_shardPlaces.f k (wrap64 (8 * (wrap64 (1 + (wrap64 (a0)))))) l1).bind fun t180 => ((spec_BitsSet.f k (wrap64 (8 * (wrap64 (1 + (wrap64 (a0)))))) t180).bind fun t183 => ((bytes_Equal.f t176 t183).bind fun t186 => (if t186 = true then ((laws_shardSetting.f k).bind fun t187 => (some t187)) else (some false))))) = some r := by rw [if_pos rfl] at H; exact H
        clear H
        have H := H1
        clear H1
        replace H := Option.bind_eq_some_iff.mp H
        obtain ⟨t180, A100, H⟩ := H
        replace H : ((spec_BitsSet.f k (wrap64 (8 * (wrap64 (1 + (wrap64 (a0)))))) t180).bind fun t183 => ((bytes_Equal.f t176 t183).bind fun t186 => (if t186 = true then ((laws_shardSetting.f k).bind fun t187 => (some t187)) else (some false)))) = some r := H
        have A10 := Aside0.mk A100
        clear A100
        replace H := Option.bind_eq_some_iff.mp H
        obtain ⟨t183, A110, H⟩ := H
        replace H : ((bytes_Equal.f t176 t183).bind fun t186 => (if t186 = true then ((laws_shardSetting.f k).bind fun t187 => (some t187)) else (some false))) = some r := H
        have A11 := Aside0.mk A110
        clear A110
        replace H := Option.bind_eq_some_iff.mp H
        obtain ⟨t186, A120, H⟩ := H
        replace H : (if t186 = true then ((laws_shardSetting.f k).bind fun t187 => (some t187)) else (some false)) = some r := H
        have A12 := Aside0.mk A120
        clear A120
        by_cases c13 : t186 = true
        · subst c13
          have H1 : ((laws_shardSetting.f k).bind fun t187 => (some t187)) = some r := by rw [if_pos rfl] at H; exact H
          clear H
          have H := H1
          clear H1
          replace H := Option.bind_eq_some_iff.mp H
          obtain ⟨t187, A140, H⟩ := H
          replace H : (some t187) = some r := H
          have A14 := Aside0.mk A140
          clear A140
          obtain rfl := Option.some.inj H
          go_enter Tryd.func3, Tryd.ntmps3
          go_wp2_with (first | ((with_reducible refine gate_callee (f := 7) rfl ?_); refine goesL_ (some 23) rfl rfl Tryd.func7 (by kernel_rfl) rfl #[.int .i64 (wrap64 (8 * (wrap64 (1 + (wrap64 (a0)))))), .slice A1 l1.length c1] rfl (by (try simp only [List.map_toArray, List.map_cons, List.map_nil]); first | done | rfl | (simp only [List.length_drop, List.length_take]; rfl)) ?_; (with_reducible refine (laws_shardPlaces.calls k (wrap64 (8 * (wrap64 (1 + (wrap64 (a0)))))) _ _ l1 t173 _ ?side1 ?side2 A7.out).mono ?_); (case side1 => repeat (first | exact HR1.out | (with_reducible refine Kd.C_alloc ?_ _) | (with_reducible refine Kd.C_drewN ?_ _) | (with_reducible refine Kd.C_drew ?_))); (case side2 => exact HC1.out); rintro e w15 ⟨v174, rfl, ho0, hb⟩; refine ⟨_, rfl, ?_⟩; have n0_ := Aside0.mk (Kd.R_lower ho0 (below_size (by repeat (first | (with_reducible first | exact HB.out | apply below_alloc | apply pw_below_drewN | apply below_drew1) | exact HB.out)))); have n1_ := Aside0.mk (below_step (by repeat (first | (with_reducible first | exact HB.out | apply below_alloc | apply pw_below_drewN | apply below_drew1) | exact HB.out)) hb); clear HB; have HO175 := n0_; have HB := n1_; clear n0_ n1_; (try clear hb); (try clear hb2); (try clear hk); (try clear hi); (try clear ho0); obtain ⟨Ao16, co16, eo16⟩ := Kd.R_slice HO175.out; subst eo16) | ((with_reducible refine gate_callee (f := 6) rfl ?_); refine goesL_ (some 24) rfl rfl Tryd.func6 (by kernel_rfl) rfl #[.int .i64 (wrap64 (8 * (wrap64 (1 + (wrap64 (a0)))))), .slice Ao16 t173.length co16] rfl (by (try simp only [List.map_toArray, List.map_cons, List.map_nil]); first | done | rfl | (simp only [List.length_drop, List.length_take]; rfl)) ?_; (with_reducible refine (impl_BitsSet.calls k (wrap64 (8 * (wrap64 (1 + (wrap64 (a0)))))) _ _ t173 t176 true _ ?side1 ?side2 A8.out).mono ?_); (case side1 => repeat (first | exact (Kd.R_reads' HO175.out).2.2 | (with_reducible refine Kd.C_alloc ?_ _) | (with_reducible refine Kd.C_drewN ?_ _) | (with_reducible refine Kd.C_drew ?_))); (case side2 => exact (Kd.R_reads' HO175.out).2.1); rintro e w17 ⟨v178, rfl, ho0, hb⟩; refine ⟨_, rfl, ?_⟩; have n0_ := Aside0.mk (Kd.R_below (by (with_reducible repeat (first | apply Kd.R_alloc | apply Kd.R_drewN | apply Kd.R_drew)); exact HO175.out) hb); have n1_ := Aside0.mk (Kd.R_lower ho0 (below_size (by repeat (first | (with_reducible first | exact HB.out | apply below_alloc | apply pw_below_drewN | apply below_drew1) | exact HB.out)))); have n2_ := Aside0.mk (below_step (by repeat (first | (with_reducible first | exact HB.out | apply below_alloc | apply pw_below_drewN | apply below_drew1) | exact HB.out)) hb); clear HO175; clear HB; have HO175 := n0_; have HO179 := n1_; have HB := n2_; clear n0_ n1_ n2_; (try clear hb); (try clear hb2); (try clear hk); (try clear hi); (try clear ho0)) | (go_at_call 7; (with_reducible refine (laws_shardPlaces.calls k (wrap64 (8 * (wrap64 (1 + (wrap64 (a0)))))) _ _ l1 t180 _ ?side1 ?side2 A10.out).mono ?_); (case side1 => repeat (first | exact (Kd.C_below HR1.out HB.out) | (with_reducible refine Kd.C_alloc ?_ _) | (with_reducible refine Kd.C_drewN ?_ _) | (with_reducible refine Kd.C_drew ?_))); (case side2 => exact HC1.out); rintro e w18 ⟨v181, rfl, ho0, hb⟩; have n0_ := Aside0.mk (Kd.R_elder' (by (with_reducible repeat (first | apply Kd.R_alloc | apply Kd.R_drewN | apply Kd.R_drew)); exact HO175.out) (Kd.R_base ho0) hb); have n1_ := Aside0.mk (Kd.R_below (by (with_reducible repeat (first | apply Kd.R_alloc | apply Kd.R_drewN | apply Kd.R_drew)); exact HO179.out) hb); have n2_ := Aside0.mk (Kd.R_lower (Kd.R_new' ho0 (Kd.R_lt (by (with_reducible repeat (first | apply Kd.R_alloc | apply Kd.R_drewN | apply Kd.R_drew)); exact HO175.out))) (below_size (by repeat (first | (with_reducible first | exact HB.out | apply below_alloc | apply pw_below_drewN | apply below_drew1) | exact HB.out)))); have n3_ := Aside0.mk (below_step (by repeat (first | (with_reducible first | exact HB.out | apply below_alloc | apply pw_below_drewN | apply below_drew1) | exact HB.out)) hb); clear HO175; clear HO179; clear HB; have HO175 := n0_; have HO179 := n1_; have HO182 := n2_; have HB := n3_; clear n0_ n1_ n2_ n3_; (try clear hb); (try clear hb2); (try clear hk); (try clear hi); (try clear ho0); obtain ⟨Ao19, co19, eo19⟩ := Kd.R_slice HO182.out; subst eo19) | (go_at_call 9; (with_reducible refine (spec_BitsSet.calls k (wrap64 (8 * (wrap64 (1 + (wrap64 (a0)))))) _ _ t180 t183 _ ?side1 ?side2 A11.out).mono ?_); (case side1 => repeat (first | exact (Kd.R_reads' HO182.out).2.2 | (with_reducible refine Kd.C_alloc ?_ _) | (with_reducible refine Kd.C_drewN ?_ _) | (with_reducible refine Kd.C_drew ?_))); (case side2 => exact (Kd.R_reads' HO182.out).2.1); rintro e w20 ⟨v184, rfl, ho0, hb⟩; have n0_ := Aside0.mk (Kd.R_below (by (with_reducible repeat (first | apply Kd.R_alloc | apply Kd.R_drewN | apply Kd.R_drew)); exact HO175.out) hb); have n1_ := Aside0.mk (Kd.R_below (by (with_reducible repeat (first | apply Kd.R_alloc | apply Kd.R_drewN | apply Kd.R_drew)); exact HO179.out) hb); have n2_ := Aside0.mk (Kd.R_below (by (with_reducible repeat (first | apply Kd.R_alloc | apply Kd.R_drewN | apply Kd.R_drew)); exact HO182.out) hb); have n3_ := Aside0.mk (Kd.V_lower (Kd.V_mono (ok' := fun k_ => some k_ ≠ (.slice Ao16 t173.length co16 : Value).ownBlock ∧ some k_ ≠ (v178 : Value).ownBlock ∧ some k_ ≠ (.slice Ao19 t180.length co19 : Value).ownBlock) ho0 (fun k_ hk_ => ⟨(Kd.fresh' (Kd.R_lt (by (with_reducible repeat (first | apply Kd.R_alloc | apply Kd.R_drewN | apply Kd.R_drew)); exact HO175.out)) k_ hk_), (Kd.fresh' (Kd.R_lt (by (with_reducible repeat (first | apply Kd.R_alloc | apply Kd.R_drewN | apply Kd.R_drew)); exact HO179.out)) k_ hk_), (Kd.fresh' (Kd.R_lt (by (with_reducible repeat (first | apply Kd.R_alloc | apply Kd.R_drewN | apply Kd.R_drew)); exact HO182.out)) k_ hk_)⟩)) (below_size (by repeat (first | (with_reducible first | exact HB.out | apply below_alloc | apply pw_below_drewN | apply below_drew1) | exact HB.out)))); have n4_ := Aside0.mk (below_step (by repeat (first | (with_reducible first | exact HB.out | apply below_alloc | apply pw_below_drewN | apply below_drew1) | exact HB.out)) hb); clear HO175; clear HO179; clear HO182; clear HB; have HO175 := n0_; have HO179 := n1_; have HO182 := n2_; have HO185 := n3_; have HB := n4_; clear n0_ n1_ n2_ n3_ n4_; (try clear hb); (try clear hb2); (try clear hk); (try clear hi); (try clear ho0); obtain ⟨Ao21, co21, eo21⟩ := Kd.R_slice HO179.out; subst eo21; obtain ⟨Ao22, co22, eo22⟩ := Kd.V_slice HO185.out; subst eo22) | (go_at_call 8; (with_reducible refine (bytes_Equal.calls _ _ t176 _ _ t183 true _ ?side1 ?side2 ?side3 ?side4 A12.out).mono ?_); (case side1 => repeat (first | exact (Kd.R_reads' HO179.out).2.2 | (with_reducible refine Kd.C_alloc ?_ _) | (with_reducible refine Kd.C_drewN ?_ _) | (with_reducible refine Kd.C_drew ?_))); (case side2 => exact (Kd.R_reads' HO179.out).2.1); (case side3 => repeat (first | exact (Kd.V_reads' HO185.out).2.2 | (with_reducible refine Kd.C_alloc ?_ _) | (with_reducible refine Kd.C_drewN ?_ _) | (with_reducible refine Kd.C_drew ?_))); (case side4 => exact (Kd.V_reads' HO185.out).2.1); rintro e w' ⟨rfl, ⟨nd, rfl⟩⟩) | (go_at_call 5; (with_reducible refine (laws_shardSetting.calls k  t187 _ A14.out).mono ?_); rintro e w23 ⟨rfl, hb⟩; have n0_ := Aside0.mk (Kd.R_below (by (with_reducible repeat (first | apply Kd.R_alloc | apply Kd.R_drewN | apply Kd.R_drew)); exact HO175.out) hb); have n1_ := Aside0.mk (Kd.R_below (by (with_reducible repeat (first | apply Kd.R_alloc | apply Kd.R_drewN | apply Kd.R_drew)); exact HO179.out) hb); have n2_ := Aside0.mk (Kd.R_below (by (with_reducible repeat (first | apply Kd.R_alloc | apply Kd.R_drewN | apply Kd.R_drew)); exact HO182.out) hb); have n3_ := Aside0.mk (Kd.V_below (by (with_reducible repeat (first | apply Kd.V_alloc | apply Kd.V_drewN | apply Kd.V_drew)); exact HO185.out) hb); have n4_ := Aside0.mk (below_step (by repeat (first | (with_reducible first | exact HB.out | apply below_alloc | apply pw_below_drewN | apply below_drew1) | exact HB.out)) hb); clear HO175; clear HO179; clear HO182; clear HO185; clear HB; have HO175 := n0_; have HO179 := n1_; have HO182 := n2_; have HO185 := n3_; have HB := n4_; clear n0_ n1_ n2_ n3_ n4_; (try clear hb); (try clear hb2); (try clear hk); (try clear hi)))
          go_ret
          exact ⟨by first | rfl | (simp [errV_none, errV_some] <;> rfl) | (simp [*, errV_none, errV_some] <;> rfl), by repeat (first | (with_reducible first | exact HB.out | apply below_alloc | apply pw_below_drewN | apply below_drew1) | exact HB.out)⟩
        · replace c13 := Bool.eq_false_iff.mpr c13
          subst c13
          have H1 : (some false) = some r := by rw [if_neg (show ¬ (false = true) by decide)] at H; exact H
          clear H
          have H := H1
          clear H1
          obtain rfl := Option.some.inj H
          go_enter Tryd.func3, Tryd.ntmps3
          go_wp2_with (first | ((with_reducible refine gate_callee (f := 7) rfl ?_); refine goesL_ (some 23) rfl rfl Tryd.func7 (by kernel_rfl) rfl #[.int .i64 (wrap64 (8 * (wrap64 (1 + (wrap64 (a0)))))), .slice A1 l1.length c1] rfl (by (try simp only [List.map_toArray, List.map_cons, List.map_nil]); first | done | rfl | (simp only [List.length_drop, List.length_take]; rfl)) ?_; (with_reducible refine (laws_shardPlaces.calls k (wrap64 (8 * (wrap64 (1 + (wrap64 (a0)))))) _ _ l1 t173 _ ?side1 ?side2 A7.out).mono ?_); (case side1 => repeat (first | exact HR1.out | (with_reducible refine Kd.C_alloc ?_ _) | (with_reducible refine Kd.C_drewN ?_ _) | (with_reducible refine Kd.C_drew ?_))); (case side2 => exact HC1.out); rintro e w24 ⟨v174, rfl, ho0, hb⟩; refine ⟨_, rfl, ?_⟩; have n0_ := Aside0.mk (Kd.R_lower ho0 (below_size (by repeat (first | (with_reducible first | exact HB.out | apply below_alloc | apply pw_below_drewN | apply below_drew1) | exact HB.out)))); have n1_ := Aside0.mk (below_step (by repeat (first | (with_reducible first | exact HB.out | apply below_alloc | apply pw_below_drewN | apply below_drew1) | exact HB.out)) hb); clear HB; have HO175 := n0_; have HB := n1_; clear n0_ n1_; (try clear hb); (try clear hb2); (try clear hk); (try clear hi); (try clear ho0); obtain ⟨Ao25, co25, eo25⟩ := Kd.R_slice HO175.out; subst eo25) | ((with_reducible refine gate_callee (f := 6) rfl ?_); refine goesL_ (some 24) rfl rfl Tryd.func6 (by kernel_rfl) rfl #[.int .i64 (wrap64 (8 * (wrap64 (1 + (wrap64 (a0)))))), .slice Ao25 t173.length co25] rfl (by (try simp only [List.map_toArray, List.map_cons, List.map_nil]); first | done | rfl | (simp only [List.length_drop, List.length_take]; rfl)) ?_; (with_reducible refine (impl_BitsSet.calls k (wrap64 (8 * (wrap64 (1 + (wrap64 (a0)))))) _ _ t173 t176 true _ ?side1 ?side2 A8.out).mono ?_); (case side1 => repeat (first | exact (Kd.R_reads' HO175.out).2.2 | (with_reducible refine Kd.C_alloc ?_ _) | (with_reducible refine Kd.C_drewN ?_ _) | (with_reducible refine Kd.C_drew ?_))); (case side2 => exact (Kd.R_reads' HO175.out).2.1); rintro e w26 ⟨v178, rfl, ho0, hb⟩; refine ⟨_, rfl, ?_⟩; have n0_ := Aside0.mk (Kd.R_below (by (with_reducible repeat (first | apply Kd.R_alloc | apply Kd.R_drewN | apply Kd.R_drew)); exact HO175.out) hb); have n1_ := Aside0.mk (Kd.R_lower ho0 (below_size (by repeat (first | (with_reducible first | exact HB.out | apply below_alloc | apply pw_below_drewN | apply below_drew1) | exact HB.out)))); have n2_ := Aside0.mk (below_step (by repeat (first | (with_reducible first | exact HB.out | apply below_alloc | apply pw_below_drewN | apply below_drew1) | exact HB.out)) hb); clear HO175; clear HB; have HO175 := n0_; have HO179 := n1_; have HB := n2_; clear n0_ n1_ n2_; (try clear hb); (try clear hb2); (try clear hk); (try clear hi); (try clear ho0)) | (go_at_call 7; (with_reducible refine (laws_shardPlaces.calls k (wrap64 (8 * (wrap64 (1 + (wrap64 (a0)))))) _ _ l1 t180 _ ?side1 ?side2 A10.out).mono ?_); (case side1 => repeat (first | exact (Kd.C_below HR1.out HB.out) | (with_reducible refine Kd.C_alloc ?_ _) | (with_reducible refine Kd.C_drewN ?_ _) | (with_reducible refine Kd.C_drew ?_))); (case side2 => exact HC1.out); rintro e w27 ⟨v181, rfl, ho0, hb⟩; have n0_ := Aside0.mk (Kd.R_elder' (by (with_reducible repeat (first | apply Kd.R_alloc | apply Kd.R_drewN | apply Kd.R_drew)); exact HO175.out) (Kd.R_base ho0) hb); have n1_ := Aside0.mk (Kd.R_below (by (with_reducible repeat (first | apply Kd.R_alloc | apply Kd.R_drewN | apply Kd.R_drew)); exact HO179.out) hb); have n2_ := Aside0.mk (Kd.R_lower (Kd.R_new' ho0 (Kd.R_lt (by (with_reducible repeat (first | apply Kd.R_alloc | apply Kd.R_drewN | apply Kd.R_drew)); exact HO175.out))) (below_size (by repeat (first | (with_reducible first | exact HB.out | apply below_alloc | apply pw_below_drewN | apply below_drew1) | exact HB.out)))); have n3_ := Aside0.mk (below_step (by repeat (first | (with_reducible first | exact HB.out | apply below_alloc | apply pw_below_drewN | apply below_drew1) | exact HB.out)) hb); clear HO175; clear HO179; clear HB; have HO175 := n0_; have HO179 := n1_; have HO182 := n2_; have HB := n3_; clear n0_ n1_ n2_ n3_; (try clear hb); (try clear hb2); (try clear hk); (try clear hi); (try clear ho0); obtain ⟨Ao28, co28, eo28⟩ := Kd.R_slice HO182.out; subst eo28) | (go_at_call 9; (with_reducible refine (spec_BitsSet.calls k (wrap64 (8 * (wrap64 (1 + (wrap64 (a0)))))) _ _ t180 t183 _ ?side1 ?side2 A11.out).mono ?_); (case side1 => repeat (first | exact (Kd.R_reads' HO182.out).2.2 | (with_reducible refine Kd.C_alloc ?_ _) | (with_reducible refine Kd.C_drewN ?_ _) | (with_reducible refine Kd.C_drew ?_))); (case side2 => exact (Kd.R_reads' HO182.out).2.1); rintro e w29 ⟨v184, rfl, ho0, hb⟩; have n0_ := Aside0.mk (Kd.R_below (by (with_reducible repeat (first | apply Kd.R_alloc | apply Kd.R_drewN | apply Kd.R_drew)); exact HO175.out) hb); have n1_ := Aside0.mk (Kd.R_below (by (with_reducible repeat (first | apply Kd.R_alloc | apply Kd.R_drewN | apply Kd.R_drew)); exact HO179.out) hb); have n2_ := Aside0.mk (Kd.R_below (by (with_reducible repeat (first | apply Kd.R_alloc | apply Kd.R_drewN | apply Kd.R_drew)); exact HO182.out) hb); have n3_ := Aside0.mk (Kd.V_lower (Kd.V_mono (ok' := fun k_ => some k_ ≠ (.slice Ao25 t173.length co25 : Value).ownBlock ∧ some k_ ≠ (v178 : Value).ownBlock ∧ some k_ ≠ (.slice Ao28 t180.length co28 : Value).ownBlock) ho0 (fun k_ hk_ => ⟨(Kd.fresh' (Kd.R_lt (by (with_reducible repeat (first | apply Kd.R_alloc | apply Kd.R_drewN | apply Kd.R_drew)); exact HO175.out)) k_ hk_), (Kd.fresh' (Kd.R_lt (by (with_reducible repeat (first | apply Kd.R_alloc | apply Kd.R_drewN | apply Kd.R_drew)); exact HO179.out)) k_ hk_), (Kd.fresh' (Kd.R_lt (by (with_reducible repeat (first | apply Kd.R_alloc | apply Kd.R_drewN | apply Kd.R_drew)); exact HO182.out)) k_ hk_)⟩)) (below_size (by repeat (first | (with_reducible first | exact HB.out | apply below_alloc | apply pw_below_drewN | apply below_drew1) | exact HB.out)))); have n4_ := Aside0.mk (below_step (by repeat (first | (with_reducible first | exact HB.out | apply below_alloc | apply pw_below_drewN | apply below_drew1) | exact HB.out)) hb); clear HO175; clear HO179; clear HO182; clear HB; have HO175 := n0_; have HO179 := n1_; have HO182 := n2_; have HO185 := n3_; have HB := n4_; clear n0_ n1_ n2_ n3_ n4_; (try clear hb); (try clear hb2); (try clear hk); (try clear hi); (try clear ho0); obtain ⟨Ao30, co30, eo30⟩ := Kd.R_slice HO179.out; subst eo30; obtain ⟨Ao31, co31, eo31⟩ := Kd.V_slice HO185.out; subst eo31) | (go_at_call 8; (with_reducible refine (bytes_Equal.calls _ _ t176 _ _ t183 false _ ?side1 ?side2 ?side3 ?side4 A12.out).mono ?_); (case side1 => repeat (first | exact (Kd.R_reads' HO179.out).2.2 | (with_reducible refine Kd.C_alloc ?_ _) | (with_reducible refine Kd.C_drewN ?_ _) | (with_reducible refine Kd.C_drew ?_))); (case side2 => exact (Kd.R_reads' HO179.out).2.1); (case side3 => repeat (first | exact (Kd.V_reads' HO185.out).2.2 | (with_reducible refine Kd.C_alloc ?_ _) | (with_reducible refine Kd.C_drewN ?_ _) | (with_reducible refine Kd.C_drew ?_))); (case side4 => exact (Kd.V_reads' HO185.out).2.1); rintro e w' ⟨rfl, ⟨nd, rfl⟩⟩))
          go_ret
          exact ⟨by first | rfl | (simp [errV_none, errV_some] <;> rfl) | (simp [*, errV_none, errV_some] <;> rfl), by repeat (first | (with_reducible first | exact HB.out | apply below_alloc | apply pw_below_drewN | apply below_drew1) | exact HB.out)⟩
      · replace c9 := Bool.eq_false_iff.mpr c9
        subst c9
        have H1 : (some false) = some r := by rw [if_neg (show ¬ (false = true) by decide)] at H; exact H
        clear H
        have H := H1
        clear H1
        obtain rfl := Option.some.inj H
        go_enter Tryd.func3, Tryd.ntmps3
        go_wp2_with (first | ((with_reducible refine gate_callee (f := 7) rfl ?_); refine goesL_ (some 23) rfl rfl Tryd.func7 (by kernel_rfl) rfl #[.int .i64 (wrap64 (8 * (wrap64 (1 + (wrap64 (a0)))))), .slice A1 l1.length c1] rfl (by (try simp only [List.map_toArray, List.map_cons, List.map_nil]); first | done | rfl | (simp only [List.length_drop, List.length_take]; rfl)) ?_; (with_reducible refine (laws_shardPlaces.calls k (wrap64 (8 * (wrap64 (1 + (wrap64 (a0)))))) _ _ l1 t173 _ ?side1 ?side2 A7.out).mono ?_); (case side1 => repeat (first | exact HR1.out | (with_reducible refine Kd.C_alloc ?_ _) | (with_reducible refine Kd.C_drewN ?_ _) | (with_reducible refine Kd.C_drew ?_))); (case side2 => exact HC1.out); rintro e w32 ⟨v174, rfl, ho0, hb⟩; refine ⟨_, rfl, ?_⟩; have n0_ := Aside0.mk (Kd.R_lower ho0 (below_size (by repeat (first | (with_reducible first | exact HB.out | apply below_alloc | apply pw_below_drewN | apply below_drew1) | exact HB.out)))); have n1_ := Aside0.mk (below_step (by repeat (first | (with_reducible first | exact HB.out | apply below_alloc | apply pw_below_drewN | apply below_drew1) | exact HB.out)) hb); clear HB; have HO175 := n0_; have HB := n1_; clear n0_ n1_; (try clear hb); (try clear hb2); (try clear hk); (try clear hi); (try clear ho0); obtain ⟨Ao33, co33, eo33⟩ := Kd.R_slice HO175.out; subst eo33) | ((with_reducible refine gate_callee (f := 6) rfl ?_); refine goesL_ (some 24) rfl rfl Tryd.func6 (by kernel_rfl) rfl #[.int .i64 (wrap64 (8 * (wrap64 (1 + (wrap64 (a0)))))), .slice Ao33 t173.length co33] rfl (by (try simp only [List.map_toArray, List.map_cons, List.map_nil]); first | done | rfl | (simp only [List.length_drop, List.length_take]; rfl)) ?_; (with_reducible refine (impl_BitsSet.calls k (wrap64 (8 * (wrap64 (1 + (wrap64 (a0)))))) _ _ t173 t176 false _ ?side1 ?side2 A8.out).mono ?_); (case side1 => repeat (first | exact (Kd.R_reads' HO175.out).2.2 | (with_reducible refine Kd.C_alloc ?_ _) | (with_reducible refine Kd.C_drewN ?_ _) | (with_reducible refine Kd.C_drew ?_))); (case side2 => exact (Kd.R_reads' HO175.out).2.1); rintro e w34 ⟨v178, rfl, ho0, hb⟩; refine ⟨_, rfl, ?_⟩; have n0_ := Aside0.mk (Kd.R_below (by (with_reducible repeat (first | apply Kd.R_alloc | apply Kd.R_drewN | apply Kd.R_drew)); exact HO175.out) hb); have n1_ := Aside0.mk (Kd.R_lower ho0 (below_size (by repeat (first | (with_reducible first | exact HB.out | apply below_alloc | apply pw_below_drewN | apply below_drew1) | exact HB.out)))); have n2_ := Aside0.mk (below_step (by repeat (first | (with_reducible first | exact HB.out | apply below_alloc | apply pw_below_drewN | apply below_drew1) | exact HB.out)) hb); clear HO175; clear HB; have HO175 := n0_; have HO179 := n1_; have HB := n2_; clear n0_ n1_ n2_; (try clear hb); (try clear hb2); (try clear hk); (try clear hi); (try clear ho0)))
        go_ret
        exact ⟨by first | rfl | (simp [errV_none, errV_some] <;> rfl) | (simp [*, errV_none, errV_some] <;> rfl), by repeat (first | (with_reducible first | exact HB.out | apply below_alloc | apply pw_below_drewN | apply below_drew1) | exact HB.out)⟩

/-- THE ONE PURE STATEMENT of laws_FnBitsSet: yours. -/
def laws_FnBitsSet.Pure : Prop := ∀ (a0 : Int) (l1 : List Int), (Lit.int .u8 a0).wf = true → l1.length ≤ maxLen → l1.length * 2 ≤ 140737488351232 → (∀ x ∈ l1, (Lit.int .i16 x).wf = true) → ∃ k, laws_FnBitsSet.f k a0 l1 = some true
theorem laws_FnBitsSet.walk (P : laws_FnBitsSet.Pure) (a0 : Int) (a1 : Option Addr) (len1 cap1 : Nat) (z1 : List Int) (w : World) (w0 : (Lit.int .u8 a0).wf = true) (w1 : (a1 = none ∧ len1 = 0 ∧ cap1 = 0 ∧ z1 = []) ∨ ∃ x, a1 = some x ∧ len1 ≤ cap1 ∧ cap1 ≤ maxLen ∧ z1.length = cap1 ∧ (∀ i, i < z1.length → w.cell? (x.add i) = some (.int .i16 (z1.getD i 0))) ∧ ∀ n ∈ z1, (Lit.int .i16 n).wf = true) (y1 : len1 * 2 ≤ 140737488351232) :
    Calls Tryd.prog 3 #[.int .u8 a0, .slice a1 len1 cap1] w fun e w' => e = .returned (.bool true) ∧ Below w.heap.size w w' := by
  obtain ⟨l1, rfl, hr1, hm1, hw1, hc1⟩ := ReadsInt.ofRowC w1
  obtain ⟨k, h⟩ := P a0 l1 w0 hm1 y1 hw1
  refine (laws_FnBitsSet.calls k a0 _ _ l1 true w (Kd.C_of_reads (d := (0 : Int)) (h1 := fun _ => rfl) hr1) hc1 h).mono ?_
  rintro e w' ⟨rfl, hd⟩
  exact ⟨rfl, hd⟩

end Go.Proofs.YtbmeegkgcipmoaaDoor.PFnBitsSet
