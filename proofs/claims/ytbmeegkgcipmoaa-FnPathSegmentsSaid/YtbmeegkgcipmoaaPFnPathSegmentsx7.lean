/- Printed by a program of this session (it drives the print of the kit, with contracts proved by hand beside): the Go functions of one law as Lean functions, and that the Go code comes to what they say. -/
import Derived.Test.YtbmeegkgcipmoaaPFnPathSegmentsx0
import Derived.Test.YtbmeegkgcipmoaaPFnPathSegmentsx3
import Derived.Test.YtbmeegkgcipmoaaPFnPathSegmentsx5
import Derived.Test.YtbmeegkgcipmoaaPFnPathSegmentsx6
namespace Go.Proofs.Ytbmeegkgcipmoaa.PFnPathSegments
open Go.RowKit Go.Proofs.YtbmeegkgcipmoaaL Go.Proofs.YtbmeegkgcipmoaaW.PrintWords Go.Proofs.YtbmeegkgcipmoaaW.PrintLast Go.Proofs.YtbmeegkgcipmoaaW.PrintMore
attribute [local go_sem] max2_int min2_int max_two min_two max_three min_three max_four min_four   -- for this text's walks alone
set_option linter.unusedVariables false
set_option linter.unusedSimpArgs false

/-! ### spec_Segments: function 25 -/
def spec_Segments.f (k : Nat) (a0 : ByteArray) : Option (List ByteArray) := (spec_Clean.f k a0).bind fun t159 => ((spec_Split.f k t159).bind fun t160 => (if 0 < (t160.length : Int) then (if (rdOf ByteArray.empty t160 0).toList = ([] : List UInt8) then (if 1 ≤ (t160.length : Int) then (some (t160.drop (1 : Int).toNat)) else (none)) else (some t160)) else (none)))
theorem spec_Segments.mono : ∀ a0 k, LeO (spec_Segments.f k a0) (spec_Segments.f (k + 1) a0) := by
  intro a0 k
  unfold spec_Segments.f
  repeat' first
      | (with_reducible exact spec_Clean.mono _ _)
      | (with_reducible exact spec_Split.mono _ _)
      | (with_reducible exact LeO.refl _)
      | (with_reducible exact LeO.none _)
      | (with_reducible refine LeO.ite ?_ ?_)
      | (with_reducible refine LeO.bind ?_ (fun _ => ?_))
      | exact spec_Clean.mono _ _
      | exact spec_Split.mono _ _
      | exact LeO.none _
      | refine LeO.ite ?_ ?_
      | refine LeO.bind ?_ (fun _ => ?_)
set_option maxHeartbeats 8000000 in
set_option maxRecDepth 100000 in
theorem spec_Segments.calls (k : Nat) (a0 : ByteArray) (r : List ByteArray) (w : World) (h : spec_Segments.f k a0 = some r) :
    Calls Try.prog 25 #[.string a0] w fun e w' => ∃ v0_ : Value, e = .returned (v0_) ∧ Kd.Q Kd.string 9 w' w.heap.size (fun _ => True) v0_ r ∧ Below w.heap.size w w' := by
  have HB := Aside0.mk (Below.refl w.heap.size w)
  have H : ((spec_Clean.f k a0).bind fun t159 => ((spec_Split.f k t159).bind fun t160 => (if 0 < (t160.length : Int) then (if (rdOf ByteArray.empty t160 0).toList = ([] : List UInt8) then (if 1 ≤ (t160.length : Int) then (some (t160.drop (1 : Int).toNat)) else (none)) else (some t160)) else (none)))) = some r := h
  clear h
  replace H := Option.bind_eq_some_iff.mp H
  obtain ⟨t159, A20, H⟩ := H
  replace H : ((spec_Split.f k t159).bind fun t160 => (if 0 < (t160.length : Int) then (if (rdOf ByteArray.empty t160 0).toList = ([] : List UInt8) then (if 1 ≤ (t160.length : Int) then (some (t160.drop (1 : Int).toNat)) else (none)) else (some t160)) else (none))) = some r := H
  have A2 := Aside0.mk A20
  clear A20
  replace H := Option.bind_eq_some_iff.mp H
  obtain ⟨t160, A30, H⟩ := H
  replace H : (if 0 < (t160.length : Int) then (if (rdOf ByteArray.empty t160 0).toList = ([] : List UInt8) then (if 1 ≤ (t160.length : Int) then (some (t160.drop (1 : Int).toNat)) else (none)) else (some t160)) else (none)) = some r := H
  have A3 := Aside0.mk A30
  clear A30
  by_cases c4 : 0 < (t160.length : Int)
  · rw [if_pos c4] at H
    have c4b0 : decide (0 < (t160.length : Int)) = true := decide_eq_true c4
    have c4b1 : decide (0 < t160.length) = true := decide_eq_true (by omega)
    clear c4
    by_cases c5 : (rdOf ByteArray.empty t160 0).toList = ([] : List UInt8)
    · rw [if_pos c5] at H
      have c5b0 : ((rdOf ByteArray.empty t160 0).toList == ([] : List UInt8)) = true := beq_iff_eq.mpr c5
      have c5b1 : ((rdOf ByteArray.empty t160 0).toList != ([] : List UInt8)) = false := bne_eq_false_iff_eq.mpr c5
      clear c5
      by_cases c6 : 1 ≤ (t160.length : Int)
      · rw [if_pos c6] at H
        have c6b0 := eq_true c6
        have c6b1 : decide (1 ≤ (t160.length : Int)) = true := decide_eq_true c6
        clear c6
        obtain ⟨y164, hy164⟩ : ∃ y_ : List ByteArray, y_ = (t160.drop (1 : Int).toNat) := ⟨_, rfl⟩
        replace H : (some y164) = some r := by first | (rw [hy164]; with_reducible exact H) | (have H2_ := (Option.bind_some _ _).symm.trans H; rw [hy164]; with_reducible exact H2_) | (have H2_ := (Option.bind_some _ _).symm.trans H; with_reducible exact H2_) | with_reducible exact H | (rw [hy164]; exact H) | exact H
        have Ny164 := Aside0.mk hy164
        clear hy164
        obtain rfl := Option.some.inj H
        go_enter Try.func25, Try.ntmps25
        go_wp2_with (first | ((with_reducible refine gate_callee (f := 54) rfl ?_); refine goesL_ (some 5) rfl rfl Try.func54 (by kernel_rfl) rfl #[.string a0] rfl (by (try simp only [List.map_toArray, List.map_cons, List.map_nil]); first | done | rfl | (simp only [List.length_drop, List.length_take]; rfl)) ?_; (with_reducible refine (spec_Clean.calls k a0 t159 _ A2.out).mono ?_); rintro e w7 ⟨rfl, hb⟩; refine ⟨_, rfl, ?_⟩; have n0_ := Aside0.mk (below_step (by repeat (first | (with_reducible first | exact HB.out | apply below_alloc | apply pw_below_drewN | apply below_drew1) | exact HB.out)) hb); clear HB; have HB := n0_; clear n0_; (try clear hb); (try clear hb2); (try clear hk); (try clear hi)) | ((with_reducible refine gate_callee (f := 35) rfl ?_); refine goesL_ (some 6) rfl rfl Try.func35 (by kernel_rfl) rfl #[.string t159] rfl (by (try simp only [List.map_toArray, List.map_cons, List.map_nil]); first | done | rfl | (simp only [List.length_drop, List.length_take]; rfl)) ?_; (with_reducible refine (spec_Split.calls k t159 t160 _ A3.out).mono ?_); rintro e w8 ⟨v161, rfl, ho0, hb⟩; refine ⟨_, rfl, ?_⟩; have n0_ := Aside0.mk (Kd.R_lower ho0 (below_size (by repeat (first | (with_reducible first | exact HB.out | apply below_alloc | apply pw_below_drewN | apply below_drew1) | exact HB.out)))); have n1_ := Aside0.mk (below_step (by repeat (first | (with_reducible first | exact HB.out | apply below_alloc | apply pw_below_drewN | apply below_drew1) | exact HB.out)) hb); clear HB; have HO162 := n0_; have HB := n1_; clear n0_ n1_; (try clear hb); (try clear hb2); (try clear hk); (try clear hi); (try clear ho0); obtain ⟨Ao9, co9, eo9⟩ := Kd.R_slice HO162.out; subst eo9; have p163 : 0 ≤ (0 : Int) := (by omega); have q163 : 0 < (t160.length : Int) := of_decide_eq_true (by first | (with_reducible assumption) | assumption); obtain ⟨ad163, e163, hx163_0⟩ := Kd.at_string (Kd.R_reads' HO162.out).2.2 0 p163 q163; cases e163; have qi163 : (0 < t160.length) = True := eq_true (by omega); (try rw [show ((0 : Int)).toNat = 0 from rfl] at hx163_0); (try rw [Addr.add_zero'] at hx163_0); replace p163 := eq_true p163; replace q163 := eq_true q163; have q10 : (1 : Int) ≤ ((t160.length : Int) : Int) := of_decide_eq_true (by first | (with_reducible assumption) | assumption); obtain ⟨i010, hi010, _, hsz10, _⟩ := info_parts info9; have hcut10 := cut_from (P := Try.prog) 42 9 .i64 Try.underlying42 hi010 1 hsz10 (some ad163) t160.length co9 1 (by omega) q10; have hr10 := Kd.Q_drop (k := (1 : Int).toNat) (Kd.Q_of_R HO162.out) (by omega); obtain ⟨A10, hA10⟩ : ∃ A1, A1 = (if co9 = (1 : Int).toNat then (some ad163) else ((some ad163) : Option Addr).map (·.add ((1 : Int).toNat * 1))) := ⟨_, rfl⟩; obtain ⟨c10, hc10⟩ : ∃ c1, c1 = co9 - (1 : Int).toNat := ⟨_, rfl⟩; have hy10 : y164.length = t160.length - (1 : Int).toNat := (by rw [Ny164.out, List.length_drop]); rw [← Ny164.out] at hr10; rw [← hy10, ← hA10, ← hc10] at hcut10; replace hr10 : Kd.Q Kd.string 9 w8 w.heap.size (fun _ => True) (.slice A10 y164.length c10) y164 := (by rw [hA10, hc10, hy10]; exact hr10); have HE10 : Aside0 ((Value.slice A10 y164.length c10).ownBlock = (.slice (some ad163) t160.length co9 : Value).ownBlock) := ⟨by rw [hA10]; split <;> (cases ((some ad163) : Option Addr) <;> (first | rfl | simp [Value.ownBlock, add_block]))⟩; clear hy10 hi010 hsz10 HO162 hA10 hc10; have HO166 := Aside0.mk hr10; clear hr10; replace q10 := eq_true q10))
        go_ret
        exact ⟨_, by first | rfl | (simp [errV_none, errV_some] <;> rfl) | (simp [*, errV_none, errV_some] <;> rfl), by (with_reducible repeat (first | apply Kd.Q_alloc | apply Kd.Q_drewN | apply Kd.Q_drew)); exact HO166.out, by repeat (first | (with_reducible first | exact HB.out | apply below_alloc | apply pw_below_drewN | apply below_drew1) | exact HB.out)⟩
      · rw [if_neg c6] at H
        exact absurd H (by simp)
    · rw [if_neg c5] at H
      have c5b0 : ((rdOf ByteArray.empty t160 0).toList == ([] : List UInt8)) = false := beq_eq_false_iff_ne.mpr c5
      have c5b1 : ((rdOf ByteArray.empty t160 0).toList != ([] : List UInt8)) = true := bne_iff_ne.mpr c5
      obtain rfl := Option.some.inj H
      go_enter Try.func25, Try.ntmps25
      go_wp2_with (first | ((with_reducible refine gate_callee (f := 54) rfl ?_); refine goesL_ (some 5) rfl rfl Try.func54 (by kernel_rfl) rfl #[.string a0] rfl (by (try simp only [List.map_toArray, List.map_cons, List.map_nil]); first | done | rfl | (simp only [List.length_drop, List.length_take]; rfl)) ?_; (with_reducible refine (spec_Clean.calls k a0 t159 _ A2.out).mono ?_); rintro e w11 ⟨rfl, hb⟩; refine ⟨_, rfl, ?_⟩; have n0_ := Aside0.mk (below_step (by repeat (first | (with_reducible first | exact HB.out | apply below_alloc | apply pw_below_drewN | apply below_drew1) | exact HB.out)) hb); clear HB; have HB := n0_; clear n0_; (try clear hb); (try clear hb2); (try clear hk); (try clear hi)) | ((with_reducible refine gate_callee (f := 35) rfl ?_); refine goesL_ (some 6) rfl rfl Try.func35 (by kernel_rfl) rfl #[.string t159] rfl (by (try simp only [List.map_toArray, List.map_cons, List.map_nil]); first | done | rfl | (simp only [List.length_drop, List.length_take]; rfl)) ?_; (with_reducible refine (spec_Split.calls k t159 t160 _ A3.out).mono ?_); rintro e w12 ⟨v161, rfl, ho0, hb⟩; refine ⟨_, rfl, ?_⟩; have n0_ := Aside0.mk (Kd.R_lower ho0 (below_size (by repeat (first | (with_reducible first | exact HB.out | apply below_alloc | apply pw_below_drewN | apply below_drew1) | exact HB.out)))); have n1_ := Aside0.mk (below_step (by repeat (first | (with_reducible first | exact HB.out | apply below_alloc | apply pw_below_drewN | apply below_drew1) | exact HB.out)) hb); clear HB; have HO162 := n0_; have HB := n1_; clear n0_ n1_; (try clear hb); (try clear hb2); (try clear hk); (try clear hi); (try clear ho0); obtain ⟨Ao13, co13, eo13⟩ := Kd.R_slice HO162.out; subst eo13; have p163 : 0 ≤ (0 : Int) := (by omega); have q163 : 0 < (t160.length : Int) := of_decide_eq_true (by first | (with_reducible assumption) | assumption); obtain ⟨ad163, e163, hx163_0⟩ := Kd.at_string (Kd.R_reads' HO162.out).2.2 0 p163 q163; cases e163; have qi163 : (0 < t160.length) = True := eq_true (by omega); (try rw [show ((0 : Int)).toNat = 0 from rfl] at hx163_0); (try rw [Addr.add_zero'] at hx163_0); replace p163 := eq_true p163; replace q163 := eq_true q163))
      go_ret
      exact ⟨_, by first | rfl | (simp [errV_none, errV_some] <;> rfl) | (simp [*, errV_none, errV_some] <;> rfl), Kd.Q_of_R (by (with_reducible repeat (first | apply Kd.R_alloc | apply Kd.R_drewN | apply Kd.R_drew)); exact HO162.out), by repeat (first | (with_reducible first | exact HB.out | apply below_alloc | apply pw_below_drewN | apply below_drew1) | exact HB.out)⟩
  · rw [if_neg c4] at H
    exact absurd H (by simp)

/-! ### path_Path_IsJustAKey: function 55 -/
def path_Path_IsJustAKey.f (k : Nat) (a0 : ByteArray) : Option (Bool) := (path_Path_Segments.f k a0).bind fun t167 => (if (t167.length : Int) = 2 then (if 0 < (t167.length : Int) then (if (rdOf ByteArray.empty t167 0).toList = ([105, 112, 102, 115] : List UInt8) then (some true) else (some ((rdOf ByteArray.empty t167 0).toList == ([105, 112, 108, 100] : List UInt8)))) else (none)) else (some false))
theorem path_Path_IsJustAKey.mono : ∀ a0 k, LeO (path_Path_IsJustAKey.f k a0) (path_Path_IsJustAKey.f (k + 1) a0) := by
  intro a0 k
  unfold path_Path_IsJustAKey.f
  repeat' first
      | (with_reducible exact path_Path_Segments.mono _ _)
      | (with_reducible exact LeO.refl _)
      | (with_reducible exact LeO.none _)
      | (with_reducible refine LeO.ite ?_ ?_)
      | (with_reducible refine LeO.bind ?_ (fun _ => ?_))
      | exact path_Path_Segments.mono _ _
      | exact LeO.none _
      | refine LeO.ite ?_ ?_
      | refine LeO.bind ?_ (fun _ => ?_)
set_option maxHeartbeats 8000000 in
set_option maxRecDepth 100000 in
theorem path_Path_IsJustAKey.calls (k : Nat) (a0 : ByteArray) (r : Bool) (w : World) (h : path_Path_IsJustAKey.f k a0 = some r) :
    Calls Try.prog 55 #[.string a0] w fun e w' => e = .returned (.bool r) ∧ Below w.heap.size w w' := by
  have HB := Aside0.mk (Below.refl w.heap.size w)
  have H : ((path_Path_Segments.f k a0).bind fun t167 => (if (t167.length : Int) = 2 then (if 0 < (t167.length : Int) then (if (rdOf ByteArray.empty t167 0).toList = ([105, 112, 102, 115] : List UInt8) then (some true) else (some ((rdOf ByteArray.empty t167 0).toList == ([105, 112, 108, 100] : List UInt8)))) else (none)) else (some false))) = some r := h
  clear h
  replace H := Option.bind_eq_some_iff.mp H
  obtain ⟨t167, A20, H⟩ := H
  replace H : (if (t167.length : Int) = 2 then (if 0 < (t167.length : Int) then (if (rdOf ByteArray.empty t167 0).toList = ([105, 112, 102, 115] : List UInt8) then (some true) else (some ((rdOf ByteArray.empty t167 0).toList == ([105, 112, 108, 100] : List UInt8)))) else (none)) else (some false)) = some r := H
  have A2 := Aside0.mk A20
  clear A20
  by_cases c3 : (t167.length : Int) = 2
  · rw [if_pos c3] at H
    have c3b0 : ((t167.length : Int) == 2) = true := beq_iff_eq.mpr c3
    have c3b1 : ((t167.length : Int) != 2) = false := bne_eq_false_iff_eq.mpr c3
    clear c3
    by_cases c4 : 0 < (t167.length : Int)
    · rw [if_pos c4] at H
      have c4b0 : decide (0 < (t167.length : Int)) = true := decide_eq_true c4
      have c4b1 : decide (0 < t167.length) = true := decide_eq_true (by omega)
      clear c4
      by_cases c5 : (rdOf ByteArray.empty t167 0).toList = ([105, 112, 102, 115] : List UInt8)
      · rw [if_pos c5] at H
        have c5b0 : ((rdOf ByteArray.empty t167 0).toList == ([105, 112, 102, 115] : List UInt8)) = true := beq_iff_eq.mpr c5
        have c5b1 : ((rdOf ByteArray.empty t167 0).toList != ([105, 112, 102, 115] : List UInt8)) = false := bne_eq_false_iff_eq.mpr c5
        clear c5
        obtain rfl := Option.some.inj H
        go_enter Try.func55, Try.ntmps55
        go_wp2_with (first | ((with_reducible refine gate_callee (f := 53) rfl ?_); refine goesL_ (some 5) rfl rfl Try.func53 (by kernel_rfl) rfl #[.string a0] rfl (by (try simp only [List.map_toArray, List.map_cons, List.map_nil]); first | done | rfl | (simp only [List.length_drop, List.length_take]; rfl)) ?_; (with_reducible refine (path_Path_Segments.calls k a0 t167 _ A2.out).mono ?_); rintro e w6 ⟨v168, rfl, ho0, hb⟩; refine ⟨_, rfl, ?_⟩; have n0_ := Aside0.mk (Kd.Q_lower ho0 (below_size (by repeat (first | (with_reducible first | exact HB.out | apply below_alloc | apply pw_below_drewN | apply below_drew1) | exact HB.out)))); have n1_ := Aside0.mk (below_step (by repeat (first | (with_reducible first | exact HB.out | apply below_alloc | apply pw_below_drewN | apply below_drew1) | exact HB.out)) hb); clear HB; have HO169 := n0_; have HB := n1_; clear n0_ n1_; (try clear hb); (try clear hb2); (try clear hk); (try clear hi); (try clear ho0); obtain ⟨Ao7, co7, eo7, _⟩ := Kd.Q_slice HO169.out; subst eo7; have p170 : 0 ≤ (0 : Int) := (by omega); have q170 : 0 < (t167.length : Int) := of_decide_eq_true (by first | (with_reducible assumption) | assumption); obtain ⟨ad170, e170, hx170_0⟩ := Kd.at_string (Kd.Q_reads' HO169.out).2.2 0 p170 q170; cases e170; have qi170 : (0 < t167.length) = True := eq_true (by omega); (try rw [show ((0 : Int)).toNat = 0 from rfl] at hx170_0); (try rw [Addr.add_zero'] at hx170_0); replace p170 := eq_true p170; replace q170 := eq_true q170))
        go_ret
        exact ⟨by first | rfl | (simp [errV_none, errV_some] <;> rfl) | (simp [*, errV_none, errV_some] <;> rfl), by repeat (first | (with_reducible first | exact HB.out | apply below_alloc | apply pw_below_drewN | apply below_drew1) | exact HB.out)⟩
      · rw [if_neg c5] at H
        have c5b0 : ((rdOf ByteArray.empty t167 0).toList == ([105, 112, 102, 115] : List UInt8)) = false := beq_eq_false_iff_ne.mpr c5
        have c5b1 : ((rdOf ByteArray.empty t167 0).toList != ([105, 112, 102, 115] : List UInt8)) = true := bne_iff_ne.mpr c5
        obtain rfl := Option.some.inj H
        go_enter Try.func55, Try.ntmps55
        go_wp2_with (first | ((with_reducible refine gate_callee (f := 53) rfl ?_); refine goesL_ (some 5) rfl rfl Try.func53 (by kernel_rfl) rfl #[.string a0] rfl (by (try simp only [List.map_toArray, List.map_cons, List.map_nil]); first | done | rfl | (simp only [List.length_drop, List.length_take]; rfl)) ?_; (with_reducible refine (path_Path_Segments.calls k a0 t167 _ A2.out).mono ?_); rintro e w8 ⟨v168, rfl, ho0, hb⟩; refine ⟨_, rfl, ?_⟩; have n0_ := Aside0.mk (Kd.Q_lower ho0 (below_size (by repeat (first | (with_reducible first | exact HB.out | apply below_alloc | apply pw_below_drewN | apply below_drew1) | exact HB.out)))); have n1_ := Aside0.mk (below_step (by repeat (first | (with_reducible first | exact HB.out | apply below_alloc | apply pw_below_drewN | apply below_drew1) | exact HB.out)) hb); clear HB; have HO169 := n0_; have HB := n1_; clear n0_ n1_; (try clear hb); (try clear hb2); (try clear hk); (try clear hi); (try clear ho0); obtain ⟨Ao9, co9, eo9, _⟩ := Kd.Q_slice HO169.out; subst eo9; have p170 : 0 ≤ (0 : Int) := (by omega); have q170 : 0 < (t167.length : Int) := of_decide_eq_true (by first | (with_reducible assumption) | assumption); obtain ⟨ad170, e170, hx170_0⟩ := Kd.at_string (Kd.Q_reads' HO169.out).2.2 0 p170 q170; cases e170; have qi170 : (0 < t167.length) = True := eq_true (by omega); (try rw [show ((0 : Int)).toNat = 0 from rfl] at hx170_0); (try rw [Addr.add_zero'] at hx170_0); replace p170 := eq_true p170; replace q170 := eq_true q170; have p171 : 0 ≤ (0 : Int) := (by omega); have q171 : 0 < (t167.length : Int) := of_decide_eq_true (by first | (with_reducible assumption) | assumption); obtain ⟨ad171, e171, hx171_0⟩ := Kd.at_string (Kd.Q_reads' HO169.out).2.2 0 p171 q171; obtain rfl : ad170 = ad171 := (by injection e171); have qi171 : (0 < t167.length) = True := eq_true (by omega); (try rw [show ((0 : Int)).toNat = 0 from rfl] at hx171_0); (try rw [Addr.add_zero'] at hx171_0); replace p171 := eq_true p171; replace q171 := eq_true q171))
        go_ret
        exact ⟨by first | rfl | (simp [errV_none, errV_some] <;> rfl) | (simp [*, errV_none, errV_some] <;> rfl), by repeat (first | (with_reducible first | exact HB.out | apply below_alloc | apply pw_below_drewN | apply below_drew1) | exact HB.out)⟩
    · rw [if_neg c4] at H
      exact absurd H (by simp)
  · rw [if_neg c3] at H
    have c3b0 : ((t167.length : Int) == 2) = false := beq_eq_false_iff_ne.mpr c3
    have c3b1 : ((t167.length : Int) != 2) = true := bne_iff_ne.mpr c3
    obtain rfl := Option.some.inj H
    go_enter Try.func55, Try.ntmps55
    go_wp2_with (first | ((with_reducible refine gate_callee (f := 53) rfl ?_); refine goesL_ (some 5) rfl rfl Try.func53 (by kernel_rfl) rfl #[.string a0] rfl (by (try simp only [List.map_toArray, List.map_cons, List.map_nil]); first | done | rfl | (simp only [List.length_drop, List.length_take]; rfl)) ?_; (with_reducible refine (path_Path_Segments.calls k a0 t167 _ A2.out).mono ?_); rintro e w10 ⟨v168, rfl, ho0, hb⟩; refine ⟨_, rfl, ?_⟩; have n0_ := Aside0.mk (Kd.Q_lower ho0 (below_size (by repeat (first | (with_reducible first | exact HB.out | apply below_alloc | apply pw_below_drewN | apply below_drew1) | exact HB.out)))); have n1_ := Aside0.mk (below_step (by repeat (first | (with_reducible first | exact HB.out | apply below_alloc | apply pw_below_drewN | apply below_drew1) | exact HB.out)) hb); clear HB; have HO169 := n0_; have HB := n1_; clear n0_ n1_; (try clear hb); (try clear hb2); (try clear hk); (try clear hi); (try clear ho0); obtain ⟨Ao11, co11, eo11, _⟩ := Kd.Q_slice HO169.out; subst eo11))
    go_ret
    exact ⟨by first | rfl | (simp [errV_none, errV_some] <;> rfl) | (simp [*, errV_none, errV_some] <;> rfl), by repeat (first | (with_reducible first | exact HB.out | apply below_alloc | apply pw_below_drewN | apply below_drew1) | exact HB.out)⟩

/-! ### impl_PathIsKey: function 26 -/
def impl_PathIsKey.f (k : Nat) (a0 : ByteArray) : Option (Bool) := (path_Path_IsJustAKey.f k a0).bind fun t172 => (some t172)
theorem impl_PathIsKey.mono : ∀ a0 k, LeO (impl_PathIsKey.f k a0) (impl_PathIsKey.f (k + 1) a0) := by
  intro a0 k
  unfold impl_PathIsKey.f
  repeat' first
      | (with_reducible exact path_Path_IsJustAKey.mono _ _)
      | (with_reducible exact LeO.refl _)
      | (with_reducible exact LeO.none _)
      | (with_reducible refine LeO.ite ?_ ?_)
      | (with_reducible refine LeO.bind ?_ (fun _ => ?_))
      | exact path_Path_IsJustAKey.mono _ _
      | exact LeO.none _
      | refine LeO.ite ?_ ?_
      | refine LeO.bind ?_ (fun _ => ?_)
set_option maxHeartbeats 8000000 in
set_option maxRecDepth 100000 in
theorem impl_PathIsKey.calls (k : Nat) (a0 : ByteArray) (r : Bool) (w : World) (h : impl_PathIsKey.f k a0 = some r) :
    Calls Try.prog 26 #[.string a0] w fun e w' => e = .returned (.bool r) ∧ Below w.heap.size w w' := by
  have HB := Aside0.mk (Below.refl w.heap.size w)
  have H : ((path_Path_IsJustAKey.f k a0).bind fun t172 => (some t172)) = some r := h
  clear h
  replace H := Option.bind_eq_some_iff.mp H
  obtain ⟨t172, A20, H⟩ := H
  replace H : (some t172) = some r := H
  have A2 := Aside0.mk A20
  clear A20
  obtain rfl := Option.some.inj H
  go_enter Try.func26, Try.ntmps26
  go_wp2_with (first | ((with_reducible refine gate_callee (f := 55) rfl ?_); refine goesL_ (some 4) rfl rfl Try.func55 (by kernel_rfl) rfl #[.string a0] rfl (by (try simp only [List.map_toArray, List.map_cons, List.map_nil]); first | done | rfl | (simp only [List.length_drop, List.length_take]; rfl)) ?_; (with_reducible refine (path_Path_IsJustAKey.calls k a0 t172 _ A2.out).mono ?_); rintro e w3 ⟨rfl, hb⟩; refine ⟨_, rfl, ?_⟩; have n0_ := Aside0.mk (below_step (by repeat (first | (with_reducible first | exact HB.out | apply below_alloc | apply pw_below_drewN | apply below_drew1) | exact HB.out)) hb); clear HB; have HB := n0_; clear n0_; (try clear hb); (try clear hb2); (try clear hk); (try clear hi)))
  go_ret
  exact ⟨by first | rfl | (simp [errV_none, errV_some] <;> rfl) | (simp [*, errV_none, errV_some] <;> rfl), by repeat (first | (with_reducible first | exact HB.out | apply below_alloc | apply pw_below_drewN | apply below_drew1) | exact HB.out)⟩

/-! ### spec_JustKey: function 27 -/
def spec_JustKey.f (k : Nat) (a0 : ByteArray) : Option (Bool) := (spec_Segments.f k a0).bind fun t173 => (if (t173.length : Int) = 2 then (if 0 < (t173.length : Int) then (if (rdOf ByteArray.empty t173 0).toList = ([105, 112, 102, 115] : List UInt8) then (some true) else (some ((rdOf ByteArray.empty t173 0).toList == ([105, 112, 108, 100] : List UInt8)))) else (none)) else (some false))
theorem spec_JustKey.mono : ∀ a0 k, LeO (spec_JustKey.f k a0) (spec_JustKey.f (k + 1) a0) := by
  intro a0 k
  unfold spec_JustKey.f
  repeat' first
      | (with_reducible exact spec_Segments.mono _ _)
      | (with_reducible exact LeO.refl _)
      | (with_reducible exact LeO.none _)
      | (with_reducible refine LeO.ite ?_ ?_)
      | (with_reducible refine LeO.bind ?_ (fun _ => ?_))
      | exact spec_Segments.mono _ _
      | exact LeO.none _
      | refine LeO.ite ?_ ?_
      | refine LeO.bind ?_ (fun _ => ?_)
set_option maxHeartbeats 8000000 in
set_option maxRecDepth 100000 in
theorem spec_JustKey.calls (k : Nat) (a0 : ByteArray) (r : Bool) (w : World) (h : spec_JustKey.f k a0 = some r) :
    Calls Try.prog 27 #[.string a0] w fun e w' => e = .returned (.bool r) ∧ Below w.heap.size w w' := by
  have HB := Aside0.mk (Below.refl w.heap.size w)
  have H : ((spec_Segments.f k a0).bind fun t173 => (if (t173.length : Int) = 2 then (if 0 < (t173.length : Int) then (if (rdOf ByteArray.empty t173 0).toList = ([105, 112, 102, 115] : List UInt8) then (some true) else (some ((rdOf ByteArray.empty t173 0).toList == ([105, 112, 108, 100] : List UInt8)))) else (none)) else (some false))) = some r := h
  clear h
  replace H := Option.bind_eq_some_iff.mp H
  obtain ⟨t173, A20, H⟩ := H
  replace H : (if (t173.length : Int) = 2 then (if 0 < (t173.length : Int) then (if (rdOf ByteArray.empty t173 0).toList = ([105, 112, 102, 115] : List UInt8) then (some true) else (some ((rdOf ByteArray.empty t173 0).toList == ([105, 112, 108, 100] : List UInt8)))) else (none)) else (some false)) = some r := H
  have A2 := Aside0.mk A20
  clear A20
  by_cases c3 : (t173.length : Int) = 2
  · rw [if_pos c3] at H
    have c3b0 : ((t173.length : Int) == 2) = true := beq_iff_eq.mpr c3
    have c3b1 : ((t173.length : Int) != 2) = false := bne_eq_false_iff_eq.mpr c3
    clear c3
    by_cases c4 : 0 < (t173.length : Int)
    · rw [if_pos c4] at H
      have c4b0 : decide (0 < (t173.length : Int)) = true := decide_eq_true c4
      have c4b1 : decide (0 < t173.length) = true := decide_eq_true (by omega)
      clear c4
      by_cases c5 : (rdOf ByteArray.empty t173 0).toList = ([105, 112, 102, 115] : List UInt8)
      · rw [if_pos c5] at H
        have c5b0 : ((rdOf ByteArray.empty t173 0).toList == ([105, 112, 102, 115] : List UInt8)) = true := beq_iff_eq.mpr c5
        have c5b1 : ((rdOf ByteArray.empty t173 0).toList != ([105, 112, 102, 115] : List UInt8)) = false := bne_eq_false_iff_eq.mpr c5
        clear c5
        obtain rfl := Option.some.inj H
        go_enter Try.func27, Try.ntmps27
        go_wp2_with (first | ((with_reducible refine gate_callee (f := 25) rfl ?_); refine goesL_ (some 5) rfl rfl Try.func25 (by kernel_rfl) rfl #[.string a0] rfl (by (try simp only [List.map_toArray, List.map_cons, List.map_nil]); first | done | rfl | (simp only [List.length_drop, List.length_take]; rfl)) ?_; (with_reducible refine (spec_Segments.calls k a0 t173 _ A2.out).mono ?_); rintro e w6 ⟨v174, rfl, ho0, hb⟩; refine ⟨_, rfl, ?_⟩; have n0_ := Aside0.mk (Kd.Q_lower ho0 (below_size (by repeat (first | (with_reducible first | exact HB.out | apply below_alloc | apply pw_below_drewN | apply below_drew1) | exact HB.out)))); have n1_ := Aside0.mk (below_step (by repeat (first | (with_reducible first | exact HB.out | apply below_alloc | apply pw_below_drewN | apply below_drew1) | exact HB.out)) hb); clear HB; have HO175 := n0_; have HB := n1_; clear n0_ n1_; (try clear hb); (try clear hb2); (try clear hk); (try clear hi); (try clear ho0); obtain ⟨Ao7, co7, eo7, _⟩ := Kd.Q_slice HO175.out; subst eo7; have p176 : 0 ≤ (0 : Int) := (by omega); have q176 : 0 < (t173.length : Int) := of_decide_eq_true (by first | (with_reducible assumption) | assumption); obtain ⟨ad176, e176, hx176_0⟩ := Kd.at_string (Kd.Q_reads' HO175.out).2.2 0 p176 q176; cases e176; have qi176 : (0 < t173.length) = True := eq_true (by omega); (try rw [show ((0 : Int)).toNat = 0 from rfl] at hx176_0); (try rw [Addr.add_zero'] at hx176_0); replace p176 := eq_true p176; replace q176 := eq_true q176))
        go_ret
        exact ⟨by first | rfl | (simp [errV_none, errV_some] <;> rfl) | (simp [*, errV_none, errV_some] <;> rfl), by repeat (first | (with_reducible first | exact HB.out | apply below_alloc | apply pw_below_drewN | apply below_drew1) | exact HB.out)⟩
      · rw [if_neg c5] at H
        have c5b0 : ((rdOf ByteArray.empty t173 0).toList == ([105, 112, 102, 115] : List UInt8)) = false := beq_eq_false_iff_ne.mpr c5
        have c5b1 : ((rdOf ByteArray.empty t173 0).toList != ([105, 112, 102, 115] : List UInt8)) = true := bne_iff_ne.mpr c5
        obtain rfl := Option.some.inj H
        go_enter Try.func27, Try.ntmps27
        go_wp2_with (first | ((with_reducible refine gate_callee (f := 25) rfl ?_); refine goesL_ (some 5) rfl rfl Try.func25 (by kernel_rfl) rfl #[.string a0] rfl (by (try simp only [List.map_toArray, List.map_cons, List.map_nil]); first | done | rfl | (simp only [List.length_drop, List.length_take]; rfl)) ?_; (with_reducible refine (spec_Segments.calls k a0 t173 _ A2.out).mono ?_); rintro e w8 ⟨v174, rfl, ho0, hb⟩; refine ⟨_, rfl, ?_⟩; have n0_ := Aside0.mk (Kd.Q_lower ho0 (below_size (by repeat (first | (with_reducible first | exact HB.out | apply below_alloc | apply pw_below_drewN | apply below_drew1) | exact HB.out)))); have n1_ := Aside0.mk (below_step (by repeat (first | (with_reducible first | exact HB.out | apply below_alloc | apply pw_below_drewN | apply below_drew1) | exact HB.out)) hb); clear HB; have HO175 := n0_; have HB := n1_; clear n0_ n1_; (try clear hb); (try clear hb2); (try clear hk); (try clear hi); (try clear ho0); obtain ⟨Ao9, co9, eo9, _⟩ := Kd.Q_slice HO175.out; subst eo9; have p176 : 0 ≤ (0 : Int) := (by omega); have q176 : 0 < (t173.length : Int) := of_decide_eq_true (by first | (with_reducible assumption) | assumption); obtain ⟨ad176, e176, hx176_0⟩ := Kd.at_string (Kd.Q_reads' HO175.out).2.2 0 p176 q176; cases e176; have qi176 : (0 < t173.length) = True := eq_true (by omega); (try rw [show ((0 : Int)).toNat = 0 from rfl] at hx176_0); (try rw [Addr.add_zero'] at hx176_0); replace p176 := eq_true p176; replace q176 := eq_true q176; have p177 : 0 ≤ (0 : Int) := (by omega); have q177 : 0 < (t173.length : Int) := of_decide_eq_true (by first | (with_reducible assumption) | assumption); obtain ⟨ad177, e177, hx177_0⟩ := Kd.at_string (Kd.Q_reads' HO175.out).2.2 0 p177 q177; obtain rfl : ad176 = ad177 := (by injection e177); have qi177 : (0 < t173.length) = True := eq_true (by omega); (try rw [show ((0 : Int)).toNat = 0 from rfl] at hx177_0); (try rw [Addr.add_zero'] at hx177_0); replace p177 := eq_true p177; replace q177 := eq_true q177))
        go_ret
        exact ⟨by first | rfl | (simp [errV_none, errV_some] <;> rfl) | (simp [*, errV_none, errV_some] <;> rfl), by repeat (first | (with_reducible first | exact HB.out | apply below_alloc | apply pw_below_drewN | apply below_drew1) | exact HB.out)⟩
    · rw [if_neg c4] at H
      exact absurd H (by simp)
  · rw [if_neg c3] at H
    have c3b0 : ((t173.length : Int) == 2) = false := beq_eq_false_iff_ne.mpr c3
    have c3b1 : ((t173.length : Int) != 2) = true := bne_iff_ne.mpr c3
    obtain rfl := Option.some.inj H
    go_enter Try.func27, Try.ntmps27
    go_wp2_with (first | ((with_reducible refine gate_callee (f := 25) rfl ?_); refine goesL_ (some 5) rfl rfl Try.func25 (by kernel_rfl) rfl #[.string a0] rfl (by (try simp only [List.map_toArray, List.map_cons, List.map_nil]); first | done | rfl | (simp only [List.length_drop, List.length_take]; rfl)) ?_; (with_reducible refine (spec_Segments.calls k a0 t173 _ A2.out).mono ?_); rintro e w10 ⟨v174, rfl, ho0, hb⟩; refine ⟨_, rfl, ?_⟩; have n0_ := Aside0.mk (Kd.Q_lower ho0 (below_size (by repeat (first | (with_reducible first | exact HB.out | apply below_alloc | apply pw_below_drewN | apply below_drew1) | exact HB.out)))); have n1_ := Aside0.mk (below_step (by repeat (first | (with_reducible first | exact HB.out | apply below_alloc | apply pw_below_drewN | apply below_drew1) | exact HB.out)) hb); clear HB; have HO175 := n0_; have HB := n1_; clear n0_ n1_; (try clear hb); (try clear hb2); (try clear hk); (try clear hi); (try clear ho0); obtain ⟨Ao11, co11, eo11, _⟩ := Kd.Q_slice HO175.out; subst eo11))
    go_ret
    exact ⟨by first | rfl | (simp [errV_none, errV_some] <;> rfl) | (simp [*, errV_none, errV_some] <;> rfl), by repeat (first | (with_reducible first | exact HB.out | apply below_alloc | apply pw_below_drewN | apply below_drew1) | exact HB.out)⟩

end Go.Proofs.Ytbmeegkgcipmoaa.PFnPathSegments
