/- Printed by a program of this session (it drives the print of the kit, with contracts proved by hand beside): the Go functions of one law as Lean functions, and that the Go code comes to what they say. -/
import Derived.Test.YtbmeegkgcipmoaaPFnPathSegmentsx0
import Derived.Test.YtbmeegkgcipmoaaPFnPathSegmentsx5
namespace Go.Proofs.Ytbmeegkgcipmoaa.PFnPathSegments
open Go.RowKit Go.Proofs.YtbmeegkgcipmoaaL Go.Proofs.YtbmeegkgcipmoaaW.PrintWords Go.Proofs.YtbmeegkgcipmoaaW.PrintLast Go.Proofs.YtbmeegkgcipmoaaW.PrintMore
attribute [local go_sem] max2_int min2_int max_two min_two max_three min_three max_four min_four   -- for this text's walks alone
set_option linter.unusedVariables false
set_option linter.unusedSimpArgs false

/-! ### spec_Clean: function 54 -/
mutual
def spec_Clean.j0 : Nat → ByteArray → Bool → Option (ByteArray)
  | 0, _, _ => none
  | k + 1, x0, x3 => (spec_Split.f k x0).bind fun t143 => (spec_Clean.l0 k x3 ([] : List ByteArray) t143 (t143.length : Int) 0)
def spec_Clean.l0 : Nat → Bool → List ByteArray → List ByteArray → Int → Int → Option (ByteArray)
  | 0, _, _, _, _, _ => none
  | k + 1, x3, x4, x16, x17, x18 => if x18 < x17 then (if 0 ≤ x18 then (if x18 < (x16.length : Int) then (if (rdOf ByteArray.empty x16 x18).toList = ([] : List UInt8) then (spec_Clean.j2 k x3 x4 (rdOf ByteArray.empty x16 x18) x16 x17 x18 true) else (spec_Clean.j2 k x3 x4 (rdOf ByteArray.empty x16 x18) x16 x17 x18 ((rdOf ByteArray.empty x16 x18).toList == ([46] : List UInt8)))) else (none)) else (none)) else (if x3 = true then ((spec_Join.f k x4).bind fun t157 => (if 1 + t157.size ≤ 9223372036854775807 then (some ((⟨#[47]⟩ : ByteArray) ++ t157)) else (none))) else (if (x4.length : Int) = 0 then (some (⟨#[46]⟩ : ByteArray)) else ((spec_Join.f k x4).bind fun t158 => (some t158))))
def spec_Clean.j2 : Nat → Bool → List ByteArray → ByteArray → List ByteArray → Int → Int → Bool → Option (ByteArray)
  | 0, _, _, _, _, _, _, _ => none
  | k + 1, x3, x4, x6, x16, x17, x18, x22 => if x22 = true then (spec_Clean.l0 k x3 x4 x16 x17 (wrap64 (x18 + 1))) else (if x6.toList = ([46, 46] : List UInt8) then (if (x4.length : Int) > 0 then (if 0 ≤ (wrap64 ((x4.length : Int) - 1)) then (if (wrap64 ((x4.length : Int) - 1)) < (x4.length : Int) then (spec_Clean.j3 k x3 x4 x6 x16 x17 x18 ((rdOf ByteArray.empty x4 (wrap64 ((x4.length : Int) - 1))).toList != ([46, 46] : List UInt8))) else (none)) else (none)) else (spec_Clean.j3 k x3 x4 x6 x16 x17 x18 false)) else (if x4.length < 8796093022208 then (spec_Clean.l0 k x3 (x4 ++ [x6]) x16 x17 (wrap64 (x18 + 1))) else (none)))
def spec_Clean.j3 : Nat → Bool → List ByteArray → ByteArray → List ByteArray → Int → Int → Bool → Option (ByteArray)
  | 0, _, _, _, _, _, _, _ => none
  | k + 1, x3, x4, x6, x16, x17, x18, x36 => if x36 = true then (if 0 ≤ (wrap64 ((x4.length : Int) - 1)) then (if (wrap64 ((x4.length : Int) - 1)) ≤ (x4.length : Int) then (spec_Clean.l0 k x3 (x4.take ((wrap64 ((x4.length : Int) - 1)) : Int).toNat) x16 x17 (wrap64 (x18 + 1))) else (none)) else (none)) else (if x3 = true then (spec_Clean.l0 k x3 x4 x16 x17 (wrap64 (x18 + 1))) else (if x4.length < 8796093022208 then (spec_Clean.l0 k x3 (x4 ++ [x6]) x16 x17 (wrap64 (x18 + 1))) else (none)))
end
def spec_Clean.f (k : Nat) (a0 : ByteArray) : Option (ByteArray) := if (a0.size : Int) > 0 then (if 0 < (a0.size : Int) then (spec_Clean.j0 k a0 ((bt a0 0) == 47)) else (none)) else (spec_Clean.j0 k a0 false)
theorem spec_Clean.mono_l : ∀ k, (∀ y0 y1, LeO (spec_Clean.j0 k y0 y1) (spec_Clean.j0 (k + 1) y0 y1)) ∧ (∀ y0 y1 y2 y3 y4, LeO (spec_Clean.l0 k y0 y1 y2 y3 y4) (spec_Clean.l0 (k + 1) y0 y1 y2 y3 y4)) ∧ (∀ y0 y1 y2 y3 y4 y5 y6, LeO (spec_Clean.j2 k y0 y1 y2 y3 y4 y5 y6) (spec_Clean.j2 (k + 1) y0 y1 y2 y3 y4 y5 y6)) ∧ (∀ y0 y1 y2 y3 y4 y5 y6, LeO (spec_Clean.j3 k y0 y1 y2 y3 y4 y5 y6) (spec_Clean.j3 (k + 1) y0 y1 y2 y3 y4 y5 y6))
  | 0 => ⟨fun _ _ r h => by simp [spec_Clean.j0] at h, fun _ _ _ _ _ r h => by simp [spec_Clean.l0] at h, fun _ _ _ _ _ _ _ r h => by simp [spec_Clean.j2] at h, fun _ _ _ _ _ _ _ r h => by simp [spec_Clean.j3] at h⟩
  | k + 1 => by
    obtain ⟨ih0, ih1, ih2, ih3⟩ := spec_Clean.mono_l k
    refine ⟨?_, ?_, ?_, ?_⟩
    · intro y0 y1
      unfold spec_Clean.j0
      repeat' first
      | (with_reducible exact ih0 _ _)
      | (with_reducible exact ih1 _ _ _ _ _)
      | (with_reducible exact ih2 _ _ _ _ _ _ _)
      | (with_reducible exact ih3 _ _ _ _ _ _ _)
      | (with_reducible exact spec_Join.mono _ _)
      | (with_reducible exact spec_Split.mono _ _)
      | (with_reducible exact LeO.refl _)
      | (with_reducible exact LeO.none _)
      | (with_reducible refine LeO.ite ?_ ?_)
      | (with_reducible refine LeO.bind ?_ (fun _ => ?_))
      | exact ih0 _ _
      | exact ih1 _ _ _ _ _
      | exact ih2 _ _ _ _ _ _ _
      | exact ih3 _ _ _ _ _ _ _
      | exact spec_Join.mono _ _
      | exact spec_Split.mono _ _
      | exact LeO.none _
      | refine LeO.ite ?_ ?_
      | refine LeO.bind ?_ (fun _ => ?_)
    · intro y0 y1 y2 y3 y4
      unfold spec_Clean.l0
      repeat' first
      | (with_reducible exact ih0 _ _)
      | (with_reducible exact ih1 _ _ _ _ _)
      | (with_reducible exact ih2 _ _ _ _ _ _ _)
      | (with_reducible exact ih3 _ _ _ _ _ _ _)
      | (with_reducible exact spec_Join.mono _ _)
      | (with_reducible exact spec_Split.mono _ _)
      | (with_reducible exact LeO.refl _)
      | (with_reducible exact LeO.none _)
      | (with_reducible refine LeO.ite ?_ ?_)
      | (with_reducible refine LeO.bind ?_ (fun _ => ?_))
      | exact ih0 _ _
      | exact ih1 _ _ _ _ _
      | exact ih2 _ _ _ _ _ _ _
      | exact ih3 _ _ _ _ _ _ _
      | exact spec_Join.mono _ _
      | exact spec_Split.mono _ _
      | exact LeO.none _
      | refine LeO.ite ?_ ?_
      | refine LeO.bind ?_ (fun _ => ?_)
    · intro y0 y1 y2 y3 y4 y5 y6
      unfold spec_Clean.j2
      repeat' first
      | (with_reducible exact ih0 _ _)
      | (with_reducible exact ih1 _ _ _ _ _)
      | (with_reducible exact ih2 _ _ _ _ _ _ _)
      | (with_reducible exact ih3 _ _ _ _ _ _ _)
      | (with_reducible exact spec_Join.mono _ _)
      | (with_reducible exact spec_Split.mono _ _)
      | (with_reducible exact LeO.refl _)
      | (with_reducible exact LeO.none _)
      | (with_reducible refine LeO.ite ?_ ?_)
      | (with_reducible refine LeO.bind ?_ (fun _ => ?_))
      | exact ih0 _ _
      | exact ih1 _ _ _ _ _
      | exact ih2 _ _ _ _ _ _ _
      | exact ih3 _ _ _ _ _ _ _
      | exact spec_Join.mono _ _
      | exact spec_Split.mono _ _
      | exact LeO.none _
      | refine LeO.ite ?_ ?_
      | refine LeO.bind ?_ (fun _ => ?_)
    · intro y0 y1 y2 y3 y4 y5 y6
      unfold spec_Clean.j3
      repeat' first
      | (with_reducible exact ih0 _ _)
      | (with_reducible exact ih1 _ _ _ _ _)
      | (with_reducible exact ih2 _ _ _ _ _ _ _)
      | (with_reducible exact ih3 _ _ _ _ _ _ _)
      | (with_reducible exact spec_Join.mono _ _)
      | (with_reducible exact spec_Split.mono _ _)
      | (with_reducible exact LeO.refl _)
      | (with_reducible exact LeO.none _)
      | (with_reducible refine LeO.ite ?_ ?_)
      | (with_reducible refine LeO.bind ?_ (fun _ => ?_))
      | exact ih0 _ _
      | exact ih1 _ _ _ _ _
      | exact ih2 _ _ _ _ _ _ _
      | exact ih3 _ _ _ _ _ _ _
      | exact spec_Join.mono _ _
      | exact spec_Split.mono _ _
      | exact LeO.none _
      | refine LeO.ite ?_ ?_
      | refine LeO.bind ?_ (fun _ => ?_)
theorem spec_Clean.mono : ∀ a0 k, LeO (spec_Clean.f k a0) (spec_Clean.f (k + 1) a0) := by
  intro a0 k
  obtain ⟨ih0, ih1, ih2, ih3⟩ := spec_Clean.mono_l k
  unfold spec_Clean.f
  repeat' first
      | (with_reducible exact ih0 _ _)
      | (with_reducible exact ih1 _ _ _ _ _)
      | (with_reducible exact ih2 _ _ _ _ _ _ _)
      | (with_reducible exact ih3 _ _ _ _ _ _ _)
      | (with_reducible exact spec_Join.mono _ _)
      | (with_reducible exact spec_Split.mono _ _)
      | (with_reducible exact LeO.refl _)
      | (with_reducible exact LeO.none _)
      | (with_reducible refine LeO.ite ?_ ?_)
      | (with_reducible refine LeO.bind ?_ (fun _ => ?_))
      | exact ih0 _ _
      | exact ih1 _ _ _ _ _
      | exact ih2 _ _ _ _ _ _ _
      | exact ih3 _ _ _ _ _ _ _
      | exact spec_Join.mono _ _
      | exact spec_Split.mono _ _
      | exact LeO.none _
      | refine LeO.ite ?_ ?_
      | refine LeO.bind ?_ (fun _ => ?_)
set_option maxHeartbeats 8000000 in
set_option maxRecDepth 100000 in
theorem spec_Clean.calls (k : Nat) (a0 : ByteArray) (r : ByteArray) (w : World) (h : spec_Clean.f k a0 = some r) :
    Calls Try.prog 54 #[.string a0] w fun e w' => e = .returned (.string r) ∧ Below w.heap.size w w' := by
  have HB := Aside0.mk (Below.refl w.heap.size w)
  have H : (if (a0.size : Int) > 0 then (if 0 < (a0.size : Int) then (spec_Clean.j0 k a0 ((bt a0 0) == 47)) else (none)) else (spec_Clean.j0 k a0 false)) = some r := h
  clear h
  have HC2 := Aside0.mk H
  clear H
  go_enter Try.func54, Try.ntmps54
  go_upto_region 1 with (fail)
  go_cut [3] (fun v3 wc => ∃ (kq : Nat) (x3_1 : Bool), v3 = .bool x3_1 ∧ Aside0 (spec_Clean.j0 kq a0 x3_1 = some r) ∧ Aside0 (kq ≤ k) ∧ Aside0 (Below w.heap.size w wc))
  case first =>
    have H := HC2.out
    clear HC2
    by_cases c3 : (a0.size : Int) > 0
    · rw [if_pos c3] at H
      have c3b0 : decide (0 < (a0.size : Int)) = true := decide_eq_true c3
      have c3b1 : decide (0 < a0.size) = true := decide_eq_true (by omega)
      clear c3
      (first | rw [c3b0] | (simp only [i64_w, i32_w]; rw [c3b0]) | skip)
      by_cases c4 : 0 < (a0.size : Int)
      · rw [if_pos c4] at H
        have c4b0 : decide (0 < (a0.size : Int)) = true := decide_eq_true c4
        have c4b1 : decide (0 < a0.size) = true := decide_eq_true (by omega)
        clear c4
        have H' := Aside0.mk H
        clear H
        have p5 : 0 ≤ (0 : Int) := (by omega)
        have q5 : 0 < a0.size := (by have : (0 : Int) < (a0.size : Int) := of_decide_eq_true (by first | (with_reducible assumption) | assumption); omega)
        have hx5 : ∀ h : 0 < a0.size, ((a0[0]'h).toNat : Int) = bt a0 0 := bt_at a0 0
        clear p5
        have qi5 : (0 < (a0.size : Int)) = True := eq_true (of_decide_eq_true (by first | (with_reducible assumption) | assumption))
        replace q5 := eq_true q5
        go_wp2
        go_meet
        case rel => exact ⟨_, (((bt a0 0) == 47)), (by first | rfl | (simp; done) | (simp [*]; done)), H', ⟨by first | omega | exact Nat.le_refl _⟩, ⟨by repeat (first | (with_reducible first | exact HB.out | apply below_alloc | apply pw_below_drewN | apply below_drew1) | exact HB.out)⟩⟩
      · rw [if_neg c4] at H
        exact absurd H (by simp)
    · rw [if_neg c3] at H
      have c3b0 : decide (0 < (a0.size : Int)) = false := decide_eq_false c3
      have c3b1 : decide (0 < a0.size) = false := decide_eq_false (by omega)
      clear c3
      (first | rw [c3b0] | (simp only [i64_w, i32_w]; rw [c3b0]) | skip)
      have H' := Aside0.mk H
      clear H
      go_wp2
      go_meet
      case rel => exact ⟨_, (false), (by first | rfl | (simp; done) | (simp [*]; done)), H', ⟨by first | omega | exact Nat.le_refl _⟩, ⟨by repeat (first | (with_reducible first | exact HB.out | apply below_alloc | apply pw_below_drewN | apply below_drew1) | exact HB.out)⟩⟩
  case rest =>
    clear HC2
    try clear p2
    try clear c3
    try clear c3b0
    try clear c3b1
    try clear c4
    try clear c4b0
    try clear c4b1
    try clear c5
    try clear p5
    try clear q5
    try clear hx5
    try clear qi5
    try clear p5
    try clear q5
    obtain ⟨kq, x3_1, rfl, HA, HJ1, HB⟩ := hcut
    cases kq with
    | zero => exact absurd HA.out (by simp [spec_Clean.j0])
    | succ kj1 =>
      have H := HA.out
      clear HA
      simp only [spec_Clean.j0] at H
      replace H := Option.bind_eq_some_iff.mp H
      obtain ⟨t143, A60, H⟩ := H
      replace H : (spec_Clean.l0 kj1 x3_1 ([] : List ByteArray) t143 (t143.length : Int) 0) = some r := H
      have A6 := Aside0.mk A60
      clear A60
      have H' := Aside0.mk H
      clear H
      go_wp2_with (first | ((with_reducible refine gate_callee (f := 35) rfl ?_); refine goesL_ (some 16) rfl rfl Try.func35 (by kernel_rfl) rfl #[.string a0] rfl (by (try simp only [List.map_toArray, List.map_cons, List.map_nil]); first | done | rfl | (simp only [List.length_drop, List.length_take]; rfl)) ?_; (with_reducible refine (spec_Split.calls kj1 a0 t143 _ A6.out).mono ?_); rintro e w7 ⟨v144, rfl, ho0, hb⟩; refine ⟨_, rfl, ?_⟩; have n0_ := Aside0.mk (Kd.R_lower ho0 (below_size (by repeat (first | (with_reducible first | exact HB.out | apply below_alloc | apply pw_below_drewN | apply below_drew1) | exact HB.out)))); have n1_ := Aside0.mk (below_step (by repeat (first | (with_reducible first | exact HB.out | apply below_alloc | apply pw_below_drewN | apply below_drew1) | exact HB.out)) hb); clear HB; have HO145 := n0_; have HB := n1_; clear n0_ n1_; (try clear hb); (try clear hb2); (try clear hk); (try clear hi); (try clear ho0); obtain ⟨Ao8, co8, eo8⟩ := Kd.R_slice HO145.out; subst eo8))
      go_loopg [4, 18] kj1 (fun kq v4 v18 w' => ∃ (x4_2 : List ByteArray) (x18_2 : Int), v18 = .int .i64 x18_2 ∧ Aside0 (spec_Clean.l0 kq x3_1 x4_2 t143 (t143.length : Int) x18_2 = some r) ∧ Aside0 (kq ≤ kj1) ∧ Aside0 (Kd.R Kd.string 9 w' w.heap.size (fun k_ => some k_ ≠ ((.slice Ao8 t143.length co8) : Value).ownBlock) v4 x4_2) ∧ Aside0 (Kd.R Kd.string 9 w' w.heap.size (fun k_ => some k_ ≠ (v4 : Value).ownBlock) (.slice Ao8 t143.length co8) t143) ∧ Aside0 (Below w.heap.size w w'))
      case atStart => exact ⟨(([] : List ByteArray)), (0), (by first | rfl | (simp; done) | (simp [*]; done)), H', ⟨Nat.le_refl _⟩, ⟨by first | exact Kd.R_nil _ _ _ _ _ | exact Kd.N_nil _ _ _ _ _ | exact Kd.V_nil _ _ _ _ _ | exact Kd.Q_nil _ _ _ _ _ | exact Kd.S_nil _ _ _ _ _⟩, ⟨by (with_reducible repeat (first | apply Kd.R_alloc | apply Kd.R_drewN | apply Kd.R_drew)); exact Kd.R_mono HO145.out (fun _ hk => (by simp [Value.ownBlock]))⟩, ⟨by repeat (first | (with_reducible first | exact HB.out | apply below_alloc | apply pw_below_drewN | apply below_drew1) | exact HB.out)⟩⟩
      case round =>
        clear H'
        try clear p2
        try clear c3
        try clear c3b0
        try clear c3b1
        try clear c4
        try clear c4b0
        try clear c4b1
        try clear c5
        try clear p5
        try clear q5
        try clear hx5
        try clear qi5
        try clear p2
        try clear p5
        try clear q5
        obtain ⟨x4_2, x18_2, rfl, HA, HK2, HO_4, HO_16, HB⟩ := hrel
        cases gk with
        | zero => exact absurd HA.out (by simp [spec_Clean.l0])
        | succ k2 =>
          have H := HA.out
          clear HA
          simp only [spec_Clean.l0] at H
          by_cases c9 : x18_2 < (t143.length : Int)
          · rw [if_pos c9] at H
            have c9b0 : decide (x18_2 < (t143.length : Int)) = true := decide_eq_true c9
            clear c9
            by_cases c10 : 0 ≤ x18_2
            · rw [if_pos c10] at H
              have c10b0 : decide (0 ≤ x18_2) = true := decide_eq_true c10
              clear c10
              by_cases c11 : x18_2 < (t143.length : Int)
              · rw [if_pos c11] at H
                have c11b0 : decide (x18_2 < (t143.length : Int)) = true := decide_eq_true c11
                clear c11
                have HC12 := Aside0.mk H
                clear H
                have p146 : 0 ≤ (x18_2 : Int) := of_decide_eq_true (by first | (with_reducible assumption) | assumption)
                have q146 : x18_2 < (t143.length : Int) := of_decide_eq_true (by first | (with_reducible assumption) | assumption)
                obtain ⟨ad146, e146, hx146_0⟩ := Kd.at_string (Kd.R_reads' HO_16.out).2.2 x18_2 p146 q146
                cases e146
                replace p146 := eq_true p146
                replace q146 := eq_true q146
                go_upto_region 6 with (fail)
                go_cut [22] (fun v22 wc => ∃ (kq : Nat) (x22_11 : Bool), v22 = .bool x22_11 ∧ Aside0 (spec_Clean.j2 kq x3_1 x4_2 (rdOf ByteArray.empty t143 x18_2) t143 (t143.length : Int) x18_2 x22_11 = some r) ∧ Aside0 (kq ≤ k2) ∧ Aside0 (Kd.R Kd.string 9 wc w.heap.size (fun k_ => some k_ ≠ ((.slice (some ad146) t143.length co8) : Value).ownBlock) u4 x4_2) ∧ Aside0 (Kd.R Kd.string 9 wc w.heap.size (fun k_ => some k_ ≠ (u4 : Value).ownBlock) (.slice (some ad146) t143.length co8) t143) ∧ Aside0 (Below w.heap.size w wc))
                case first =>
                  have H := HC12.out
                  clear HC12
                  by_cases c13 : (rdOf ByteArray.empty t143 x18_2).toList = ([] : List UInt8)
                  · rw [if_pos c13] at H
                    have c13b0 : ((rdOf ByteArray.empty t143 x18_2).toList == ([] : List UInt8)) = true := beq_iff_eq.mpr c13
                    have c13b1 : ((rdOf ByteArray.empty t143 x18_2).toList != ([] : List UInt8)) = false := bne_eq_false_iff_eq.mpr c13
                    clear c13
                    (first | rw [c13b0] | (simp only [i64_w, i32_w]; rw [c13b0]) | skip)
                    have H' := Aside0.mk H
                    clear H
                    go_wp2
                    go_meet
                    case rel => exact ⟨_, (true), (by first | rfl | (simp; done) | (simp [*]; done)), H', ⟨by have := HJ1.out; have := HK2.out; first | omega | exact Nat.le_refl _⟩, ⟨by (with_reducible repeat (first | apply Kd.R_alloc | apply Kd.R_drewN | apply Kd.R_drew)); exact HO_4.out⟩, ⟨by (with_reducible repeat (first | apply Kd.R_alloc | apply Kd.R_drewN | apply Kd.R_drew)); exact HO_16.out⟩, ⟨by repeat (first | (with_reducible first | exact HB.out | apply below_alloc | apply pw_below_drewN | apply below_drew1) | exact HB.out)⟩⟩
                  · rw [if_neg c13] at H
                    have c13b0 : ((rdOf ByteArray.empty t143 x18_2).toList == ([] : List UInt8)) = false := beq_eq_false_iff_ne.mpr c13
                    have c13b1 : ((rdOf ByteArray.empty t143 x18_2).toList != ([] : List UInt8)) = true := bne_iff_ne.mpr c13
                    (first | rw [c13b0] | (simp only [i64_w, i32_w]; rw [c13b0]) | skip)
                    have H' := Aside0.mk H
                    clear H
                    go_wp2
                    go_meet
                    case rel => exact ⟨_, (((rdOf ByteArray.empty t143 x18_2).toList == ([46] : List UInt8))), (by first | rfl | (simp; done) | (simp [*]; done)), H', ⟨by have := HJ1.out; have := HK2.out; first | omega | exact Nat.le_refl _⟩, ⟨by (with_reducible repeat (first | apply Kd.R_alloc | apply Kd.R_drewN | apply Kd.R_drew)); exact HO_4.out⟩, ⟨by (with_reducible repeat (first | apply Kd.R_alloc | apply Kd.R_drewN | apply Kd.R_drew)); exact HO_16.out⟩, ⟨by repeat (first | (with_reducible first | exact HB.out | apply below_alloc | apply pw_below_drewN | apply below_drew1) | exact HB.out)⟩⟩
                case rest =>
                  clear HC12
                  try clear c1
                  try clear p1
                  try clear q1
                  try clear hx1
                  try clear p2
                  try clear c3
                  try clear c3b0
                  try clear c3b1
                  try clear c4
                  try clear c4b0
                  try clear c4b1
                  try clear c5
                  try clear p5
                  try clear q5
                  try clear hx5
                  try clear qi5
                  try clear c9
                  try clear c9b0
                  try clear c10
                  try clear c10b0
                  try clear c11
                  try clear c11b0
                  try clear c13
                  try clear c13b0
                  try clear c13b1
                  try clear hx146_0
                  try clear p146
                  try clear p2
                  try clear p5
                  try clear q146
                  try clear q5
                  obtain ⟨kq, x22_11, rfl, HA, HJ11, HO_4, HO_16, HB⟩ := hcut
                  cases kq with
                  | zero => exact absurd HA.out (by simp [spec_Clean.j2])
                  | succ kj11 =>
                    have H := HA.out
                    clear HA
                    simp only [spec_Clean.j2] at H
                    by_cases c14 : x22_11 = true
                    · subst c14
                      have H1 : (spec_Clean.l0 kj11 x3_1 x4_2 t143 (t143.length : Int) (wrap64 (x18_2 + 1))) = some r := by rw [if_pos rfl] at H; exact H
                      clear H
                      have H := H1
                      clear H1
                      have H' := Aside0.mk H
                      clear H
                      go_wp2
                      go_roundg kj11
                      case measure => have := HJ1.out; have := HK2.out; have := HJ11.out; omega
                      case rel => exact ⟨(x4_2), (wrap64 (x18_2 + 1)), (by first | rfl | (simp; done) | (simp [*]; done)), H', ⟨by have := HJ1.out; have := HK2.out; have := HJ11.out; omega⟩, ⟨by (with_reducible repeat (first | apply Kd.R_alloc | apply Kd.R_drewN | apply Kd.R_drew)); exact HO_4.out⟩, ⟨by (with_reducible repeat (first | apply Kd.R_alloc | apply Kd.R_drewN | apply Kd.R_drew)); exact HO_16.out⟩, ⟨by repeat (first | (with_reducible first | exact HB.out | apply below_alloc | apply pw_below_drewN | apply below_drew1) | exact HB.out)⟩⟩
                    · replace c14 := Bool.eq_false_iff.mpr c14
                      subst c14
                      have H1 : (if (rdOf ByteArray.empty t143 x18_2).toList = ([46, 46] : List UInt8) then (if (x4_2.length : Int) > 0 then (if 0 ≤ (wrap64 ((x4_2.length : Int) - 1)) then (if (wrap64 ((x4_2.length : Int) - 1)) < (x4_2.length : Int) then (spec_Clean.j3 kj11 x3_1 x4_2 (rdOf ByteArray.empty t143 x18_2) t143 (t143.length : Int) x18_2 ((rdOf ByteArray.empty x4_2 (wrap64 ((x4_2.length : Int) - 1))).toList != ([46, 46] : List UInt8))) else (none)) else (none)) else (spec_Clean.j3 kj11 x3_1 x4_2 (rdOf ByteArray.empty t143 x18_2) t143 (t143.length : Int) x18_2 false)) else (if x4_2.length < 8796093022208 then (spec_Clean.l0 kj11 x3_1 (x4_2 ++ [(rdOf ByteArray.empty t143 x18_2)]) t143 (t143.length : Int) (wrap64 (x18_2 + 1))) else (none))) = some r := by rw [if_neg (show ¬ (false = true) by decide)] at H; exact H
                      clear H
                      have H := H1
                      clear H1
                      by_cases c15 : (rdOf ByteArray.empty t143 x18_2).toList = ([46, 46] : List UInt8)
                      · rw [if_pos c15] at H
                        have c15b0 : ((rdOf ByteArray.empty t143 x18_2).toList == ([46, 46] : List UInt8)) = true := beq_iff_eq.mpr c15
                        have c15b1 : ((rdOf ByteArray.empty t143 x18_2).toList != ([46, 46] : List UInt8)) = false := bne_eq_false_iff_eq.mpr c15
                        clear c15
                        have HC16 := Aside0.mk H
                        clear H
                        go_upto_region 9 with (fail)
                        go_cut [36] (fun v36 wc => ∃ (kq : Nat) (x36_15 : Bool), v36 = .bool x36_15 ∧ Aside0 (spec_Clean.j3 kq x3_1 x4_2 (rdOf ByteArray.empty t143 x18_2) t143 (t143.length : Int) x18_2 x36_15 = some r) ∧ Aside0 (kq ≤ kj11) ∧ Aside0 (Kd.R Kd.string 9 wc w.heap.size (fun k_ => some k_ ≠ ((.slice (some ad146) t143.length co8) : Value).ownBlock) u4 x4_2) ∧ Aside0 (Kd.R Kd.string 9 wc w.heap.size (fun k_ => some k_ ≠ (u4 : Value).ownBlock) (.slice (some ad146) t143.length co8) t143) ∧ Aside0 (Below w.heap.size w wc))
                        case first =>
                          have H := HC16.out
                          clear HC16
                          by_cases c17 : (x4_2.length : Int) > 0
                          · rw [if_pos c17] at H
                            have c17b0 : decide (0 < (x4_2.length : Int)) = true := decide_eq_true c17
                            have c17b1 : decide (0 < x4_2.length) = true := decide_eq_true (by omega)
                            clear c17
                            (first | rw [c17b0] | (simp only [i64_w, i32_w]; rw [c17b0]) | skip)
                            obtain ⟨ji18, hji18⟩ : ∃ j_ : Int, (wrap64 ((x4_2.length : Int) - 1)) = j_ := ⟨_, rfl⟩
                            replace H : (if 0 ≤ (ji18) then (if (ji18) < (x4_2.length : Int) then (spec_Clean.j3 kj11 x3_1 x4_2 (rdOf ByteArray.empty t143 x18_2) t143 (t143.length : Int) x18_2 ((rdOf ByteArray.empty x4_2 (ji18)).toList != ([46, 46] : List UInt8))) else (none)) else (none)) = some r := by first | (rw [hji18] at H; exact H) | (simp only [hji18] at H ⊢; exact H)
                            have hji18w : (IntKind.i64.wrap ((x4_2.length : Int) - 1)) = ji18 := (i64_w _).trans hji18
                            by_cases c19 : 0 ≤ (ji18)
                            · rw [if_pos c19] at H
                              have c19b0 : decide (0 ≤ (ji18)) = true := decide_eq_true c19
                              clear c19
                              by_cases c20 : (ji18) < (x4_2.length : Int)
                              · rw [if_pos c20] at H
                                have c20b0 : decide ((ji18) < (x4_2.length : Int)) = true := decide_eq_true c20
                                clear c20
                                have H' := Aside0.mk H
                                clear H
                                obtain ⟨Ao21, co21, eo21⟩ := Kd.R_slice HO_4.out
                                subst eo21
                                have p147 : 0 ≤ ((ji18) : Int) := of_decide_eq_true (by first | (with_reducible assumption) | assumption)
                                have q147 : (ji18) < (x4_2.length : Int) := of_decide_eq_true (by first | (with_reducible assumption) | assumption)
                                obtain ⟨ad147, e147, hx147_0⟩ := Kd.at_string (Kd.R_reads' HO_4.out).2.2 (ji18) p147 q147
                                cases e147
                                replace p147 := eq_true p147
                                replace q147 := eq_true q147
                                go_wp2
                                go_meet
                                case rel => exact ⟨_, (((rdOf ByteArray.empty x4_2 (ji18)).toList != ([46, 46] : List UInt8))), (by first | rfl | (simp; done) | (simp only [← hji18] <;> (first | rfl | simp)) | (simp [*]; done)), H', ⟨by have := HJ1.out; have := HK2.out; have := HJ11.out; first | omega | exact Nat.le_refl _⟩, ⟨by (with_reducible repeat (first | apply Kd.R_alloc | apply Kd.R_drewN | apply Kd.R_drew)); exact HO_4.out⟩, ⟨by (with_reducible repeat (first | apply Kd.R_alloc | apply Kd.R_drewN | apply Kd.R_drew)); exact HO_16.out⟩, ⟨by repeat (first | (with_reducible first | exact HB.out | apply below_alloc | apply pw_below_drewN | apply below_drew1) | exact HB.out)⟩⟩
                              · rw [if_neg c20] at H
                                exact absurd H (by simp)
                            · rw [if_neg c19] at H
                              exact absurd H (by simp)
                          · rw [if_neg c17] at H
                            have c17b0 : decide (0 < (x4_2.length : Int)) = false := decide_eq_false c17
                            have c17b1 : decide (0 < x4_2.length) = false := decide_eq_false (by omega)
                            clear c17
                            (first | rw [c17b0] | (simp only [i64_w, i32_w]; rw [c17b0]) | skip)
                            have H' := Aside0.mk H
                            clear H
                            obtain ⟨Ao22, co22, eo22⟩ := Kd.R_slice HO_4.out
                            subst eo22
                            go_wp2
                            go_meet
                            case rel => exact ⟨_, (false), (by first | rfl | (simp; done) | (simp [*]; done)), H', ⟨by have := HJ1.out; have := HK2.out; have := HJ11.out; first | omega | exact Nat.le_refl _⟩, ⟨by (with_reducible repeat (first | apply Kd.R_alloc | apply Kd.R_drewN | apply Kd.R_drew)); exact HO_4.out⟩, ⟨by (with_reducible repeat (first | apply Kd.R_alloc | apply Kd.R_drewN | apply Kd.R_drew)); exact HO_16.out⟩, ⟨by repeat (first | (with_reducible first | exact HB.out | apply below_alloc | apply pw_below_drewN | apply below_drew1) | exact HB.out)⟩⟩
                        case rest =>
                          clear HC16
                          try clear c1
                          try clear p1
                          try clear q1
                          try clear hx1
                          try clear c2
                          try clear p2
                          try clear c3
                          try clear c3b0
                          try clear c3b1
                          try clear c4
                          try clear c4b0
                          try clear c4b1
                          try clear c5
                          try clear p5
                          try clear q5
                          try clear hx5
                          try clear qi5
                          try clear p6
                          try clear c9
                          try clear c9b0
                          try clear c10
                          try clear c10b0
                          try clear c11
                          try clear c11b0
                          try clear c13
                          try clear c13b0
                          try clear c13b1
                          try clear c14
                          try clear p14
                          try clear q14
                          try clear hx14
                          try clear c15
                          try clear c15b0
                          try clear c15b1
                          try clear c17
                          try clear c17b0
                          try clear c17b1
                          try clear c19
                          try clear c19b0
                          try clear c20
                          try clear c20b0
                          try clear hx146_0
                          try clear hx147_0
                          try clear p1
                          try clear p146
                          try clear p147
                          try clear p2
                          try clear p5
                          try clear q1
                          try clear q146
                          try clear q147
                          try clear q5
                          obtain ⟨kq, x36_15, rfl, HA, HJ15, HO_4, HO_16, HB⟩ := hcut
                          cases kq with
                          | zero => exact absurd HA.out (by simp [spec_Clean.j3])
                          | succ kj15 =>
                            have H := HA.out
                            clear HA
                            simp only [spec_Clean.j3] at H
                            by_cases c23 : x36_15 = true
                            · subst c23
                              have H1 : (if 0 ≤ (wrap64 ((x4_2.length : Int) - 1)) then (if (wrap64 ((x4_2.length : Int) - 1)) ≤ (x4_2.length : Int) then (spec_Clean.l0 kj15 x3_1 (x4_2.take ((wrap64 ((x4_2.length : Int) - 1)) : Int).toNat) t143 (t143.length : Int) (wrap64 (x18_2 + 1))) else (none)) else (none)) = some r := by rw [if_pos rfl] at H; exact H
                              clear H
                              have H := H1
                              clear H1
                              obtain ⟨ji24, hji24⟩ : ∃ j_ : Int, (wrap64 ((x4_2.length : Int) - 1)) = j_ := ⟨_, rfl⟩
                              replace H : (if 0 ≤ (ji24) then (if (ji24) ≤ (x4_2.length : Int) then (spec_Clean.l0 kj15 x3_1 (x4_2.take ((ji24) : Int).toNat) t143 (t143.length : Int) (wrap64 (x18_2 + 1))) else (none)) else (none)) = some r := by first | (rw [hji24] at H; exact H) | (simp only [hji24] at H ⊢; exact H)
                              have hji24w : (IntKind.i64.wrap ((x4_2.length : Int) - 1)) = ji24 := (i64_w _).trans hji24
                              by_cases c25 : 0 ≤ (ji24)
                              · rw [if_pos c25] at H
                                have c25b0 := eq_true c25
                                have c25b1 : decide (0 ≤ (ji24)) = true := decide_eq_true c25
                                clear c25
                                by_cases c26 : (ji24) ≤ (x4_2.length : Int)
                                · rw [if_pos c26] at H
                                  have c26b0 := eq_true c26
                                  have c26b1 : decide ((ji24) ≤ (x4_2.length : Int)) = true := decide_eq_true c26
                                  clear c26
                                  obtain ⟨y148, hy148⟩ : ∃ y_ : List ByteArray, y_ = (x4_2.take ((ji24) : Int).toNat) := ⟨_, rfl⟩
                                  replace H : (spec_Clean.l0 kj15 x3_1 y148 t143 (t143.length : Int) (wrap64 (x18_2 + 1))) = some r := by first | (rw [hy148]; with_reducible exact H) | (have H2_ := (Option.bind_some _ _).symm.trans H; rw [hy148]; with_reducible exact H2_) | (have H2_ := (Option.bind_some _ _).symm.trans H; with_reducible exact H2_) | with_reducible exact H | (rw [hy148]; exact H) | exact H
                                  have Ny148 := Aside0.mk hy148
                                  clear hy148
                                  have H' := Aside0.mk H
                                  clear H
                                  obtain ⟨Ao27, co27, eo27⟩ := Kd.R_slice HO_4.out
                                  subst eo27
                                  have q28 : ((ji24) : Int) ≤ ((x4_2.length : Int) : Int) := of_decide_eq_true (by first | (with_reducible assumption) | assumption)
                                  obtain ⟨i028, hi028, _, hsz28, _⟩ := info_parts info9
                                  have hcut28 := cut_to (P := Try.prog) 42 9 .i64 Try.underlying42 hi028 Ao27 x4_2.length co27 (ji24) (of_decide_eq_true (by first | (with_reducible assumption) | assumption)) q28 (Kd.R_reads' HO_4.out).2.1
                                  have hr28 := Kd.R_take (m := ((ji24) : Int).toNat) HO_4.out (by omega)
                                  have hy28 : y148.length = ((ji24) : Int).toNat := (by rw [Ny148.out, List.length_take]; omega)
                                  rw [← Ny148.out] at hr28
                                  rw [← hy28] at hr28 hcut28
                                  clear hy28 hi028 hsz28 HO_4
                                  have HO150 := Aside0.mk hr28
                                  clear hr28
                                  replace q28 := eq_true q28
                                  have HE28 : Aside0 ((Value.slice Ao27 y148.length co27).ownBlock = (.slice Ao27 x4_2.length co27 : Value).ownBlock) := ⟨by cases (Ao27 : Option Addr) <;> rfl⟩
                                  have n_ := Aside0.mk (Kd.R_mono (ok' := fun k_ => some k_ ≠ (.slice Ao27 y148.length co27 : Value).ownBlock) HO_16.out (fun k_ hk => (by rw [HE28.out]; exact hk)))
                                  clear HO_16
                                  have HO_16 := n_
                                  clear n_
                                  go_wp2
                                  go_roundg kj15
                                  case measure => have := HJ1.out; have := HK2.out; have := HJ11.out; have := HJ15.out; omega
                                  case rel => exact ⟨(y148), (wrap64 (x18_2 + 1)), (by first | rfl | (simp; done) | (simp [*]; done)), H', ⟨by have := HJ1.out; have := HK2.out; have := HJ11.out; have := HJ15.out; omega⟩, ⟨by (with_reducible repeat (first | apply Kd.R_alloc | apply Kd.R_drewN | apply Kd.R_drew)); exact HO150.out⟩, ⟨by (with_reducible repeat (first | apply Kd.R_alloc | apply Kd.R_drewN | apply Kd.R_drew)); exact HO_16.out⟩, ⟨by repeat (first | (with_reducible first | exact HB.out | apply below_alloc | apply pw_below_drewN | apply below_drew1) | exact HB.out)⟩⟩
                                · rw [if_neg c26] at H
                                  exact absurd H (by simp)
                              · rw [if_neg c25] at H
                                exact absurd H (by simp)
                            · replace c23 := Bool.eq_false_iff.mpr c23
                              subst c23
                              have H1 : (if x3_1 = true then (spec_Clean.l0 kj15 x3_1 x4_2 t143 (t143.length : Int) (wrap64 (x18_2 + 1))) else (if x4_2.length < 8796093022208 then (spec_Clean.l0 kj15 x3_1 (x4_2 ++ [(rdOf ByteArray.empty t143 x18_2)]) t143 (t143.length : Int) (wrap64 (x18_2 + 1))) else (none))) = some r := by rw [if_neg (show ¬ (false = true) by decide)] at H; exact H
                              clear H
                              have H := H1
                              clear H1
                              by_cases c29 : x3_1 = true
                              · subst c29
                                have H1 : (spec_Clean.l0 kj15 true x4_2 t143 (t143.length : Int) (wrap64 (x18_2 + 1))) = some r := by rw [if_pos rfl] at H; exact H
                                clear H
                                have H := H1
                                clear H1
                                have H' := Aside0.mk H
                                clear H
                                go_wp2
                                go_roundg kj15
                                case measure => have := HJ1.out; have := HK2.out; have := HJ11.out; have := HJ15.out; omega
                                case rel => exact ⟨(x4_2), (wrap64 (x18_2 + 1)), (by first | rfl | (simp; done) | (simp [*]; done)), H', ⟨by have := HJ1.out; have := HK2.out; have := HJ11.out; have := HJ15.out; omega⟩, ⟨by (with_reducible repeat (first | apply Kd.R_alloc | apply Kd.R_drewN | apply Kd.R_drew)); exact HO_4.out⟩, ⟨by (with_reducible repeat (first | apply Kd.R_alloc | apply Kd.R_drewN | apply Kd.R_drew)); exact HO_16.out⟩, ⟨by repeat (first | (with_reducible first | exact HB.out | apply below_alloc | apply pw_below_drewN | apply below_drew1) | exact HB.out)⟩⟩
                              · replace c29 := Bool.eq_false_iff.mpr c29
                                subst c29
                                have H1 : (if x4_2.length < 8796093022208 then (spec_Clean.l0 kj15 false (x4_2 ++ [(rdOf ByteArray.empty t143 x18_2)]) t143 (t143.length : Int) (wrap64 (x18_2 + 1))) else (none)) = some r := by rw [if_neg (show ¬ (false = true) by decide)] at H; exact H
                                clear H
                                have H := H1
                                clear H1
                                by_cases c30 : x4_2.length < 8796093022208
                                · rw [if_pos c30] at H
                                  have LMc30 := Aside0.mk c30
                                  clear c30
                                  obtain ⟨y151, hy151⟩ : ∃ y_ : List ByteArray, y_ = (x4_2 ++ [(rdOf ByteArray.empty t143 x18_2)]) := ⟨_, rfl⟩
                                  replace H : (spec_Clean.l0 kj15 false y151 t143 (t143.length : Int) (wrap64 (x18_2 + 1))) = some r := by first | (rw [hy151]; with_reducible exact H) | (have H2_ := (Option.bind_some _ _).symm.trans H; rw [hy151]; with_reducible exact H2_) | (have H2_ := (Option.bind_some _ _).symm.trans H; with_reducible exact H2_) | with_reducible exact H | (rw [hy151]; exact H) | exact H
                                  have Ny151 := Aside0.mk hy151
                                  clear hy151
                                  have H' := Aside0.mk H
                                  clear H
                                  go_wp2_with (first | ((with_reducible refine gate_builtin (b := .append) (xs := #[.tmp 57, .tmp 59]) rfl ?_); (try (refine gate_guard (by rfl) ?_; dsimp only)); at_builtin; refine Kd.R_append Kd.string (w0 := w) w.heap.size rfl (.tmp 57) (.tmp 59) 42 9 (.string ⟨#[]⟩) 16 rfl Try.underlying42 info9 rfl (by decide) (by omega) u4 x4_2 (rdOf ByteArray.empty t143 x18_2) [.string (rdOf ByteArray.empty t143 x18_2)] (fun k_ => some k_ ≠ (.slice (some ad146) t143.length co8 : Value).ownBlock) (fun _ => False) rfl rfl ?aP (fun _ hk => hk.elim) ?aF ?aO ?aB ?aS ?aL ?_; (case aP => exact rfl); (case aB => exact (by repeat (first | (with_reducible first | exact HB.out | apply below_alloc | apply pw_below_drewN | apply below_drew1) | exact HB.out))); (case aF => exact (fun k_ hk => Kd.fresh' (Kd.R_lt (by (with_reducible repeat (first | apply Kd.R_alloc | apply Kd.R_drewN | apply Kd.R_drew)); exact HO_16.out)) k_ hk)); (case aO => exact (by (with_reducible repeat (first | apply Kd.R_alloc | apply Kd.R_drewN | apply Kd.R_drew)); exact HO_4.out)); (case aS => exact (below_size (by repeat (first | (with_reducible first | exact HB.out | apply below_alloc | apply pw_below_drewN | apply below_drew1) | exact HB.out)))); (case aL => have := LMc30.out; omega); intro v152 w31 ho hb hg hat; rw [← Ny151.out] at ho; have n0_ := Aside0.mk (Kd.R_after (ok := (fun _ => True)) (by (with_reducible repeat (first | apply Kd.R_alloc | apply Kd.R_drewN | apply Kd.R_drew)); exact Kd.R_mono HO_16.out (fun _ hk => ⟨trivial, hk⟩)) hg hat); have n1_ := Aside0.mk (hb); have n2_ := Aside0.mk (ho); clear HO_16; clear HB; clear HO_4; have HO_16 := n0_; have HB := n1_; have HO153 := n2_; clear n0_ n1_ n2_; clear ho hb hg hat))
                                  go_roundg kj15
                                  case measure => have := HJ1.out; have := HK2.out; have := HJ11.out; have := HJ15.out; omega
                                  case rel => exact ⟨(y151), (wrap64 (x18_2 + 1)), (by first | rfl | (simp; done) | (simp [*]; done)), H', ⟨by have := HJ1.out; have := HK2.out; have := HJ11.out; have := HJ15.out; omega⟩, ⟨by (with_reducible repeat (first | apply Kd.R_alloc | apply Kd.R_drewN | apply Kd.R_drew)); exact HO153.out⟩, ⟨by (with_reducible repeat (first | apply Kd.R_alloc | apply Kd.R_drewN | apply Kd.R_drew)); exact Kd.R_mono HO_16.out (fun _ hk => hk.2)⟩, ⟨by repeat (first | (with_reducible first | exact HB.out | apply below_alloc | apply pw_below_drewN | apply below_drew1) | exact HB.out)⟩⟩
                                · rw [if_neg c30] at H
                                  exact absurd H (by simp)
                      · rw [if_neg c15] at H
                        have c15b0 : ((rdOf ByteArray.empty t143 x18_2).toList == ([46, 46] : List UInt8)) = false := beq_eq_false_iff_ne.mpr c15
                        have c15b1 : ((rdOf ByteArray.empty t143 x18_2).toList != ([46, 46] : List UInt8)) = true := bne_iff_ne.mpr c15
                        by_cases c32 : x4_2.length < 8796093022208
                        · rw [if_pos c32] at H
                          have LMc32 := Aside0.mk c32
                          clear c32
                          obtain ⟨y154, hy154⟩ : ∃ y_ : List ByteArray, y_ = (x4_2 ++ [(rdOf ByteArray.empty t143 x18_2)]) := ⟨_, rfl⟩
                          replace H : (spec_Clean.l0 kj11 x3_1 y154 t143 (t143.length : Int) (wrap64 (x18_2 + 1))) = some r := by first | (rw [hy154]; with_reducible exact H) | (have H2_ := (Option.bind_some _ _).symm.trans H; rw [hy154]; with_reducible exact H2_) | (have H2_ := (Option.bind_some _ _).symm.trans H; with_reducible exact H2_) | with_reducible exact H | (rw [hy154]; exact H) | exact H
                          have Ny154 := Aside0.mk hy154
                          clear hy154
                          have H' := Aside0.mk H
                          clear H
                          go_wp2_with (first | ((with_reducible refine gate_builtin (b := .append) (xs := #[.tmp 32, .tmp 34]) rfl ?_); (try (refine gate_guard (by rfl) ?_; dsimp only)); at_builtin; refine Kd.R_append Kd.string (w0 := w) w.heap.size rfl (.tmp 32) (.tmp 34) 42 9 (.string ⟨#[]⟩) 16 rfl Try.underlying42 info9 rfl (by decide) (by omega) u4 x4_2 (rdOf ByteArray.empty t143 x18_2) [.string (rdOf ByteArray.empty t143 x18_2)] (fun k_ => some k_ ≠ (.slice (some ad146) t143.length co8 : Value).ownBlock) (fun _ => False) rfl rfl ?aP (fun _ hk => hk.elim) ?aF ?aO ?aB ?aS ?aL ?_; (case aP => exact rfl); (case aB => exact (by repeat (first | (with_reducible first | exact HB.out | apply below_alloc | apply pw_below_drewN | apply below_drew1) | exact HB.out))); (case aF => exact (fun k_ hk => Kd.fresh' (Kd.R_lt (by (with_reducible repeat (first | apply Kd.R_alloc | apply Kd.R_drewN | apply Kd.R_drew)); exact HO_16.out)) k_ hk)); (case aO => exact (by (with_reducible repeat (first | apply Kd.R_alloc | apply Kd.R_drewN | apply Kd.R_drew)); exact HO_4.out)); (case aS => exact (below_size (by repeat (first | (with_reducible first | exact HB.out | apply below_alloc | apply pw_below_drewN | apply below_drew1) | exact HB.out)))); (case aL => have := LMc32.out; omega); intro v155 w33 ho hb hg hat; rw [← Ny154.out] at ho; have n0_ := Aside0.mk (Kd.R_after (ok := (fun _ => True)) (by (with_reducible repeat (first | apply Kd.R_alloc | apply Kd.R_drewN | apply Kd.R_drew)); exact Kd.R_mono HO_16.out (fun _ hk => ⟨trivial, hk⟩)) hg hat); have n1_ := Aside0.mk (hb); have n2_ := Aside0.mk (ho); clear HO_16; clear HB; clear HO_4; have HO_16 := n0_; have HB := n1_; have HO156 := n2_; clear n0_ n1_ n2_; clear ho hb hg hat))
                          go_roundg kj11
                          case measure => have := HJ1.out; have := HK2.out; have := HJ11.out; omega
                          case rel => exact ⟨(y154), (wrap64 (x18_2 + 1)), (by first | rfl | (simp; done) | (simp [*]; done)), H', ⟨by have := HJ1.out; have := HK2.out; have := HJ11.out; omega⟩, ⟨by (with_reducible repeat (first | apply Kd.R_alloc | apply Kd.R_drewN | apply Kd.R_drew)); exact HO156.out⟩, ⟨by (with_reducible repeat (first | apply Kd.R_alloc | apply Kd.R_drewN | apply Kd.R_drew)); exact Kd.R_mono HO_16.out (fun _ hk => hk.2)⟩, ⟨by repeat (first | (with_reducible first | exact HB.out | apply below_alloc | apply pw_below_drewN | apply below_drew1) | exact HB.out)⟩⟩
                        · rw [if_neg c32] at H
                          exact absurd H (by simp)
              · rw [if_neg c11] at H
                exact absurd H (by simp)
            · rw [if_neg c10] at H
              exact absurd H (by simp)
          · rw [if_neg c9] at H
            have c9b0 : decide (x18_2 < (t143.length : Int)) = false := decide_eq_false c9
            clear c9
            by_cases c34 : x3_1 = true
            · subst c34
              have H1 : ((spec_Join.f k2 x4_2).bind fun t157 => (if 1 + t157.size ≤ 9223372036854775807 then (some ((⟨#[47]⟩ : ByteArray) ++ t157)) else (none))) = some r := by rw [if_pos rfl] at H; exact H
              clear H
              have H := H1
              clear H1
              replace H := Option.bind_eq_some_iff.mp H
              obtain ⟨t157, A350, H⟩ := H
              replace H : (if 1 + t157.size ≤ 9223372036854775807 then (some ((⟨#[47]⟩ : ByteArray) ++ t157)) else (none)) = some r := H
              have A35 := Aside0.mk A350
              clear A350
              by_cases c36 : 1 + t157.size ≤ 9223372036854775807
              · rw [if_pos c36] at H
                have c36b0 := eq_true c36
                have c36b1 : decide (1 + t157.size ≤ 9223372036854775807) = true := decide_eq_true c36
                try have c36b2 : (9223372036854775807 < 1 + t157.size) = False := eq_false (Nat.not_lt.2 c36)
                obtain rfl := Option.some.inj H
                obtain ⟨Ao37, co37, eo37⟩ := Kd.R_slice HO_4.out
                subst eo37
                go_wp2_with (first | ((with_reducible refine gate_callee (f := 37) rfl ?_); refine goesL_ (some 65) rfl rfl Try.func37 (by kernel_rfl) rfl #[.slice Ao37 x4_2.length co37] rfl (by (try simp only [List.map_toArray, List.map_cons, List.map_nil]); first | done | rfl | (simp only [List.length_drop, List.length_take]; rfl)) ?_; (with_reducible refine (spec_Join.calls k2 _ _ x4_2 t157 _ ?side1 ?side2 A35.out).mono ?_); (case side1 => repeat (first | exact (Kd.R_reads' HO_4.out).2.2 | (with_reducible refine Kd.C_alloc ?_ _) | (with_reducible refine Kd.C_drewN ?_ _) | (with_reducible refine Kd.C_drew ?_))); (case side2 => exact (Kd.R_reads' HO_4.out).2.1); rintro e w' ⟨rfl, ⟨nd, rfl⟩⟩; refine ⟨_, rfl, ?_⟩))
                go_ret
                exact ⟨by first | rfl | (simp [errV_none, errV_some] <;> rfl) | (simp [*, errV_none, errV_some] <;> rfl), by repeat (first | (with_reducible first | exact HB.out | apply below_alloc | apply pw_below_drewN | apply below_drew1) | exact HB.out)⟩
              · rw [if_neg c36] at H
                exact absurd H (by simp)
            · replace c34 := Bool.eq_false_iff.mpr c34
              subst c34
              have H1 : (if (x4_2.length : Int) = 0 then (some (⟨#[46]⟩ : ByteArray)) else ((spec_Join.f k2 x4_2).bind fun t158 => (some t158))) = some r := by rw [if_neg (show ¬ (false = true) by decide)] at H; exact H
              clear H
              have H := H1
              clear H1
              by_cases c38 : (x4_2.length : Int) = 0
              · rw [if_pos c38] at H
                have c38b0 : ((x4_2.length : Int) == 0) = true := beq_iff_eq.mpr c38
                have c38b1 : ((x4_2.length : Int) != 0) = false := bne_eq_false_iff_eq.mpr c38
                clear c38
                obtain rfl := Option.some.inj H
                obtain ⟨Ao39, co39, eo39⟩ := Kd.R_slice HO_4.out
                subst eo39
                go_wp2
                go_ret
                exact ⟨by first | rfl | (simp [errV_none, errV_some] <;> rfl) | (simp [*, errV_none, errV_some] <;> rfl), by repeat (first | (with_reducible first | exact HB.out | apply below_alloc | apply pw_below_drewN | apply below_drew1) | exact HB.out)⟩
              · rw [if_neg c38] at H
                have c38b0 : ((x4_2.length : Int) == 0) = false := beq_eq_false_iff_ne.mpr c38
                have c38b1 : ((x4_2.length : Int) != 0) = true := bne_iff_ne.mpr c38
                have c38b2 : ¬ (x4_2 = []) := fun h_ => c38 (by rw [h_]; rfl)
                replace H := Option.bind_eq_some_iff.mp H
                obtain ⟨t158, A400, H⟩ := H
                replace H : (some t158) = some r := H
                have A40 := Aside0.mk A400
                clear A400
                obtain rfl := Option.some.inj H
                obtain ⟨Ao41, co41, eo41⟩ := Kd.R_slice HO_4.out
                subst eo41
                go_wp2_with (first | ((with_reducible refine gate_callee (f := 37) rfl ?_); refine goesL_ (some 72) rfl rfl Try.func37 (by kernel_rfl) rfl #[.slice Ao41 x4_2.length co41] rfl (by (try simp only [List.map_toArray, List.map_cons, List.map_nil]); first | done | rfl | (simp only [List.length_drop, List.length_take]; rfl)) ?_; (with_reducible refine (spec_Join.calls k2 _ _ x4_2 t158 _ ?side1 ?side2 A40.out).mono ?_); (case side1 => repeat (first | exact (Kd.R_reads' HO_4.out).2.2 | (with_reducible refine Kd.C_alloc ?_ _) | (with_reducible refine Kd.C_drewN ?_ _) | (with_reducible refine Kd.C_drew ?_))); (case side2 => exact (Kd.R_reads' HO_4.out).2.1); rintro e w' ⟨rfl, ⟨nd, rfl⟩⟩; refine ⟨_, rfl, ?_⟩))
                go_ret
                exact ⟨by first | rfl | (simp [errV_none, errV_some] <;> rfl) | (simp [*, errV_none, errV_some] <;> rfl), by repeat (first | (with_reducible first | exact HB.out | apply below_alloc | apply pw_below_drewN | apply below_drew1) | exact HB.out)⟩

end Go.Proofs.Ytbmeegkgcipmoaa.PFnPathSegments
