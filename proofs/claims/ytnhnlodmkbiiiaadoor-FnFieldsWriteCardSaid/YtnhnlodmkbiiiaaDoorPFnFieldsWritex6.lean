/- Printed by a program of this session (it drives the print of the kit, with contracts proved by hand beside): the Go functions of one law as Lean functions, and that the Go code comes to what they say. -/
import Derived.Test.YtnhnlodmkbiiiaaDoorPFnFieldsWritex0
import Derived.Test.YtnhnlodmkbiiiaaDoorPFnFieldsWritex5
namespace Go.Proofs.YtnhnlodmkbiiiaaDoor.PFnFieldsWrite
open Go.RowKit Go.Proofs.YtnhnlodmkbiiiaaDoorL Go.Proofs.YtnhnlodmkbiiiaaDoorW.PrintWords Go.Proofs.YtnhnlodmkbiiiaaDoorW.PrintLast Go.Proofs.YtnhnlodmkbiiiaaDoorW.PrintMore
attribute [local go_sem] max2_int min2_int max_two min_two max_three min_three max_four min_four   -- for this text's walks alone
set_option linter.unusedVariables false
set_option linter.unusedSimpArgs false

/-! ### spec_FileFields: function 31 -/
mutual
def spec_FileFields.j0 : Nat → List Int → List Int → Int → Option (List Int)
  | 0, _, _, _ => none
  | k + 1, x3, x9, x10 => spec_FileFields.l0 k x3 x9 x10 x3 (x3.length : Int) 0
def spec_FileFields.l0 : Nat → List Int → List Int → Int → List Int → Int → Int → Option (List Int)
  | 0, _, _, _, _, _, _ => none
  | k + 1, x3, x9, x10, x26, x27, x28 => if x28 < x27 then (if 0 ≤ x28 then (if x28 < (x26.length : Int) then (spec_FileFields.l0 k x3 x9 (IntKind.u64.wrap (x10 + (rd x26 x28))) x26 x27 (wrap64 (x28 + 1))) else (none)) else (none)) else ((spec_pbNumber.f k 3 x10).bind fun t150 => (if x9.length + t150.length < 140737488355328 then (spec_FileFields.l1 k (x9 ++ t150) x3 (x3.length : Int) 0) else (none)))
def spec_FileFields.l1 : Nat → List Int → List Int → Int → Int → Option (List Int)
  | 0, _, _, _, _ => none
  | k + 1, x9, x40, x41, x42 => if x42 < x41 then (if 0 ≤ x42 then (if x42 < (x40.length : Int) then ((spec_pbNumber.f k 4 (rd x40 x42)).bind fun t157 => (if x9.length + t157.length < 140737488355328 then (spec_FileFields.l1 k (x9 ++ t157) x40 x41 (wrap64 (x42 + 1))) else (none))) else (none)) else (none)) else (some x9)
end
def spec_FileFields.f (k : Nat) (a0 : Int) (a1 : Bool) (l2 : List Int) (l3 : List Int) : Option (List Int) := (spec_pbNumber.f k 1 (IntKind.u64.wrap (a0))).bind fun t140 => (if a1 = true then ((spec_pbField.f k 2 l2).bind fun t143 => (if t140.length + t143.length < 140737488355328 then (spec_FileFields.j0 k l3 (t140 ++ t143) (IntKind.u64.wrap ((l2.length : Int)))) else (none))) else (spec_FileFields.j0 k l3 t140 (IntKind.u64.wrap ((l2.length : Int)))))
theorem spec_FileFields.mono_l : ∀ k, (∀ y0 y1 y2, LeO (spec_FileFields.j0 k y0 y1 y2) (spec_FileFields.j0 (k + 1) y0 y1 y2)) ∧ (∀ y0 y1 y2 y3 y4 y5, LeO (spec_FileFields.l0 k y0 y1 y2 y3 y4 y5) (spec_FileFields.l0 (k + 1) y0 y1 y2 y3 y4 y5)) ∧ (∀ y0 y1 y2 y3, LeO (spec_FileFields.l1 k y0 y1 y2 y3) (spec_FileFields.l1 (k + 1) y0 y1 y2 y3))
  | 0 => ⟨fun _ _ _ r h => by simp [spec_FileFields.j0] at h, fun _ _ _ _ _ _ r h => by simp [spec_FileFields.l0] at h, fun _ _ _ _ r h => by simp [spec_FileFields.l1] at h⟩
  | k + 1 => by
    obtain ⟨ih0, ih1, ih2⟩ := spec_FileFields.mono_l k
    refine ⟨?_, ?_, ?_⟩
    · intro y0 y1 y2
      unfold spec_FileFields.j0
      repeat' first
      | (with_reducible exact ih0 _ _ _)
      | (with_reducible exact ih1 _ _ _ _ _ _)
      | (with_reducible exact ih2 _ _ _ _)
      | (with_reducible exact spec_pbField.mono _ _ _)
      | (with_reducible exact spec_pbNumber.mono _ _ _)
      | (with_reducible exact LeO.refl _)
      | (with_reducible exact LeO.none _)
      | (with_reducible refine LeO.ite ?_ ?_)
      | (with_reducible refine LeO.bind ?_ (fun _ => ?_))
      | exact ih0 _ _ _
      | exact ih1 _ _ _ _ _ _
      | exact ih2 _ _ _ _
      | exact spec_pbField.mono _ _ _
      | exact spec_pbNumber.mono _ _ _
      | exact LeO.none _
      | refine LeO.ite ?_ ?_
      | refine LeO.bind ?_ (fun _ => ?_)
    · intro y0 y1 y2 y3 y4 y5
      unfold spec_FileFields.l0
      repeat' first
      | (with_reducible exact ih0 _ _ _)
      | (with_reducible exact ih1 _ _ _ _ _ _)
      | (with_reducible exact ih2 _ _ _ _)
      | (with_reducible exact spec_pbField.mono _ _ _)
      | (with_reducible exact spec_pbNumber.mono _ _ _)
      | (with_reducible exact LeO.refl _)
      | (with_reducible exact LeO.none _)
      | (with_reducible refine LeO.ite ?_ ?_)
      | (with_reducible refine LeO.bind ?_ (fun _ => ?_))
      | exact ih0 _ _ _
      | exact ih1 _ _ _ _ _ _
      | exact ih2 _ _ _ _
      | exact spec_pbField.mono _ _ _
      | exact spec_pbNumber.mono _ _ _
      | exact LeO.none _
      | refine LeO.ite ?_ ?_
      | refine LeO.bind ?_ (fun _ => ?_)
    · intro y0 y1 y2 y3
      unfold spec_FileFields.l1
      repeat' first
      | (with_reducible exact ih0 _ _ _)
      | (with_reducible exact ih1 _ _ _ _ _ _)
      | (with_reducible exact ih2 _ _ _ _)
      | (with_reducible exact spec_pbField.mono _ _ _)
      | (with_reducible exact spec_pbNumber.mono _ _ _)
      | (with_reducible exact LeO.refl _)
      | (with_reducible exact LeO.none _)
      | (with_reducible refine LeO.ite ?_ ?_)
      | (with_reducible refine LeO.bind ?_ (fun _ => ?_))
      | exact ih0 _ _ _
      | exact ih1 _ _ _ _ _ _
      | exact ih2 _ _ _ _
      | exact spec_pbField.mono _ _ _
      | exact spec_pbNumber.mono _ _ _
      | exact LeO.none _
      | refine LeO.ite ?_ ?_
      | refine LeO.bind ?_ (fun _ => ?_)
theorem spec_FileFields.mono : ∀ a0 a1 a2 a3 k, LeO (spec_FileFields.f k a0 a1 a2 a3) (spec_FileFields.f (k + 1) a0 a1 a2 a3) := by
  intro a0 a1 a2 a3 k
  obtain ⟨ih0, ih1, ih2⟩ := spec_FileFields.mono_l k
  unfold spec_FileFields.f
  repeat' first
      | (with_reducible exact ih0 _ _ _)
      | (with_reducible exact ih1 _ _ _ _ _ _)
      | (with_reducible exact ih2 _ _ _ _)
      | (with_reducible exact spec_pbField.mono _ _ _)
      | (with_reducible exact spec_pbNumber.mono _ _ _)
      | (with_reducible exact LeO.refl _)
      | (with_reducible exact LeO.none _)
      | (with_reducible refine LeO.ite ?_ ?_)
      | (with_reducible refine LeO.bind ?_ (fun _ => ?_))
      | exact ih0 _ _ _
      | exact ih1 _ _ _ _ _ _
      | exact ih2 _ _ _ _
      | exact spec_pbField.mono _ _ _
      | exact spec_pbNumber.mono _ _ _
      | exact LeO.none _
      | refine LeO.ite ?_ ?_
      | refine LeO.bind ?_ (fun _ => ?_)
set_option maxHeartbeats 8000000 in
set_option maxRecDepth 100000 in
theorem spec_FileFields.calls (k : Nat) (a0 : Int) (a1 : Bool) (A2 : Option Addr) (c2 : Nat) (l2 : List Int) (A3 : Option Addr) (c3 : Nat) (l3 : List Int) (r : List Int) (w : World) (hr2 : Kd.C (Kd.int .u8) w A2 l2.length l2) (hc2 : l2.length ≤ c2) (hr3 : Kd.C (Kd.int .u64) w A3 l3.length l3) (hc3 : l3.length ≤ c3) (h : spec_FileFields.f k a0 a1 l2 l3 = some r) :
    Calls Tryd.prog 31 #[.int .i64 a0, .bool a1, .slice A2 l2.length c2, .slice A3 l3.length c3] w fun e w' => ∃ v0_ : Value, e = .returned (v0_) ∧ Kd.R (Kd.int .u8) 5 w' w.heap.size (fun _ => True) v0_ r ∧ Below w.heap.size w w' := by
  have HR2 := Aside0.mk hr2
  have HC2 := Aside0.mk hc2
  clear hr2 hc2
  have HR3 := Aside0.mk hr3
  have HC3 := Aside0.mk hc3
  clear hr3 hc3
  have HB := Aside0.mk (Below.refl w.heap.size w)
  have H : ((spec_pbNumber.f k 1 (IntKind.u64.wrap (a0))).bind fun t140 => (if a1 = true then ((spec_pbField.f k 2 l2).bind fun t143 => (if t140.length + t143.length < 140737488355328 then (spec_FileFields.j0 k l3 (t140 ++ t143) (IntKind.u64.wrap ((l2.length : Int)))) else (none))) else (spec_FileFields.j0 k l3 t140 (IntKind.u64.wrap ((l2.length : Int)))))) = some r := h
  clear h
  replace H := Option.bind_eq_some_iff.mp H
  obtain ⟨t140, A50, H⟩ := H
  replace H : (if a1 = true then ((spec_pbField.f k 2 l2).bind fun t143 => (if t140.length + t143.length < 140737488355328 then (spec_FileFields.j0 k l3 (t140 ++ t143) (IntKind.u64.wrap ((l2.length : Int)))) else (none))) else (spec_FileFields.j0 k l3 t140 (IntKind.u64.wrap ((l2.length : Int))))) = some r := H
  have A5 := Aside0.mk A50
  clear A50
  have HC6 := Aside0.mk H
  clear H
  go_enter Tryd.func31, Tryd.ntmps31
  go_upto_if 21 with (first | ((with_reducible refine gate_callee (f := 58) rfl ?_); refine goesL_ (some 17) rfl rfl Tryd.func58 (by kernel_rfl) rfl #[.int .u8 1, .int .u64 (IntKind.u64.wrap (a0))] rfl (by (try simp only [List.map_toArray, List.map_cons, List.map_nil]); first | done | rfl | (simp only [List.length_drop, List.length_take]; rfl)) ?_; (with_reducible refine (spec_pbNumber.calls k 1 (IntKind.u64.wrap (a0)) t140 _ A5.out).mono ?_); rintro e w7 ⟨v141, rfl, ho0, hb⟩; refine ⟨_, rfl, ?_⟩; have n0_ := Aside0.mk (Kd.R_lower ho0 (below_size (by repeat (first | (with_reducible first | exact HB.out | apply below_alloc | apply pw_below_drewN | apply below_drew1) | exact HB.out)))); have n1_ := Aside0.mk (below_step (by repeat (first | (with_reducible first | exact HB.out | apply below_alloc | apply pw_below_drewN | apply below_drew1) | exact HB.out)) hb); clear HB; have HO142 := n0_; have HB := n1_; clear n0_ n1_; (try clear hb); (try clear hb2); (try clear hk); (try clear hi); (try clear ho0)))
  (try simp only [Act.put, List.setIfInBounds_toArray, List.set_cons_zero, List.set_cons_succ])
  go_cut [9] (fun v9 wc => ∃ (kq : Nat) (x9_5 : List Int), Aside0 (spec_FileFields.j0 kq l3 x9_5 (IntKind.u64.wrap ((l2.length : Int))) = some r) ∧ Aside0 (kq ≤ k) ∧ Aside0 (Kd.R (Kd.int .u8) 5 wc w.heap.size (fun _ => True) v9 x9_5) ∧ Aside0 (Below w.heap.size w wc))
  case first =>
    have H := HC6.out
    clear HC6
    by_cases c8 : a1 = true
    · subst c8
      have H1 : ((spec_pbField.f k 2 l2).bind fun t143 => (if t140.length + t143.length < 140737488355328 then (spec_FileFields.j0 k l3 (t140 ++ t143) (IntKind.u64.wrap ((l2.length : Int)))) else (none))) = some r := by rw [if_pos rfl] at H; exact H
      clear H
      have H := H1
      clear H1
      replace H := Option.bind_eq_some_iff.mp H
      obtain ⟨t143, A90, H⟩ := H
      replace H : (if t140.length + t143.length < 140737488355328 then (spec_FileFields.j0 k l3 (t140 ++ t143) (IntKind.u64.wrap ((l2.length : Int)))) else (none)) = some r := H
      have A9 := Aside0.mk A90
      clear A90
      by_cases c10 : t140.length + t143.length < 140737488355328
      · rw [if_pos c10] at H
        have LMc10 := Aside0.mk c10
        clear c10
        obtain ⟨y146, hy146⟩ : ∃ y_ : List Int, y_ = (t140 ++ t143) := ⟨_, rfl⟩
        replace H : (spec_FileFields.j0 k l3 y146 (IntKind.u64.wrap ((l2.length : Int)))) = some r := by first | (rw [hy146]; with_reducible exact H) | (have H2_ := (Option.bind_some _ _).symm.trans H; rw [hy146]; with_reducible exact H2_) | (have H2_ := (Option.bind_some _ _).symm.trans H; with_reducible exact H2_) | with_reducible exact H | (rw [hy146]; exact H) | exact H
        have Ny146 := Aside0.mk hy146
        clear hy146
        have H' := Aside0.mk H
        clear H
        go_wp2_with (first | ((with_reducible refine gate_callee (f := 57) rfl ?_); refine goesL_ (some 24) rfl rfl Tryd.func57 (by kernel_rfl) rfl #[.int .u8 2, .slice A2 l2.length c2] rfl (by (try simp only [List.map_toArray, List.map_cons, List.map_nil]); first | done | rfl | (simp only [List.length_drop, List.length_take]; rfl)) ?_; (with_reducible refine (spec_pbField.calls k 2 _ _ l2 t143 _ ?side1 ?side2 A9.out).mono ?_); (case side1 => repeat (first | exact (Kd.C_below HR2.out HB.out) | (with_reducible refine Kd.C_alloc ?_ _) | (with_reducible refine Kd.C_drewN ?_ _) | (with_reducible refine Kd.C_drew ?_))); (case side2 => exact HC2.out); rintro e w11 ⟨v144, rfl, ho0, hb⟩; refine ⟨_, rfl, ?_⟩; have n0_ := Aside0.mk (Kd.R_elder' (by (with_reducible repeat (first | apply Kd.R_alloc | apply Kd.R_drewN | apply Kd.R_drew)); exact HO142.out) (Kd.R_base ho0) hb); have n1_ := Aside0.mk (Kd.R_lower (Kd.R_new' ho0 (Kd.R_lt (by (with_reducible repeat (first | apply Kd.R_alloc | apply Kd.R_drewN | apply Kd.R_drew)); exact HO142.out))) (below_size (by repeat (first | (with_reducible first | exact HB.out | apply below_alloc | apply pw_below_drewN | apply below_drew1) | exact HB.out)))); have n2_ := Aside0.mk (below_step (by repeat (first | (with_reducible first | exact HB.out | apply below_alloc | apply pw_below_drewN | apply below_drew1) | exact HB.out)) hb); clear HO142; clear HB; have HO142 := n0_; have HO145 := n1_; have HB := n2_; clear n0_ n1_ n2_; (try clear hb); (try clear hb2); (try clear hk); (try clear hi); (try clear ho0); obtain ⟨Ao13, co13, eo13⟩ := Kd.R_slice HO145.out; subst eo13) | ((with_reducible refine gate_builtin (b := .append) (xs := #[.tmp 22, .tmp 24]) rfl ?_); at_builtin; refine Kd.R_append_rows (Kd.int .u8) (w0 := w) w.heap.size rfl (.tmp 22) (.tmp 24) 22 5 (.int .u8 0) 1 rfl Tryd.underlying22 info5 rfl (by decide) (by omega) v141 t140 t143 _ _ _ (fun k_ => some k_ ≠ (.slice Ao13 t143.length co13 : Value).ownBlock) (fun _ => False) rfl rfl ?aO ?aR (fun _ _ h => h) (fun _ h => h.elim) ?aF ?aB ?aS ?aL ?_; (case aR => repeat (first | exact (Kd.R_reads' HO145.out).2.2 | (with_reducible refine Kd.C_alloc ?_ _) | (with_reducible refine Kd.C_drewN ?_ _) | (with_reducible refine Kd.C_drew ?_))); (case aB => exact (by repeat (first | (with_reducible first | exact HB.out | apply below_alloc | apply pw_below_drewN | apply below_drew1) | exact HB.out))); (case aF => exact (fun k_ hk => Kd.fresh' (Kd.R_lt (by (with_reducible repeat (first | apply Kd.R_alloc | apply Kd.R_drewN | apply Kd.R_drew)); exact HO145.out)) k_ hk)); (case aO => exact (by (with_reducible repeat (first | apply Kd.R_alloc | apply Kd.R_drewN | apply Kd.R_drew)); exact Kd.R_mono HO142.out (fun _ hk => hk.2))); (case aS => exact (below_size (by repeat (first | (with_reducible first | exact HB.out | apply below_alloc | apply pw_below_drewN | apply below_drew1) | exact HB.out)))); (case aL => have := LMc10.out; omega); intro v147 w12 ho hb hg hat; rw [← Ny146.out] at ho; have n0_ := Aside0.mk (Kd.R_after (ok := (fun _ => True)) (by (with_reducible repeat (first | apply Kd.R_alloc | apply Kd.R_drewN | apply Kd.R_drew)); exact HO145.out) hg hat); have n1_ := Aside0.mk (hb); have n2_ := Aside0.mk (ho); clear HO145; clear HB; clear HO142; have HO145 := n0_; have HB := n1_; have HO148 := n2_; clear n0_ n1_ n2_; clear ho hb hg hat))
        go_meet
        case rel => exact ⟨_, (y146), H', ⟨by first | omega | exact Nat.le_refl _⟩, ⟨by (with_reducible repeat (first | apply Kd.R_alloc | apply Kd.R_drewN | apply Kd.R_drew)); exact Kd.R_mono HO148.out (fun _ hk => trivial)⟩, ⟨by repeat (first | (with_reducible first | exact HB.out | apply below_alloc | apply pw_below_drewN | apply below_drew1) | exact HB.out)⟩⟩
      · rw [if_neg c10] at H
        exact absurd H (by simp)
    · replace c8 := Bool.eq_false_iff.mpr c8
      subst c8
      have H1 : (spec_FileFields.j0 k l3 t140 (IntKind.u64.wrap ((l2.length : Int)))) = some r := by rw [if_neg (show ¬ (false = true) by decide)] at H; exact H
      clear H
      have H := H1
      clear H1
      have H' := Aside0.mk H
      clear H
      go_wp2
      go_meet
      case rel => exact ⟨_, (t140), H', ⟨by first | omega | exact Nat.le_refl _⟩, ⟨by (with_reducible repeat (first | apply Kd.R_alloc | apply Kd.R_drewN | apply Kd.R_drew)); exact HO142.out⟩, ⟨by repeat (first | (with_reducible first | exact HB.out | apply below_alloc | apply pw_below_drewN | apply below_drew1) | exact HB.out)⟩⟩
  case rest =>
    clear HC6
    try clear c1
    try clear c2
    try clear p2
    try clear c3
    try clear c5
    try clear c8
    try clear c10
    obtain ⟨kq, x9_5, HA, HJ5, HO_9, HB⟩ := hcut
    cases kq with
    | zero => exact absurd HA.out (by simp [spec_FileFields.j0])
    | succ kj5 =>
      have H := HA.out
      clear HA
      simp only [spec_FileFields.j0] at H
      have H' := Aside0.mk H
      clear H
      go_wp2
      go_loopg [10, 28] kj5 (fun kq v10 v28 w' => ∃ (x10_2 : Int) (x28_2 : Int), v10 = .int .u64 x10_2 ∧ v28 = .int .i64 x28_2 ∧ Aside0 (spec_FileFields.l0 kq l3 x9_5 x10_2 l3 (l3.length : Int) x28_2 = some r) ∧ Aside0 (kq ≤ kj5) ∧ Aside0 (Kd.R (Kd.int .u8) 5 w' w.heap.size (fun _ => True) u9 x9_5) ∧ Aside0 (Below w.heap.size w w'))
      case atStart => exact ⟨((IntKind.u64.wrap ((l2.length : Int)))), (0), (by first | rfl | (simp; done) | (simp [*]; done)), (by first | rfl | (simp; done) | (simp [*]; done)), H', ⟨Nat.le_refl _⟩, ⟨by (with_reducible repeat (first | apply Kd.R_alloc | apply Kd.R_drewN | apply Kd.R_drew)); exact HO_9.out⟩, ⟨by repeat (first | (with_reducible first | exact HB.out | apply below_alloc | apply pw_below_drewN | apply below_drew1) | exact HB.out)⟩⟩
      case round =>
        clear H'
        try clear c1
        try clear c2
        try clear p2
        try clear c3
        try clear c5
        try clear c8
        try clear c10
        try clear p2
        obtain ⟨x10_2, x28_2, rfl, rfl, HA, HK2, HO_9, HB⟩ := hrel
        cases gk with
        | zero => exact absurd HA.out (by simp [spec_FileFields.l0])
        | succ k2 =>
          have H := HA.out
          clear HA
          simp only [spec_FileFields.l0] at H
          by_cases c14 : x28_2 < (l3.length : Int)
          · rw [if_pos c14] at H
            have c14b0 : decide (x28_2 < (l3.length : Int)) = true := decide_eq_true c14
            clear c14
            by_cases c15 : 0 ≤ x28_2
            · rw [if_pos c15] at H
              have c15b0 : decide (0 ≤ x28_2) = true := decide_eq_true c15
              clear c15
              by_cases c16 : x28_2 < (l3.length : Int)
              · rw [if_pos c16] at H
                have c16b0 : decide (x28_2 < (l3.length : Int)) = true := decide_eq_true c16
                clear c16
                have H' := Aside0.mk H
                clear H
                have p149 : 0 ≤ (x28_2 : Int) := of_decide_eq_true (by first | (with_reducible assumption) | assumption)
                have q149 : x28_2 < (l3.length : Int) := of_decide_eq_true (by first | (with_reducible assumption) | assumption)
                obtain ⟨ad149, e149, hx149_0⟩ := Kd.at_int HR3.out x28_2 p149 q149
                cases e149
                replace hx149_0 := (HB.out.cell (World.block_lt_of_cell? w _ hx149_0)).trans hx149_0
                replace p149 := eq_true p149
                replace q149 := eq_true q149
                go_wp2
                go_roundg k2
                case measure => have := HJ5.out; have := HK2.out; omega
                case rel => exact ⟨(IntKind.u64.wrap (x10_2 + (rd l3 x28_2))), (wrap64 (x28_2 + 1)), (by first | rfl | (simp; done) | (simp [*]; done)), (by first | rfl | (simp; done) | (simp [*]; done)), H', ⟨by have := HJ5.out; have := HK2.out; omega⟩, ⟨by (with_reducible repeat (first | apply Kd.R_alloc | apply Kd.R_drewN | apply Kd.R_drew)); exact HO_9.out⟩, ⟨by repeat (first | (with_reducible first | exact HB.out | apply below_alloc | apply pw_below_drewN | apply below_drew1) | exact HB.out)⟩⟩
              · rw [if_neg c16] at H
                exact absurd H (by simp)
            · rw [if_neg c15] at H
              exact absurd H (by simp)
          · rw [if_neg c14] at H
            have c14b0 : decide (x28_2 < (l3.length : Int)) = false := decide_eq_false c14
            clear c14
            replace H := Option.bind_eq_some_iff.mp H
            obtain ⟨t150, A170, H⟩ := H
            replace H : (if x9_5.length + t150.length < 140737488355328 then (spec_FileFields.l1 k2 (x9_5 ++ t150) l3 (l3.length : Int) 0) else (none)) = some r := H
            have A17 := Aside0.mk A170
            clear A170
            by_cases c18 : x9_5.length + t150.length < 140737488355328
            · rw [if_pos c18] at H
              have LMc18 := Aside0.mk c18
              clear c18
              obtain ⟨y153, hy153⟩ : ∃ y_ : List Int, y_ = (x9_5 ++ t150) := ⟨_, rfl⟩
              replace H : (spec_FileFields.l1 k2 y153 l3 (l3.length : Int) 0) = some r := by first | (rw [hy153]; with_reducible exact H) | (have H2_ := (Option.bind_some _ _).symm.trans H; rw [hy153]; with_reducible exact H2_) | (have H2_ := (Option.bind_some _ _).symm.trans H; with_reducible exact H2_) | with_reducible exact H | (rw [hy153]; exact H) | exact H
              have Ny153 := Aside0.mk hy153
              clear hy153
              have H' := Aside0.mk H
              clear H
              go_wp2_with (first | ((with_reducible refine gate_callee (f := 58) rfl ?_); refine goesL_ (some 38) rfl rfl Tryd.func58 (by kernel_rfl) rfl #[.int .u8 3, .int .u64 x10_2] rfl (by (try simp only [List.map_toArray, List.map_cons, List.map_nil]); first | done | rfl | (simp only [List.length_drop, List.length_take]; rfl)) ?_; (with_reducible refine (spec_pbNumber.calls k2 3 x10_2 t150 _ A17.out).mono ?_); rintro e w19 ⟨v151, rfl, ho0, hb⟩; refine ⟨_, rfl, ?_⟩; have n0_ := Aside0.mk (Kd.R_elder' (by (with_reducible repeat (first | apply Kd.R_alloc | apply Kd.R_drewN | apply Kd.R_drew)); exact HO_9.out) (Kd.R_base ho0) hb); have n1_ := Aside0.mk (Kd.R_lower (Kd.R_new' ho0 (Kd.R_lt (by (with_reducible repeat (first | apply Kd.R_alloc | apply Kd.R_drewN | apply Kd.R_drew)); exact HO_9.out))) (below_size (by repeat (first | (with_reducible first | exact HB.out | apply below_alloc | apply pw_below_drewN | apply below_drew1) | exact HB.out)))); have n2_ := Aside0.mk (below_step (by repeat (first | (with_reducible first | exact HB.out | apply below_alloc | apply pw_below_drewN | apply below_drew1) | exact HB.out)) hb); clear HO_9; clear HB; have HO_9 := n0_; have HO152 := n1_; have HB := n2_; clear n0_ n1_ n2_; (try clear hb); (try clear hb2); (try clear hk); (try clear hi); (try clear ho0); obtain ⟨Ao21, co21, eo21⟩ := Kd.R_slice HO152.out; subst eo21) | ((with_reducible refine gate_builtin (b := .append) (xs := #[.tmp 36, .tmp 38]) rfl ?_); at_builtin; refine Kd.R_append_rows (Kd.int .u8) (w0 := w) w.heap.size rfl (.tmp 36) (.tmp 38) 22 5 (.int .u8 0) 1 rfl Tryd.underlying22 info5 rfl (by decide) (by omega) u9 x9_5 t150 _ _ _ (fun k_ => some k_ ≠ (.slice Ao21 t150.length co21 : Value).ownBlock) (fun _ => False) rfl rfl ?aO ?aR (fun _ _ h => h) (fun _ h => h.elim) ?aF ?aB ?aS ?aL ?_; (case aR => repeat (first | exact (Kd.R_reads' HO152.out).2.2 | (with_reducible refine Kd.C_alloc ?_ _) | (with_reducible refine Kd.C_drewN ?_ _) | (with_reducible refine Kd.C_drew ?_))); (case aB => exact (by repeat (first | (with_reducible first | exact HB.out | apply below_alloc | apply pw_below_drewN | apply below_drew1) | exact HB.out))); (case aF => exact (fun k_ hk => Kd.fresh' (Kd.R_lt (by (with_reducible repeat (first | apply Kd.R_alloc | apply Kd.R_drewN | apply Kd.R_drew)); exact HO152.out)) k_ hk)); (case aO => exact (by (with_reducible repeat (first | apply Kd.R_alloc | apply Kd.R_drewN | apply Kd.R_drew)); exact Kd.R_mono HO_9.out (fun _ hk => hk.2))); (case aS => exact (below_size (by repeat (first | (with_reducible first | exact HB.out | apply below_alloc | apply pw_below_drewN | apply below_drew1) | exact HB.out)))); (case aL => have := LMc18.out; omega); intro v154 w20 ho hb hg hat; rw [← Ny153.out] at ho; have n0_ := Aside0.mk (Kd.R_after (ok := (fun _ => True)) (by (with_reducible repeat (first | apply Kd.R_alloc | apply Kd.R_drewN | apply Kd.R_drew)); exact HO152.out) hg hat); have n1_ := Aside0.mk (hb); have n2_ := Aside0.mk (ho); clear HO152; clear HB; clear HO_9; have HO152 := n0_; have HB := n1_; have HO155 := n2_; clear n0_ n1_ n2_; clear ho hb hg hat))
              go_loopg [9, 42] k2 (fun kq v9 v42 w' => ∃ (x9_3 : List Int) (x42_3 : Int), v42 = .int .i64 x42_3 ∧ Aside0 (spec_FileFields.l1 kq x9_3 l3 (l3.length : Int) x42_3 = some r) ∧ Aside0 (kq ≤ k2) ∧ Aside0 (Kd.R (Kd.int .u8) 5 w' w.heap.size (fun _ => True) v9 x9_3) ∧ Aside0 (Below w.heap.size w w'))
              case atStart => exact ⟨(y153), (0), (by first | rfl | (simp; done) | (simp [*]; done)), H', ⟨Nat.le_refl _⟩, ⟨by (with_reducible repeat (first | apply Kd.R_alloc | apply Kd.R_drewN | apply Kd.R_drew)); exact Kd.R_mono HO155.out (fun _ hk => trivial)⟩, ⟨by repeat (first | (with_reducible first | exact HB.out | apply below_alloc | apply pw_below_drewN | apply below_drew1) | exact HB.out)⟩⟩
              case round =>
                clear H'
                try clear c1
                try clear p1
                try clear q1
                try clear hx1
                try clear c2
                try clear p2
                try clear c3
                try clear c5
                try clear p6
                try clear c8
                try clear c10
                try clear c14
                try clear c14b0
                try clear p14
                try clear q14
                try clear hx14
                try clear c15
                try clear c15b0
                try clear c16
                try clear c16b0
                try clear c18
                try clear hx149_0
                try clear p149
                try clear p2
                try clear q149
                obtain ⟨x9_3, x42_3, rfl, HA, HK3, HO_9, HB⟩ := hrel
                cases gk with
                | zero => exact absurd HA.out (by simp [spec_FileFields.l1])
                | succ k3 =>
                  have H := HA.out
                  clear HA
                  simp only [spec_FileFields.l1] at H
                  by_cases c22 : x42_3 < (l3.length : Int)
                  · rw [if_pos c22] at H
                    have c22b0 : decide (x42_3 < (l3.length : Int)) = true := decide_eq_true c22
                    clear c22
                    by_cases c23 : 0 ≤ x42_3
                    · rw [if_pos c23] at H
                      have c23b0 : decide (0 ≤ x42_3) = true := decide_eq_true c23
                      clear c23
                      by_cases c24 : x42_3 < (l3.length : Int)
                      · rw [if_pos c24] at H
                        have c24b0 : decide (x42_3 < (l3.length : Int)) = true := decide_eq_true c24
                        clear c24
                        replace H := Option.bind_eq_some_iff.mp H
                        obtain ⟨t157, A250, H⟩ := H
                        replace H : (if x9_3.length + t157.length < 140737488355328 then (spec_FileFields.l1 k3 (x9_3 ++ t157) l3 (l3.length : Int) (wrap64 (x42_3 + 1))) else (none)) = some r := H
                        have A25 := Aside0.mk A250
                        clear A250
                        by_cases c26 : x9_3.length + t157.length < 140737488355328
                        · rw [if_pos c26] at H
                          have LMc26 := Aside0.mk c26
                          clear c26
                          obtain ⟨y160, hy160⟩ : ∃ y_ : List Int, y_ = (x9_3 ++ t157) := ⟨_, rfl⟩
                          replace H : (spec_FileFields.l1 k3 y160 l3 (l3.length : Int) (wrap64 (x42_3 + 1))) = some r := by first | (rw [hy160]; with_reducible exact H) | (have H2_ := (Option.bind_some _ _).symm.trans H; rw [hy160]; with_reducible exact H2_) | (have H2_ := (Option.bind_some _ _).symm.trans H; with_reducible exact H2_) | with_reducible exact H | (rw [hy160]; exact H) | exact H
                          have Ny160 := Aside0.mk hy160
                          clear hy160
                          have H' := Aside0.mk H
                          clear H
                          have p156 : 0 ≤ (x42_3 : Int) := of_decide_eq_true (by first | (with_reducible assumption) | assumption)
                          have q156 : x42_3 < (l3.length : Int) := of_decide_eq_true (by first | (with_reducible assumption) | assumption)
                          obtain ⟨ad156, e156, hx156_0⟩ := Kd.at_int HR3.out x42_3 p156 q156
                          cases e156
                          replace hx156_0 := (HB.out.cell (World.block_lt_of_cell? w _ hx156_0)).trans hx156_0
                          replace p156 := eq_true p156
                          replace q156 := eq_true q156
                          go_wp2_with (first | ((with_reducible refine gate_callee (f := 58) rfl ?_); refine goesL_ (some 48) rfl rfl Tryd.func58 (by kernel_rfl) rfl #[.int .u8 4, .int .u64 (rd l3 x42_3)] rfl (by (try simp only [List.map_toArray, List.map_cons, List.map_nil]); first | done | rfl | (simp only [List.length_drop, List.length_take]; rfl)) ?_; (with_reducible refine (spec_pbNumber.calls k3 4 (rd l3 x42_3) t157 _ A25.out).mono ?_); rintro e w27 ⟨v158, rfl, ho0, hb⟩; refine ⟨_, rfl, ?_⟩; have n0_ := Aside0.mk (Kd.R_elder' (by (with_reducible repeat (first | apply Kd.R_alloc | apply Kd.R_drewN | apply Kd.R_drew)); exact HO_9.out) (Kd.R_base ho0) hb); have n1_ := Aside0.mk (Kd.R_lower (Kd.R_new' ho0 (Kd.R_lt (by (with_reducible repeat (first | apply Kd.R_alloc | apply Kd.R_drewN | apply Kd.R_drew)); exact HO_9.out))) (below_size (by repeat (first | (with_reducible first | exact HB.out | apply below_alloc | apply pw_below_drewN | apply below_drew1) | exact HB.out)))); have n2_ := Aside0.mk (below_step (by repeat (first | (with_reducible first | exact HB.out | apply below_alloc | apply pw_below_drewN | apply below_drew1) | exact HB.out)) hb); clear HO_9; clear HB; have HO_9 := n0_; have HO159 := n1_; have HB := n2_; clear n0_ n1_ n2_; (try clear hb); (try clear hb2); (try clear hk); (try clear hi); (try clear ho0); obtain ⟨Ao29, co29, eo29⟩ := Kd.R_slice HO159.out; subst eo29) | ((with_reducible refine gate_builtin (b := .append) (xs := #[.tmp 46, .tmp 48]) rfl ?_); at_builtin; refine Kd.R_append_rows (Kd.int .u8) (w0 := w) w.heap.size rfl (.tmp 46) (.tmp 48) 22 5 (.int .u8 0) 1 rfl Tryd.underlying22 info5 rfl (by decide) (by omega) u9 x9_3 t157 _ _ _ (fun k_ => some k_ ≠ (.slice Ao29 t157.length co29 : Value).ownBlock) (fun _ => False) rfl rfl ?aO ?aR (fun _ _ h => h) (fun _ h => h.elim) ?aF ?aB ?aS ?aL ?_; (case aR => repeat (first | exact (Kd.R_reads' HO159.out).2.2 | (with_reducible refine Kd.C_alloc ?_ _) | (with_reducible refine Kd.C_drewN ?_ _) | (with_reducible refine Kd.C_drew ?_))); (case aB => exact (by repeat (first | (with_reducible first | exact HB.out | apply below_alloc | apply pw_below_drewN | apply below_drew1) | exact HB.out))); (case aF => exact (fun k_ hk => Kd.fresh' (Kd.R_lt (by (with_reducible repeat (first | apply Kd.R_alloc | apply Kd.R_drewN | apply Kd.R_drew)); exact HO159.out)) k_ hk)); (case aO => exact (by (with_reducible repeat (first | apply Kd.R_alloc | apply Kd.R_drewN | apply Kd.R_drew)); exact Kd.R_mono HO_9.out (fun _ hk => hk.2))); (case aS => exact (below_size (by repeat (first | (with_reducible first | exact HB.out | apply below_alloc | apply pw_below_drewN | apply below_drew1) | exact HB.out)))); (case aL => have := LMc26.out; omega); intro v161 w28 ho hb hg hat; rw [← Ny160.out] at ho; have n0_ := Aside0.mk (Kd.R_after (ok := (fun _ => True)) (by (with_reducible repeat (first | apply Kd.R_alloc | apply Kd.R_drewN | apply Kd.R_drew)); exact HO159.out) hg hat); have n1_ := Aside0.mk (hb); have n2_ := Aside0.mk (ho); clear HO159; clear HB; clear HO_9; have HO159 := n0_; have HB := n1_; have HO162 := n2_; clear n0_ n1_ n2_; clear ho hb hg hat))
                          go_roundg k3
                          case measure => have := HJ5.out; have := HK2.out; have := HK3.out; omega
                          case rel => exact ⟨(y160), (wrap64 (x42_3 + 1)), (by first | rfl | (simp; done) | (simp [*]; done)), H', ⟨by have := HJ5.out; have := HK2.out; have := HK3.out; omega⟩, ⟨by (with_reducible repeat (first | apply Kd.R_alloc | apply Kd.R_drewN | apply Kd.R_drew)); exact Kd.R_mono HO162.out (fun _ hk => trivial)⟩, ⟨by repeat (first | (with_reducible first | exact HB.out | apply below_alloc | apply pw_below_drewN | apply below_drew1) | exact HB.out)⟩⟩
                        · rw [if_neg c26] at H
                          exact absurd H (by simp)
                      · rw [if_neg c24] at H
                        exact absurd H (by simp)
                    · rw [if_neg c23] at H
                      exact absurd H (by simp)
                  · rw [if_neg c22] at H
                    have c22b0 : decide (x42_3 < (l3.length : Int)) = false := decide_eq_false c22
                    clear c22
                    obtain rfl := Option.some.inj H
                    go_wp2
                    go_ret
                    exact ⟨_, by first | rfl | (simp [errV_none, errV_some] <;> rfl) | (simp [*, errV_none, errV_some] <;> rfl), by (with_reducible repeat (first | apply Kd.R_alloc | apply Kd.R_drewN | apply Kd.R_drew)); exact HO_9.out, by repeat (first | (with_reducible first | exact HB.out | apply below_alloc | apply pw_below_drewN | apply below_drew1) | exact HB.out)⟩
            · rw [if_neg c18] at H
              exact absurd H (by simp)

end Go.Proofs.YtnhnlodmkbiiiaaDoor.PFnFieldsWrite
