/- Printed by a program of this session (it drives the print of the kit, with contracts proved by hand beside): the Go functions of one law as Lean functions, and that the Go code comes to what they say. -/
import Derived.Test.YtnhnlodmkbiiiaaDoorPFnFieldsBackx0
import Derived.Test.YtnhnlodmkbiiiaaDoorPFnFieldsBackx3
import Derived.Test.YtnhnlodmkbiiiaaDoorPFnFieldsBackx4
import Derived.Test.YtnhnlodmkbiiiaaDoorPFnFieldsBackx5
import Derived.Test.YtnhnlodmkbiiiaaDoorPFnFieldsBackx6
namespace Go.Proofs.YtnhnlodmkbiiiaaDoor.PFnFieldsBack
open Go.RowKit Go.Proofs.YtnhnlodmkbiiiaaDoorL Go.Proofs.YtnhnlodmkbiiiaaDoorW.PrintWords Go.Proofs.YtnhnlodmkbiiiaaDoorW.PrintLast Go.Proofs.YtnhnlodmkbiiiaaDoorW.PrintMore
attribute [local go_sem] max2_int min2_int max_two min_two max_three min_three max_four min_four   -- for this text's walks alone
set_option linter.unusedVariables false
set_option linter.unusedSimpArgs false

/-! ### laws_FnFieldsBack: function 8 -/
mutual
def laws_FnFieldsBack.j0 : Nat → Int → List Int → List Int → Bool → Option (Bool)
  | 0, _, _, _, _ => none
  | k + 1, x0, x1, x2, x22 => if x22 = true then (some true) else ((laws_fewSizes.f k x1 x2).bind fun t116 => (if t116 = true then ((some (([] : List Int) : List Int)).bind fun y118 => (if y118.length + x1.length < 140737488355328 then ((impl_FSBytes.f (wrap64 (Int.tmod x0 6)) true (y118 ++ x1) x2).bind fun bt124 => ((impl_FSOf.f bt124.1).bind fun bt128 => (laws_FnFieldsBack.l0 k x1 x2 (wrap64 (Int.tmod x0 6)) bt124.2 bt128.2.2.2.2.2.2 (IntKind.u64.wrap ((x1.length : Int))) x2 (x2.length : Int) 0 bt128.1 bt128.2.1 bt128.2.2.1 bt128.2.2.2.1 bt128.2.2.2.2.1 bt128.2.2.2.2.2.1))) else (none))) else ((laws_folderAwake.f).bind fun t117 => (some t117))))
def laws_FnFieldsBack.l0 : Nat → List Int → List Int → Int → Bool → Bool → Int → List Int → Int → Int → Int → List Int → Int → List Int → Int → Int → Option (Bool)
  | 0, _, _, _, _, _, _, _, _, _, _, _, _, _, _, _ => none
  | k + 1, x1, x2, x7, x9, x11, x12, x48, x49, x50, x140000, x140001, x140002, x140003, x140004, x140005 => if x50 < x49 then (if 0 ≤ x50 then (if x50 < (x48.length : Int) then (laws_FnFieldsBack.l0 k x1 x2 x7 x9 x11 (IntKind.u64.wrap (x12 + (rd x48 x50))) x48 x49 (wrap64 (x50 + 1)) x140000 x140001 x140002 x140003 x140004 x140005) else (none)) else (none)) else (if x9 = true then (if x11 = true then ((spec_Told.f k x7 x1 x12 x2 0 0).bind fun bt141 => ((spec_SameFS.f k x140000 x140001 x140002 x140003 x140004 x140005 bt141.1 bt141.2.1 bt141.2.2.1 bt141.2.2.2.1 bt141.2.2.2.2.1 bt141.2.2.2.2.2).bind fun t151 => (if t151 = true then ((laws_folderAwake.f).bind fun t152 => (some t152)) else (some false)))) else (some false)) else (some false))
end
def laws_FnFieldsBack.f (k : Nat) (a0 : Int) (l1 : List Int) (l2 : List Int) : Option (Bool) := if (l1.length : Int) > 2147483647 then (laws_FnFieldsBack.j0 k a0 l1 l2 true) else (laws_FnFieldsBack.j0 k a0 l1 l2 (decide ((l2.length : Int) > 2147483647)))
theorem laws_FnFieldsBack.mono_l : ∀ k, (∀ y0 y1 y2 y3, LeO (laws_FnFieldsBack.j0 k y0 y1 y2 y3) (laws_FnFieldsBack.j0 (k + 1) y0 y1 y2 y3)) ∧ (∀ y0 y1 y2 y3 y4 y5 y6 y7 y8 y9 y10 y11 y12 y13 y14, LeO (laws_FnFieldsBack.l0 k y0 y1 y2 y3 y4 y5 y6 y7 y8 y9 y10 y11 y12 y13 y14) (laws_FnFieldsBack.l0 (k + 1) y0 y1 y2 y3 y4 y5 y6 y7 y8 y9 y10 y11 y12 y13 y14))
  | 0 => ⟨fun _ _ _ _ r h => by simp [laws_FnFieldsBack.j0] at h, fun _ _ _ _ _ _ _ _ _ _ _ _ _ _ _ r h => by simp [laws_FnFieldsBack.l0] at h⟩
  | k + 1 => by
    obtain ⟨ih0, ih1⟩ := laws_FnFieldsBack.mono_l k
    refine ⟨?_, ?_⟩
    · intro y0 y1 y2 y3
      unfold laws_FnFieldsBack.j0
      repeat' first
      | (with_reducible exact ih0 _ _ _ _)
      | (with_reducible exact ih1 _ _ _ _ _ _ _ _ _ _ _ _ _ _ _)
      | (with_reducible exact laws_fewSizes.mono _ _ _)
      | (with_reducible exact spec_SameFS.mono _ _ _ _ _ _ _ _ _ _ _ _ _)
      | (with_reducible exact spec_Told.mono _ _ _ _ _ _ _)
      | (with_reducible exact LeO.refl _)
      | (with_reducible exact LeO.none _)
      | (with_reducible refine LeO.ite ?_ ?_)
      | (with_reducible refine LeO.bind ?_ (fun _ => ?_))
      | exact ih0 _ _ _ _
      | exact ih1 _ _ _ _ _ _ _ _ _ _ _ _ _ _ _
      | exact laws_fewSizes.mono _ _ _
      | exact spec_SameFS.mono _ _ _ _ _ _ _ _ _ _ _ _ _
      | exact spec_Told.mono _ _ _ _ _ _ _
      | exact LeO.none _
      | refine LeO.ite ?_ ?_
      | refine LeO.bind ?_ (fun _ => ?_)
    · intro y0 y1 y2 y3 y4 y5 y6 y7 y8 y9 y10 y11 y12 y13 y14
      unfold laws_FnFieldsBack.l0
      repeat' first
      | (with_reducible exact ih0 _ _ _ _)
      | (with_reducible exact ih1 _ _ _ _ _ _ _ _ _ _ _ _ _ _ _)
      | (with_reducible exact laws_fewSizes.mono _ _ _)
      | (with_reducible exact spec_SameFS.mono _ _ _ _ _ _ _ _ _ _ _ _ _)
      | (with_reducible exact spec_Told.mono _ _ _ _ _ _ _)
      | (with_reducible exact LeO.refl _)
      | (with_reducible exact LeO.none _)
      | (with_reducible refine LeO.ite ?_ ?_)
      | (with_reducible refine LeO.bind ?_ (fun _ => ?_))
      | exact ih0 _ _ _ _
      | exact ih1 _ _ _ _ _ _ _ _ _ _ _ _ _ _ _
      | exact laws_fewSizes.mono _ _ _
      | exact spec_SameFS.mono _ _ _ _ _ _ _ _ _ _ _ _ _
      | exact spec_Told.mono _ _ _ _ _ _ _
      | exact LeO.none _
      | refine LeO.ite ?_ ?_
      | refine LeO.bind ?_ (fun _ => ?_)
theorem laws_FnFieldsBack.mono : ∀ a0 a1 a2 k, LeO (laws_FnFieldsBack.f k a0 a1 a2) (laws_FnFieldsBack.f (k + 1) a0 a1 a2) := by
  intro a0 a1 a2 k
  obtain ⟨ih0, ih1⟩ := laws_FnFieldsBack.mono_l k
  unfold laws_FnFieldsBack.f
  repeat' first
      | (with_reducible exact ih0 _ _ _ _)
      | (with_reducible exact ih1 _ _ _ _ _ _ _ _ _ _ _ _ _ _ _)
      | (with_reducible exact laws_fewSizes.mono _ _ _)
      | (with_reducible exact spec_SameFS.mono _ _ _ _ _ _ _ _ _ _ _ _ _)
      | (with_reducible exact spec_Told.mono _ _ _ _ _ _ _)
      | (with_reducible exact LeO.refl _)
      | (with_reducible exact LeO.none _)
      | (with_reducible refine LeO.ite ?_ ?_)
      | (with_reducible refine LeO.bind ?_ (fun _ => ?_))
      | exact ih0 _ _ _ _
      | exact ih1 _ _ _ _ _ _ _ _ _ _ _ _ _ _ _
      | exact laws_fewSizes.mono _ _ _
      | exact spec_SameFS.mono _ _ _ _ _ _ _ _ _ _ _ _ _
      | exact spec_Told.mono _ _ _ _ _ _ _
      | exact LeO.none _
      | refine LeO.ite ?_ ?_
      | refine LeO.bind ?_ (fun _ => ?_)
def laws_FnFieldsBack.T14 : Bool × List (List Nat × List Nat) := (true, [([], []), ([0], [0]), ([1], [1]), ([1, 2], [1, 2]), ([3, 1], [3]), ([4], [4]), ([4], [4]), ([4], [4]), ([4], [4]), ([4], [4]), ([6, 7, 8, 9, 4], [4, 6, 7, 8, 9]), ([10, 4, 4], [4, 10]), ([5, 11, 11, 4], [4, 5, 11]), ([4, 12], [4, 12]), ([13, 12], [13]), ([14, 14], [14]), ([14, 15], [14, 15]), ([16, 15, 0, 1, 2, 3, 4, 5, 6, 7, 8, 9, 10, 11, 12, 13, 14, 15, 16], [16])])
def laws_FnFieldsBack.B14 : List Nat := [0, 1, 3, 7, 15, 31, 31, 31, 31, 31, 991, 2015, 4095, 8191, 16383, 32767, 65535, 131071]
theorem laws_FnFieldsBack.tab14 : rtab .any (opsOf Tryd.f8 14) = laws_FnFieldsBack.T14 := by kernel_rfl
theorem laws_FnFieldsBack.bits14 : waitsOk laws_FnFieldsBack.T14.2 laws_FnFieldsBack.B14 = true := by kernel_rfl
set_option maxHeartbeats 8000000 in
set_option maxRecDepth 100000 in
theorem laws_FnFieldsBack.calls (k : Nat) (a0 : Int) (A1 : Option Addr) (c1 : Nat) (l1 : List Int) (A2 : Option Addr) (c2 : Nat) (l2 : List Int) (r : Bool) (w : World) (hr1 : Kd.C (Kd.int .u8) w A1 l1.length l1) (hc1 : l1.length ≤ c1) (hr2 : Kd.C (Kd.int .u64) w A2 l2.length l2) (hc2 : l2.length ≤ c2) (h : laws_FnFieldsBack.f k a0 l1 l2 = some r) :
    Calls Tryd.prog 8 #[.int .u8 a0, .slice A1 l1.length c1, .slice A2 l2.length c2] w fun e w' => e = .returned (.bool r) ∧ Below w.heap.size w w' := by
  have hu56 := Tryd.underlying56
  have HR1 := Aside0.mk hr1
  have HC1 := Aside0.mk hc1
  clear hr1 hc1
  have HR2 := Aside0.mk hr2
  have HC2 := Aside0.mk hc2
  clear hr2 hc2
  have HB := Aside0.mk (Below.refl w.heap.size w)
  have H : (if (l1.length : Int) > 2147483647 then (laws_FnFieldsBack.j0 k a0 l1 l2 true) else (laws_FnFieldsBack.j0 k a0 l1 l2 (decide ((l2.length : Int) > 2147483647)))) = some r := h
  clear h
  have HC4 := Aside0.mk H
  clear H
  go_enter Tryd.func8, Tryd.ntmps8
  go_upto_region 1 with (fail)
  go_cut [22] (fun v22 wc => ∃ (kq : Nat) (x22_3 : Bool), v22 = .bool x22_3 ∧ Aside0 (laws_FnFieldsBack.j0 kq a0 l1 l2 x22_3 = some r) ∧ Aside0 (kq ≤ k) ∧ Aside0 (Below w.heap.size w wc))
  case first =>
    have H := HC4.out
    clear HC4
    by_cases c5 : (l1.length : Int) > 2147483647
    · rw [if_pos c5] at H
      have c5b0 : decide (2147483647 < (l1.length : Int)) = true := decide_eq_true c5
      have c5b1 : decide (2147483647 < l1.length) = true := decide_eq_true (by omega)
      clear c5
      (first | rw [c5b0] | (simp only [i64_w, i32_w]; rw [c5b0]) | skip)
      have H' := Aside0.mk H
      clear H
      go_wp2
      go_meet
      case rel => exact ⟨_, (true), (by first | rfl | (simp; done) | (simp [*]; done)), H', ⟨by first | omega | exact Nat.le_refl _⟩, ⟨by repeat (first | (with_reducible first | exact HB.out | apply below_alloc | apply pw_below_drewN | apply below_drew1) | exact HB.out)⟩⟩
    · rw [if_neg c5] at H
      have c5b0 : decide (2147483647 < (l1.length : Int)) = false := decide_eq_false c5
      have c5b1 : decide (2147483647 < l1.length) = false := decide_eq_false (by omega)
      clear c5
      (first | rw [c5b0] | (simp only [i64_w, i32_w]; rw [c5b0]) | skip)
      have H' := Aside0.mk H
      clear H
      go_wp2
      go_meet
      case rel => exact ⟨_, (decide ((l2.length : Int) > 2147483647)), (by first | rfl | (simp; done) | (simp [*]; done)), H', ⟨by first | omega | exact Nat.le_refl _⟩, ⟨by repeat (first | (with_reducible first | exact HB.out | apply below_alloc | apply pw_below_drewN | apply below_drew1) | exact HB.out)⟩⟩
  case rest =>
    clear HC4
    try clear c1
    try clear c2
    try clear p2
    try clear c5
    try clear c5b0
    try clear c5b1
    obtain ⟨kq, x22_3, rfl, HA, HJ3, HB⟩ := hcut
    cases kq with
    | zero => exact absurd HA.out (by simp [laws_FnFieldsBack.j0])
    | succ kj3 =>
      have H := HA.out
      clear HA
      simp only [laws_FnFieldsBack.j0] at H
      by_cases c6 : x22_3 = true
      · subst c6
        have H1 : (some true) = some r := by rw [if_pos rfl] at H; exact H
        clear H
        have H := H1
        clear H1
        obtain rfl := Option.some.inj H
        go_wp2
        go_ret
        exact ⟨by first | rfl | (simp [errV_none, errV_some] <;> rfl) | (simp [*, errV_none, errV_some] <;> rfl), by repeat (first | (with_reducible first | exact HB.out | apply below_alloc | apply pw_below_drewN | apply below_drew1) | exact HB.out)⟩
      · replace c6 := Bool.eq_false_iff.mpr c6
        subst c6
        have H1 : ((laws_fewSizes.f kj3 l1 l2).bind fun t116 => (if t116 = true then ((some (([] : List Int) : List Int)).bind fun y118 => (if y118.length + l1.length < 140737488355328 then ((impl_FSBytes.f (wrap64 (Int.tmod a0 6)) true (y118 ++ l1) l2).bind fun bt124 => ((impl_FSOf.f bt124.1).bind fun bt128 => (laws_FnFieldsBack.l0 kj3 l1 l2 (wrap64 (Int.tmod a0 6)) bt124.2 bt128.2.2.2.2.2.2 (IntKind.u64.wrap ((l1.length : Int))) l2 (l2.length : Int) 0 bt128.1 bt128.2.1 bt128.2.2.1 bt128.2.2.2.1 bt128.2.2.2.2.1 bt128.2.2.2.2.2.1))) else (none))) else ((laws_folderAwake.f).bind fun t117 => (some t117)))) = some r := by rw [if_neg (show ¬ (false = true) by decide)] at H; exact H
        clear H
        have H := H1
        clear H1
        replace H := Option.bind_eq_some_iff.mp H
        obtain ⟨t116, A70, H⟩ := H
        replace H : (if t116 = true then ((some (([] : List Int) : List Int)).bind fun y118 => (if y118.length + l1.length < 140737488355328 then ((impl_FSBytes.f (wrap64 (Int.tmod a0 6)) true (y118 ++ l1) l2).bind fun bt124 => ((impl_FSOf.f bt124.1).bind fun bt128 => (laws_FnFieldsBack.l0 kj3 l1 l2 (wrap64 (Int.tmod a0 6)) bt124.2 bt128.2.2.2.2.2.2 (IntKind.u64.wrap ((l1.length : Int))) l2 (l2.length : Int) 0 bt128.1 bt128.2.1 bt128.2.2.1 bt128.2.2.2.1 bt128.2.2.2.2.1 bt128.2.2.2.2.2.1))) else (none))) else ((laws_folderAwake.f).bind fun t117 => (some t117))) = some r := H
        have A7 := Aside0.mk A70
        clear A70
        by_cases c8 : t116 = true
        · subst c8
          have H1 : ((some (([] : List Int) : List Int)).bind fun y118 => (if y118.length + l1.length < 140737488355328 then ((impl_FSBytes.f (wrap64 (Int.tmod a0 6)) true (y118 ++ l1) l2).bind fun bt124 => ((impl_FSOf.f bt124.1).bind fun bt128 => (laws_FnFieldsBack.l0 kj3 l1 l2 (wrap64 (Int.tmod a0 6)) bt124.2 bt128.2.2.2.2.2.2 (IntKind.u64.wrap ((l1.length : Int))) l2 (l2.length : Int) 0 bt128.1 bt128.2.1 bt128.2.2.1 bt128.2.2.2.1 bt128.2.2.2.2.1 bt128.2.2.2.2.2.1))) else (none))) = some r := by rw [if_pos rfl] at H; exact H
          clear H
          have H := H1
          clear H1
          obtain ⟨y118, hy118⟩ : ∃ y_ : List Int, y_ = (([] : List Int)) := ⟨_, rfl⟩
          replace H : (if y118.length + l1.length < 140737488355328 then ((impl_FSBytes.f (wrap64 (Int.tmod a0 6)) true (y118 ++ l1) l2).bind fun bt124 => ((impl_FSOf.f bt124.1).bind fun bt128 => (laws_FnFieldsBack.l0 kj3 l1 l2 (wrap64 (Int.tmod a0 6)) bt124.2 bt128.2.2.2.2.2.2 (IntKind.u64.wrap ((l1.length : Int))) l2 (l2.length : Int) 0 bt128.1 bt128.2.1 bt128.2.2.1 bt128.2.2.2.1 bt128.2.2.2.2.1 bt128.2.2.2.2.2.1))) else (none)) = some r := by first | (rw [hy118]; with_reducible exact H) | (have H2_ := (Option.bind_some _ _).symm.trans H; rw [hy118]; with_reducible exact H2_) | (have H2_ := (Option.bind_some _ _).symm.trans H; with_reducible exact H2_) | with_reducible exact H | (rw [hy118]; exact H) | exact H
          have Ny118 := Aside0.mk hy118
          clear hy118
          by_cases c9 : y118.length + l1.length < 140737488355328
          · rw [if_pos c9] at H
            have LMc9 := Aside0.mk c9
            clear c9
            obtain ⟨y121, hy121⟩ : ∃ y_ : List Int, y_ = (y118 ++ l1) := ⟨_, rfl⟩
            replace H : ((impl_FSBytes.f (wrap64 (Int.tmod a0 6)) true y121 l2).bind fun bt124 => ((impl_FSOf.f bt124.1).bind fun bt128 => (laws_FnFieldsBack.l0 kj3 l1 l2 (wrap64 (Int.tmod a0 6)) bt124.2 bt128.2.2.2.2.2.2 (IntKind.u64.wrap ((l1.length : Int))) l2 (l2.length : Int) 0 bt128.1 bt128.2.1 bt128.2.2.1 bt128.2.2.2.1 bt128.2.2.2.2.1 bt128.2.2.2.2.2.1))) = some r := by first | (rw [hy121]; with_reducible exact H) | (have H2_ := (Option.bind_some _ _).symm.trans H; rw [hy121]; with_reducible exact H2_) | (have H2_ := (Option.bind_some _ _).symm.trans H; with_reducible exact H2_) | with_reducible exact H | (rw [hy121]; exact H) | exact H
            have Ny121 := Aside0.mk hy121
            clear hy121
            replace H := Option.bind_eq_some_iff.mp H
            obtain ⟨⟨t124, t125⟩, A100, H⟩ := H
            replace H : ((impl_FSOf.f t124).bind fun bt128 => (laws_FnFieldsBack.l0 kj3 l1 l2 (wrap64 (Int.tmod a0 6)) t125 bt128.2.2.2.2.2.2 (IntKind.u64.wrap ((l1.length : Int))) l2 (l2.length : Int) 0 bt128.1 bt128.2.1 bt128.2.2.1 bt128.2.2.2.1 bt128.2.2.2.2.1 bt128.2.2.2.2.2.1)) = some r := H
            have A10 := Aside0.mk A100
            clear A100
            replace H := Option.bind_eq_some_iff.mp H
            obtain ⟨⟨t128, t129, t132, t133, t136, t137, t138⟩, A110, H⟩ := H
            replace H : (laws_FnFieldsBack.l0 kj3 l1 l2 (wrap64 (Int.tmod a0 6)) t125 t138 (IntKind.u64.wrap ((l1.length : Int))) l2 (l2.length : Int) 0 t128 t129 t132 t133 t136 t137) = some r := H
            have A11 := Aside0.mk A110
            clear A110
            have H' := Aside0.mk H
            clear H
            go_wp2_with (first | ((with_reducible refine gate_callee (f := 29) rfl ?_); refine goesL_ (some 25) rfl rfl Tryd.func29 (by kernel_rfl) rfl #[.slice A1 l1.length c1, .slice A2 l2.length c2] rfl (by (try simp only [List.map_toArray, List.map_cons, List.map_nil]); first | done | rfl | (simp only [List.length_drop, List.length_take]; rfl)) ?_; (with_reducible refine (laws_fewSizes.calls kj3 _ _ l1 _ _ l2 true _ ?side1 ?side2 ?side3 ?side4 A7.out).mono ?_); (case side1 => repeat (first | exact (Kd.C_below HR1.out HB.out) | (with_reducible refine Kd.C_alloc ?_ _) | (with_reducible refine Kd.C_drewN ?_ _) | (with_reducible refine Kd.C_drew ?_))); (case side2 => exact HC1.out); (case side3 => repeat (first | exact (Kd.C_below HR2.out HB.out) | (with_reducible refine Kd.C_alloc ?_ _) | (with_reducible refine Kd.C_drewN ?_ _) | (with_reducible refine Kd.C_drew ?_))); (case side4 => exact HC2.out); rintro e w' ⟨rfl, ⟨nd, rfl⟩⟩; refine ⟨_, rfl, ?_⟩; (try (rw [drewN_self wc]; generalize hq_ : World.drewN wc _ = wc; have n0_ : Aside0 (Below w.heap.size w wc) := ⟨by rw [← hq_]; exact (by repeat (first | (with_reducible first | exact HB.out | apply below_alloc | apply pw_below_drewN | apply below_drew1) | exact HB.out))⟩; clear HB hq_; have HB := n0_; clear n0_))) | ((with_reducible refine gate_dst (N := 33) rfl ?_); (try (refine gate_guard (by rfl) ?_; dsimp only)); refine Kd.R_lit (Kd.int .u8) _ 5 ?hg (N := 33) ?hd (xs := ([] : List Int)) (inner := []) (ok := fun _ => True) (okp := fun _ => True) ?hr ?hp (fun _ hk => hk) trivial (Below.refl _ _) (Nat.le_refl _) (by simp) ?_; (case hd => rfl); (case hg => rfl); (case hr => first | (go_simp; done) | (go_simp; rfl)); (case hp => exact (Reps.none _ _)); intro v119 w12 ho13 hb hg_ hnew_; clear hg_ hnew_; (first | rw [← Ny118.out] at ho13 | (simp only [Int.reduceToNat] at ho13; rw [← Ny118.out] at ho13)); have n0_ := Aside0.mk (Kd.R_lower ho13 (below_size (by repeat (first | (with_reducible first | exact HB.out | apply below_alloc | apply pw_below_drewN | apply below_drew1) | exact HB.out)))); have n1_ := Aside0.mk (below_step (by repeat (first | (with_reducible first | exact HB.out | apply below_alloc | apply pw_below_drewN | apply below_drew1) | exact HB.out)) hb); clear HB; have HO120 := n0_; have HB := n1_; clear n0_ n1_; clear hb ho13) | ((with_reducible refine gate_builtin (b := .append) (xs := #[.tmp 33, .tmp 34]) rfl ?_); (try (refine gate_guard (by rfl) ?_; dsimp only)); at_builtin; refine Kd.R_append_rows (Kd.int .u8) (w0 := w) w.heap.size rfl (.tmp 33) (.tmp 34) 22 5 (.int .u8 0) 1 rfl Tryd.underlying22 info5 rfl (by decide) (by omega) v119 y118 l1 _ _ _ (fun _ => True) (fun _ => False) rfl rfl ?aO ?aR (fun _ _ h => h) (fun _ h => h.elim) ?aF ?aB ?aS ?aL ?_; (case aR => repeat (first | exact (Kd.C_below HR1.out HB.out) | (with_reducible refine Kd.C_alloc ?_ _) | (with_reducible refine Kd.C_drewN ?_ _) | (with_reducible refine Kd.C_drew ?_))); (case aB => exact (by repeat (first | (with_reducible first | exact HB.out | apply below_alloc | apply pw_below_drewN | apply below_drew1) | exact HB.out))); (case aF => exact (fun _ _ => trivial)); (case aO => exact (by (with_reducible repeat (first | apply Kd.R_alloc | apply Kd.R_drewN | apply Kd.R_drew)); exact HO120.out)); (case aS => exact (below_size (by repeat (first | (with_reducible first | exact HB.out | apply below_alloc | apply pw_below_drewN | apply below_drew1) | exact HB.out)))); (case aL => have := LMc9.out; omega); intro v122 w14 ho hb hg hat; rw [← Ny121.out] at ho; have n0_ := Aside0.mk (hb); have n1_ := Aside0.mk (ho); clear HB; clear HO120; have HB := n0_; have HO123 := n1_; clear n0_ n1_; clear ho hb hg hat; obtain ⟨Ao15, co15, eo15⟩ := Kd.R_slice HO123.out; subst eo15) | ((with_reducible refine gate_callee (f := 30) rfl ?_); refine goesL_ (some 37) rfl rfl Tryd.func30 (by kernel_rfl) rfl #[.int .i64 (wrap64 (Int.tmod a0 6)), .bool true, .slice Ao15 y121.length co15, .slice A2 l2.length c2] rfl (by (try simp only [List.map_toArray, List.map_cons, List.map_nil]); first | done | rfl | (simp only [List.length_drop, List.length_take]; rfl)) ?_; (with_reducible refine (impl_FSBytes.calls (wrap64 (Int.tmod a0 6)) true _ _ y121 _ _ l2 t124 t125 _ ?side1 ?side2 ?side3 ?side4 A10.out).mono ?_); (case side1 => repeat (first | exact (Kd.R_reads' HO123.out).2.2 | (with_reducible refine Kd.C_alloc ?_ _) | (with_reducible refine Kd.C_drewN ?_ _) | (with_reducible refine Kd.C_drew ?_))); (case side2 => exact (Kd.R_reads' HO123.out).2.1); (case side3 => repeat (first | exact (Kd.C_below HR2.out HB.out) | (with_reducible refine Kd.C_alloc ?_ _) | (with_reducible refine Kd.C_drewN ?_ _) | (with_reducible refine Kd.C_drew ?_))); (case side4 => exact HC2.out); rintro e w16 ⟨v126, rfl, ho0, hb⟩; refine ⟨_, rfl, ?_⟩; have n0_ := Aside0.mk (Kd.R_elder' (by (with_reducible repeat (first | apply Kd.R_alloc | apply Kd.R_drewN | apply Kd.R_drew)); exact HO123.out) (Kd.R_base ho0) hb); have n1_ := Aside0.mk (Kd.R_lower (Kd.R_new' ho0 (Kd.R_lt (by (with_reducible repeat (first | apply Kd.R_alloc | apply Kd.R_drewN | apply Kd.R_drew)); exact HO123.out))) (below_size (by repeat (first | (with_reducible first | exact HB.out | apply below_alloc | apply pw_below_drewN | apply below_drew1) | exact HB.out)))); have n2_ := Aside0.mk (below_step (by repeat (first | (with_reducible first | exact HB.out | apply below_alloc | apply pw_below_drewN | apply below_drew1) | exact HB.out)) hb); clear HO123; clear HB; have HO123 := n0_; have HO127 := n1_; have HB := n2_; clear n0_ n1_ n2_; (try clear hb); (try clear hb2); (try clear hk); (try clear hi); (try clear ho0); obtain ⟨Ao17, co17, eo17⟩ := Kd.R_slice HO127.out; subst eo17) | ((with_reducible refine gate_callee (f := 32) rfl ?_); refine goesL_ (some 42) rfl rfl Tryd.func32 (by kernel_rfl) rfl #[.slice Ao17 t124.length co17] rfl (by (try simp only [List.map_toArray, List.map_cons, List.map_nil]); first | done | rfl | (simp only [List.length_drop, List.length_take]; rfl)) ?_; (with_reducible refine (impl_FSOf.calls _ _ t124 t128 t129 t132 t133 t136 t137 t138 _ ?side1 ?side2 A11.out).mono ?_); (case side1 => repeat (first | exact (Kd.R_reads' HO127.out).2.2 | (with_reducible refine Kd.C_alloc ?_ _) | (with_reducible refine Kd.C_drewN ?_ _) | (with_reducible refine Kd.C_drew ?_))); (case side2 => exact (Kd.R_reads' HO127.out).2.1); rintro e w18 ⟨v130, v134, rfl, ho0, ho1, hb⟩; refine ⟨_, rfl, ?_⟩; have n0_ := Aside0.mk (Kd.R_elder' (by (with_reducible repeat (first | apply Kd.R_alloc | apply Kd.R_drewN | apply Kd.R_drew)); exact HO123.out) (Kd.R_base ho0) hb); have n1_ := Aside0.mk (Kd.R_elder' (by (with_reducible repeat (first | apply Kd.R_alloc | apply Kd.R_drewN | apply Kd.R_drew)); exact HO127.out) (Kd.R_base ho0) hb); have n2_ := Aside0.mk (Kd.R_lower (Kd.R_new' (Kd.R_new' ho0 (Kd.R_lt (by (with_reducible repeat (first | apply Kd.R_alloc | apply Kd.R_drewN | apply Kd.R_drew)); exact HO123.out))) (Kd.R_lt (by (with_reducible repeat (first | apply Kd.R_alloc | apply Kd.R_drewN | apply Kd.R_drew)); exact HO127.out))) (below_size (by repeat (first | (with_reducible first | exact HB.out | apply below_alloc | apply pw_below_drewN | apply below_drew1) | exact HB.out)))); have n3_ := Aside0.mk (Kd.R_lower ho1 (below_size (by repeat (first | (with_reducible first | exact HB.out | apply below_alloc | apply pw_below_drewN | apply below_drew1) | exact HB.out)))); have n4_ := Aside0.mk (below_step (by repeat (first | (with_reducible first | exact HB.out | apply below_alloc | apply pw_below_drewN | apply below_drew1) | exact HB.out)) hb); clear HO123; clear HO127; clear HB; have HO123 := n0_; have HO127 := n1_; have HO131 := n2_; have HO135 := n3_; have HB := n4_; clear n0_ n1_ n2_ n3_ n4_; (try clear hb); (try clear hb2); (try clear hk); (try clear hi); (try clear ho0); (try clear ho1)) | ((with_reducible refine gate_dst (N := 10) rfl ?_); (try (refine gate_guard (by rfl) ?_; dsimp only)); refine box_event ?hg (N := 10) ?hd (cs := #[.int .i64 0, .slice none 0 0, .int .u64 0, .slice none 0 0, .int .u64 0, .int .u64 0]) (t := 56) ?hr ?_; (case hd => rfl); (case hg => rfl); (case hr => first | (go_simp; done) | (go_simp; rfl)); intro gb139 hg w19 hbox hb; have n0_ := Aside0.mk (Kd.R_below (by (with_reducible repeat (first | apply Kd.R_alloc | apply Kd.R_drewN | apply Kd.R_drew)); exact HO123.out) hb); have n1_ := Aside0.mk (Kd.R_below (by (with_reducible repeat (first | apply Kd.R_alloc | apply Kd.R_drewN | apply Kd.R_drew)); exact HO127.out) hb); have n2_ := Aside0.mk (Kd.R_below (by (with_reducible repeat (first | apply Kd.R_alloc | apply Kd.R_drewN | apply Kd.R_drew)); exact HO131.out) hb); have n3_ := Aside0.mk (Kd.R_below (by (with_reducible repeat (first | apply Kd.R_alloc | apply Kd.R_drewN | apply Kd.R_drew)); exact HO135.out) hb); have n4_ := Aside0.mk (below_step (by repeat (first | (with_reducible first | exact HB.out | apply below_alloc | apply pw_below_drewN | apply below_drew1) | exact HB.out)) hb); have n5_ := Aside0.mk (hbox); have n6_ := Aside0.mk ((by rw [hg]; exact (below_size (by repeat (first | (with_reducible first | exact HB.out | apply below_alloc | apply pw_below_drewN | apply below_drew1) | exact HB.out))) : w.heap.size ≤ gb139)); have n7_ := Aside0.mk ((by rw [hg]; exact (below_size (by repeat (first | (with_reducible first | exact HB.out | apply below_alloc | apply pw_below_drewN | apply below_drew1) | exact HB.out))) : w.heap.size ≤ gb139)); clear HO123; clear HO127; clear HO131; clear HO135; clear HB; have HO123 := n0_; have HO127 := n1_; have HO131 := n2_; have HO135 := n3_; have HB := n4_; have BK139 := n5_; have GW139 := n6_; have GE139 := n7_; clear n0_ n1_ n2_ n3_ n4_ n5_ n6_ n7_; clear hb hbox hg; have hcz20_0 : w19.cell? ⟨gb139, 0, none⟩ = some (.int .i64 0) := (blk_cell BK139.out 0).trans rfl; have hcz20_1 : w19.cell? ⟨gb139, 1, none⟩ = some (.slice none 0 0) := (blk_cell BK139.out 1).trans rfl; have hcz20_2 : w19.cell? ⟨gb139, 2, none⟩ = some (.int .u64 0) := (blk_cell BK139.out 2).trans rfl; have hcz20_3 : w19.cell? ⟨gb139, 3, none⟩ = some (.slice none 0 0) := (blk_cell BK139.out 3).trans rfl; have hcz20_4 : w19.cell? ⟨gb139, 4, none⟩ = some (.int .u64 0) := (blk_cell BK139.out 4).trans rfl; have hcz20_5 : w19.cell? ⟨gb139, 5, none⟩ = some (.int .u64 0) := (blk_cell BK139.out 5).trans rfl; have hfz20_0 := blk_frozen BK139.out 0; have hfz20_1 := blk_frozen BK139.out 1; have hfz20_2 := blk_frozen BK139.out 2; have hfz20_3 := blk_frozen BK139.out 3; have hfz20_4 := blk_frozen BK139.out 4; have hfz20_5 := blk_frozen BK139.out 5; obtain ⟨Ao21, co21, eo21⟩ := Kd.R_slice HO131.out; subst eo21; obtain ⟨Ao22, co22, eo22⟩ := Kd.R_slice HO135.out; subst eo22))
            go_loopg [12, 50] kj3 (fun kq v12 v50 w' => ∃ (x12_2 : Int) (x50_2 : Int), v12 = .int .u64 x12_2 ∧ v50 = .int .i64 x50_2 ∧ Aside0 (laws_FnFieldsBack.l0 kq l1 l2 (wrap64 (Int.tmod a0 6)) t125 t138 x12_2 l2 (l2.length : Int) x50_2 t128 t129 t132 t133 t136 t137 = some r) ∧ Aside0 (kq ≤ kj3) ∧ Aside0 (Kd.R (Kd.int .u8) 5 w' w.heap.size (fun _ => True) (.slice Ao21 t129.length co21) t129) ∧ Aside0 (Kd.R (Kd.int .u64) 24 w' w.heap.size (fun _ => True) (.slice Ao22 t133.length co22) t133) ∧ Aside0 (w'.heap[gb139]? = some (.cells #[.int .i64 t128, (.slice Ao21 t129.length co21), .int .u64 t132, (.slice Ao22 t133.length co22), .int .u64 t136, .int .u64 t137] 56 (0, 0))) ∧ Aside0 (Below w.heap.size w w'))
            case atStart => exact ⟨(IntKind.u64.wrap ((l1.length : Int))), (0), (by first | rfl | (simp; done) | (simp [*]; done)), (by first | rfl | (simp; done) | (simp [*]; done)), H', ⟨Nat.le_refl _⟩, ⟨by (with_reducible repeat (first | apply Kd.R_alloc | apply Kd.R_drewN | apply Kd.R_drew)); exact Kd.R_mono (Kd.R_far (p := ⟨gb139, 5, none⟩) (Kd.R_far (p := ⟨gb139, 4, none⟩) (Kd.R_far (p := ⟨gb139, 3, none⟩) (Kd.R_far (p := ⟨gb139, 2, none⟩) (Kd.R_far (p := ⟨gb139, 1, none⟩) (Kd.R_far (p := ⟨gb139, 0, none⟩) (Kd.R_types HO131.out BK139.out (by decide)) (fun _ hk => hk.2) (.int .i64 t128)) (fun _ hk => hk.2) (.slice Ao21 t129.length co21)) (fun _ hk => hk.2) (.int .u64 t132)) (fun _ hk => hk.2) (.slice Ao22 t133.length co22)) (fun _ hk => hk.2) (.int .u64 t136)) (fun _ hk => hk.2) (.int .u64 t137)) (fun _ hk => trivial)⟩, ⟨by (with_reducible repeat (first | apply Kd.R_alloc | apply Kd.R_drewN | apply Kd.R_drew)); exact Kd.R_mono (Kd.R_far (p := ⟨gb139, 5, none⟩) (Kd.R_far (p := ⟨gb139, 4, none⟩) (Kd.R_far (p := ⟨gb139, 3, none⟩) (Kd.R_far (p := ⟨gb139, 2, none⟩) (Kd.R_far (p := ⟨gb139, 1, none⟩) (Kd.R_far (p := ⟨gb139, 0, none⟩) (Kd.R_types HO135.out BK139.out (by decide)) (fun _ hk => hk.2) (.int .i64 t128)) (fun _ hk => hk.2) (.slice Ao21 t129.length co21)) (fun _ hk => hk.2) (.int .u64 t132)) (fun _ hk => hk.2) (.slice Ao22 t133.length co22)) (fun _ hk => hk.2) (.int .u64 t136)) (fun _ hk => hk.2) (.int .u64 t137)) (fun _ hk => trivial)⟩, ⟨by (with_reducible repeat (first | refine blk_drewN ?_ _ | refine blk_drew ?_ | refine blk_alloc ?_ _)); refine blk_put (cs := #[.int .i64 t128, .slice Ao21 t129.length co21, .int .u64 t132, .slice Ao22 t133.length co22, .int .u64 t136, .int .u64 0]) ?_ 5 _ rfl; (with_reducible repeat (first | refine blk_drewN ?_ _ | refine blk_drew ?_ | refine blk_alloc ?_ _)); refine blk_put (cs := #[.int .i64 t128, .slice Ao21 t129.length co21, .int .u64 t132, .slice Ao22 t133.length co22, .int .u64 0, .int .u64 0]) ?_ 4 _ rfl; (with_reducible repeat (first | refine blk_drewN ?_ _ | refine blk_drew ?_ | refine blk_alloc ?_ _)); refine blk_put (cs := #[.int .i64 t128, .slice Ao21 t129.length co21, .int .u64 t132, .slice none 0 0, .int .u64 0, .int .u64 0]) ?_ 3 _ rfl; (with_reducible repeat (first | refine blk_drewN ?_ _ | refine blk_drew ?_ | refine blk_alloc ?_ _)); refine blk_put (cs := #[.int .i64 t128, .slice Ao21 t129.length co21, .int .u64 0, .slice none 0 0, .int .u64 0, .int .u64 0]) ?_ 2 _ rfl; (with_reducible repeat (first | refine blk_drewN ?_ _ | refine blk_drew ?_ | refine blk_alloc ?_ _)); refine blk_put (cs := #[.int .i64 t128, .slice none 0 0, .int .u64 0, .slice none 0 0, .int .u64 0, .int .u64 0]) ?_ 1 _ rfl; (with_reducible repeat (first | refine blk_drewN ?_ _ | refine blk_drew ?_ | refine blk_alloc ?_ _)); refine blk_put (cs := #[.int .i64 0, .slice none 0 0, .int .u64 0, .slice none 0 0, .int .u64 0, .int .u64 0]) ?_ 0 _ rfl; (with_reducible repeat (first | refine blk_drewN ?_ _ | refine blk_drew ?_ | refine blk_alloc ?_ _)); exact BK139.out⟩, ⟨by repeat (first | (with_reducible first | exact HB.out | apply below_alloc | apply pw_below_drewN | apply below_drew1 | refine below_set ?_ GE139.out) | exact HB.out)⟩⟩
            case round =>
              clear H'
              try clear c1
              try clear c2
              try clear p2
              try clear c3
              try clear c5
              try clear c5b0
              try clear c5b1
              try clear c6
              try clear p6
              try clear c8
              try clear c9
              try clear hcz20_0
              try clear hcz20_1
              try clear hcz20_2
              try clear hcz20_3
              try clear hcz20_4
              try clear hcz20_5
              try clear hfz20_0
              try clear hfz20_1
              try clear hfz20_2
              try clear hfz20_3
              try clear hfz20_4
              try clear hfz20_5
              try clear p2
              obtain ⟨x12_2, x50_2, rfl, rfl, HA, HK2, HO_140001, HO_140003, BK139, HB⟩ := hrel
              cases gk with
              | zero => exact absurd HA.out (by simp [laws_FnFieldsBack.l0])
              | succ k2 =>
                have H := HA.out
                clear HA
                simp only [laws_FnFieldsBack.l0] at H
                by_cases c23 : x50_2 < (l2.length : Int)
                · rw [if_pos c23] at H
                  have c23b0 : decide (x50_2 < (l2.length : Int)) = true := decide_eq_true c23
                  clear c23
                  by_cases c24 : 0 ≤ x50_2
                  · rw [if_pos c24] at H
                    have c24b0 : decide (0 ≤ x50_2) = true := decide_eq_true c24
                    clear c24
                    by_cases c25 : x50_2 < (l2.length : Int)
                    · rw [if_pos c25] at H
                      have c25b0 : decide (x50_2 < (l2.length : Int)) = true := decide_eq_true c25
                      clear c25
                      have H' := Aside0.mk H
                      clear H
                      have p140 : 0 ≤ (x50_2 : Int) := of_decide_eq_true (by first | (with_reducible assumption) | assumption)
                      have q140 : x50_2 < (l2.length : Int) := of_decide_eq_true (by first | (with_reducible assumption) | assumption)
                      obtain ⟨ad140, e140, hx140_0⟩ := Kd.at_int HR2.out x50_2 p140 q140
                      cases e140
                      replace hx140_0 := (HB.out.cell (World.block_lt_of_cell? w _ hx140_0)).trans hx140_0
                      replace p140 := eq_true p140
                      replace q140 := eq_true q140
                      go_wp2
                      go_roundg k2
                      case measure => have := HJ3.out; have := HK2.out; omega
                      case rel => exact ⟨(IntKind.u64.wrap (x12_2 + (rd l2 x50_2))), (wrap64 (x50_2 + 1)), (by first | rfl | (simp; done) | (simp [*]; done)), (by first | rfl | (simp; done) | (simp [*]; done)), H', ⟨by have := HJ3.out; have := HK2.out; omega⟩, ⟨by (with_reducible repeat (first | apply Kd.R_alloc | apply Kd.R_drewN | apply Kd.R_drew)); exact HO_140001.out⟩, ⟨by (with_reducible repeat (first | apply Kd.R_alloc | apply Kd.R_drewN | apply Kd.R_drew)); exact HO_140003.out⟩, ⟨by (with_reducible repeat (first | refine blk_drewN ?_ _ | refine blk_drew ?_ | refine blk_alloc ?_ _)); exact BK139.out⟩, ⟨by repeat (first | (with_reducible first | exact HB.out | apply below_alloc | apply pw_below_drewN | apply below_drew1 | refine below_set ?_ GE139.out) | exact HB.out)⟩⟩
                    · rw [if_neg c25] at H
                      exact absurd H (by simp)
                  · rw [if_neg c24] at H
                    exact absurd H (by simp)
                · rw [if_neg c23] at H
                  have c23b0 : decide (x50_2 < (l2.length : Int)) = false := decide_eq_false c23
                  clear c23
                  by_cases c26 : t125 = true
                  · subst c26
                    have H1 : (if t138 = true then ((spec_Told.f k2 (wrap64 (Int.tmod a0 6)) l1 x12_2 l2 0 0).bind fun bt141 => ((spec_SameFS.f k2 t128 t129 t132 t133 t136 t137 bt141.1 bt141.2.1 bt141.2.2.1 bt141.2.2.2.1 bt141.2.2.2.2.1 bt141.2.2.2.2.2).bind fun t151 => (if t151 = true then ((laws_folderAwake.f).bind fun t152 => (some t152)) else (some false)))) else (some false)) = some r := by rw [if_pos rfl] at H; exact H
                    clear H
                    have H := H1
                    clear H1
                    by_cases c27 : t138 = true
                    · subst c27
                      have H1 : ((spec_Told.f k2 (wrap64 (Int.tmod a0 6)) l1 x12_2 l2 0 0).bind fun bt141 => ((spec_SameFS.f k2 t128 t129 t132 t133 t136 t137 bt141.1 bt141.2.1 bt141.2.2.1 bt141.2.2.2.1 bt141.2.2.2.2.1 bt141.2.2.2.2.2).bind fun t151 => (if t151 = true then ((laws_folderAwake.f).bind fun t152 => (some t152)) else (some false)))) = some r := by rw [if_pos rfl] at H; exact H
                      clear H
                      have H := H1
                      clear H1
                      replace H := Option.bind_eq_some_iff.mp H
                      obtain ⟨⟨t141, t142, t145, t146, t149, t150⟩, A280, H⟩ := H
                      replace H : ((spec_SameFS.f k2 t128 t129 t132 t133 t136 t137 t141 t142 t145 t146 t149 t150).bind fun t151 => (if t151 = true then ((laws_folderAwake.f).bind fun t152 => (some t152)) else (some false))) = some r := H
                      have A28 := Aside0.mk A280
                      clear A280
                      replace H := Option.bind_eq_some_iff.mp H
                      obtain ⟨t151, A290, H⟩ := H
                      replace H : (if t151 = true then ((laws_folderAwake.f).bind fun t152 => (some t152)) else (some false)) = some r := H
                      have A29 := Aside0.mk A290
                      clear A290
                      by_cases c30 : t151 = true
                      · subst c30
                        have H1 : ((laws_folderAwake.f).bind fun t152 => (some t152)) = some r := by rw [if_pos rfl] at H; exact H
                        clear H
                        have H := H1
                        clear H1
                        replace H := Option.bind_eq_some_iff.mp H
                        obtain ⟨t152, A310, H⟩ := H
                        replace H : (some t152) = some r := H
                        have A31 := Aside0.mk A310
                        clear A310
                        obtain rfl := Option.some.inj H
                        try go_wp2
                        have n0_ := Aside0.mk (Kd.R_drew HO_140001.out)
                        have n1_ := Aside0.mk (Kd.R_drew HO_140003.out)
                        have n2_ := Aside0.mk (blk_drew BK139.out)
                        have n3_ := Aside0.mk (below_drew1 HB.out)
                        clear HO_140001
                        clear HO_140003
                        clear BK139
                        clear HB
                        have HO_140001 := n0_
                        have HO_140003 := n1_
                        have BK139 := n2_
                        have HB := n3_
                        clear n0_ n1_ n2_ n3_
                        refine start_ (n := 18) (S := fun w' => w'.cell? ⟨gb139, 0, none⟩ = some (.int .i64 t128) ∧ w'.cell? ⟨gb139, 1, none⟩ = some (.slice Ao21 t129.length co21) ∧ w'.cell? ⟨gb139, 2, none⟩ = some (.int .u64 t132) ∧ w'.cell? ⟨gb139, 3, none⟩ = some (.slice Ao22 t133.length co22) ∧ w'.cell? ⟨gb139, 4, none⟩ = some (.int .u64 t136) ∧ w'.cell? ⟨gb139, 5, none⟩ = some (.int .u64 t137)) (ds := []) #[false, false, false, false, false, false, false, false, false, false, false, false, false, false, false, false, false, false] (by kernel_rfl) rfl rfl ⟨(blk_cell BK139.out 0).trans rfl, (blk_cell BK139.out 1).trans rfl, (blk_cell BK139.out 2).trans rfl, (blk_cell BK139.out 3).trans rfl, (blk_cell BK139.out 4).trans rfl, (blk_cell BK139.out 5).trans rfl⟩ (fun hHeld => ?_); refine with_tabW laws_FnFieldsBack.tab14 laws_FnFieldsBack.bits14 (fun HT_ HW_ => ?_)
                        generalize wr.drew = w32 at HO_140001 HO_140003 BK139 HB hHeld ⊢
                        refine pure_ (i := 0) (N := some 58) (v := ?_) (a' := ?_) #[true, false, false, false, false, false, false, false, false, false, false, false, false, false, false, false, false, false] rfl rfl (any_of HT_.out (by kernel_rfl)) (fun _ _ _ h => h) (Or.inl ⟨by rfl, ?_⟩) ?_ ?_
                        rotate_left
                        · intro w'
                          go_simp
                          with_reducible rfl
                        rotate_left
                        · simp only [Act.put, List.setIfInBounds_toArray, List.set_cons_zero, List.set_cons_succ, i64_w, i32_w]
                          rfl
                        refine pure_ (i := 1) (N := some 59) (v := ?_) (a' := ?_) #[true, true, false, false, false, false, false, false, false, false, false, false, false, false, false, false, false, false] rfl rfl (any_of HT_.out (by kernel_rfl)) (fun _ _ _ h => h) (Or.inl ⟨by rfl, ?_⟩) ?_ ?_
                        rotate_left
                        · intro w'
                          go_simp
                          with_reducible rfl
                        rotate_left
                        · simp only [Act.put, List.setIfInBounds_toArray, List.set_cons_zero, List.set_cons_succ, i64_w, i32_w]
                          rfl
                        refine pure_ (i := 2) (N := some 60) (v := ?_) (a' := ?_) #[true, true, true, false, false, false, false, false, false, false, false, false, false, false, false, false, false, false] rfl rfl (any_of HT_.out (by kernel_rfl)) (fun _ _ _ h => h) (Or.inl ⟨by rfl, ?_⟩) ?_ ?_
                        rotate_left
                        · intro w'
                          go_simp
                          with_reducible rfl
                        rotate_left
                        · simp only [Act.put, List.setIfInBounds_toArray, List.set_cons_zero, List.set_cons_succ, i64_w, i32_w]
                          rfl
                        refine pure_ (i := 3) (N := some 61) (v := ?_) (a' := ?_) #[true, true, true, true, false, false, false, false, false, false, false, false, false, false, false, false, false, false] rfl rfl (any_of HT_.out (by kernel_rfl)) (fun _ _ _ h => h) (Or.inl ⟨by rfl, ?_⟩) ?_ ?_
                        rotate_left
                        · intro w'
                          go_simp
                          with_reducible rfl
                        rotate_left
                        · simp only [Act.put, List.setIfInBounds_toArray, List.set_cons_zero, List.set_cons_succ, i64_w, i32_w]
                          rfl
                        refine pure_ (i := 4) (N := some 62) (v := ?_) (a' := ?_) #[true, true, true, true, true, false, false, false, false, false, false, false, false, false, false, false, false, false] rfl rfl (any_of HT_.out (by kernel_rfl)) (fun _ _ _ h => h) (Or.inl ⟨by rfl, ?_⟩) ?_ ?_
                        rotate_left
                        · intro w'
                          go_simp
                          with_reducible rfl
                        rotate_left
                        · simp only [Act.put, List.setIfInBounds_toArray, List.set_cons_zero, List.set_cons_succ, i64_w, i32_w]
                          rfl
                        refine pure_ (i := 6) (N := some 64) (v := ?_) (a' := ?_) #[true, true, true, true, true, false, true, false, false, false, false, false, false, false, false, false, false, false] rfl rfl (any_of HT_.out (by kernel_rfl)) (fun _ _ _ h => h) (Or.inl ⟨by rfl, ?_⟩) ?_ ?_
                        rotate_left
                        · intro w'
                          go_simp
                          with_reducible rfl
                        rotate_left
                        · simp only [Act.put, List.setIfInBounds_toArray, List.set_cons_zero, List.set_cons_succ, i64_w, i32_w]
                          rfl
                        refine pure_ (i := 7) (N := some 65) (v := ?_) (a' := ?_) #[true, true, true, true, true, false, true, true, false, false, false, false, false, false, false, false, false, false] rfl rfl (any_of HT_.out (by kernel_rfl)) (fun _ _ _ h => h) (Or.inl ⟨by rfl, ?_⟩) ?_ ?_
                        rotate_left
                        · intro w'
                          go_simp
                          with_reducible rfl
                        rotate_left
                        · simp only [Act.put, List.setIfInBounds_toArray, List.set_cons_zero, List.set_cons_succ, i64_w, i32_w]
                          rfl
                        refine pure_ (i := 8) (N := some 66) (v := ?_) (a' := ?_) #[true, true, true, true, true, false, true, true, true, false, false, false, false, false, false, false, false, false] rfl rfl (any_of HT_.out (by kernel_rfl)) (fun _ _ _ h => h) (Or.inl ⟨by rfl, ?_⟩) ?_ ?_
                        rotate_left
                        · intro w'
                          go_simp
                          with_reducible rfl
                        rotate_left
                        · simp only [Act.put, List.setIfInBounds_toArray, List.set_cons_zero, List.set_cons_succ, i64_w, i32_w]
                          rfl
                        refine pure_ (i := 9) (N := some 67) (v := ?_) (a' := ?_) #[true, true, true, true, true, false, true, true, true, true, false, false, false, false, false, false, false, false] rfl rfl (any_of HT_.out (by kernel_rfl)) (fun _ _ _ h => h) (Or.inl ⟨by rfl, ?_⟩) ?_ ?_
                        rotate_left
                        · intro w'
                          go_simp
                          with_reducible rfl
                        rotate_left
                        · simp only [Act.put, List.setIfInBounds_toArray, List.set_cons_zero, List.set_cons_succ, i64_w, i32_w]
                          rfl
                        refine pure_ (i := 10) (N := some 68) (v := ?_) (a' := ?_) #[true, true, true, true, true, false, true, true, true, true, true, false, false, false, false, false, false, false] rfl rfl (any_of HT_.out (by kernel_rfl)) (fun _ _ _ h => h) (Or.inl ⟨by rfl, ?_⟩) ?_ ?_
                        rotate_left
                        · intro w'
                          go_simp
                          with_reducible rfl
                        rotate_left
                        · simp only [Act.put, List.setIfInBounds_toArray, List.set_cons_zero, List.set_cons_succ, i64_w, i32_w]
                          rfl
                        refine take_ (i := 5) (N := some 63) (v := ?_) (a' := ?_) #[true, true, true, true, true, true, true, true, true, true, true, false, false, false, false, false, false, false] rfl rfl (take_ofW HT_.out HW_.out (by kernel_rfl)) (fun _ _ _ h => h) (Or.inl ⟨by rfl, ?_⟩) hHeld ?_ ?_
                        rotate_left
                        · rintro w' ⟨s0, s1, s2, s3, s4, s5⟩
                          go_simp
                          with_reducible rfl
                        rotate_left
                        · simp only [Act.put, List.setIfInBounds_toArray, List.set_cons_zero, List.set_cons_succ, i64_w, i32_w]
                          rfl
                        refine one_ (i := 11) (N := some 69) #[true, true, true, true, true, true, true, true, true, true, true, true, false, false, false, false, false, false] rfl rfl (one_of HT_.out (by kernel_rfl)) (by decide) (fun K hK => ?_)
                        refine goes_ Tryd.func34 (by kernel_rfl) rfl #[.agg #[.int .i64 (wrap64 (Int.tmod a0 6)), .slice A1 l1.length c1, .int .u64 x12_2, .slice A2 l2.length c2, .int .u64 0, .int .u64 0]] (by rfl) rfl rfl (by (try simp only [List.map_toArray, List.map_cons, List.map_nil]); first | done | rfl | (simp only [List.length_drop, List.length_take]; rfl)) ?_
                        with_reducible refine (spec_Told.calls k2 (wrap64 (Int.tmod a0 6)) (fun k_ => k_ < w.heap.size) _ _ l1 x12_2 (fun k_ => k_ < w.heap.size) _ _ l2 0 0 t141 t142 t145 t146 t149 t150 _ ?side1 ?side2 A28.out).mono ?_
                        (case side1 => exact Kd.V_mk HC1.out (Kd.F_below (Kd.C_F (Kd.heap_int .u8) HR1.out) (by repeat (first | (with_reducible first | exact HB.out | apply below_alloc | apply pw_below_drewN | apply below_drew1 | refine below_set ?_ GE139.out) | exact HB.out))))
                        (case side2 => exact Kd.V_mk HC2.out (Kd.F_below (Kd.C_F (Kd.heap_int .u64) HR2.out) (by repeat (first | (with_reducible first | exact HB.out | apply below_alloc | apply pw_below_drewN | apply below_drew1 | refine below_set ?_ GE139.out) | exact HB.out))))
                        rintro e w33 ⟨v143, v147, rfl, ho0, ho1, hb⟩
                        refine ⟨_, rfl, ?_⟩
                        have n0_ := Aside0.mk (Kd.R_below (by (with_reducible repeat (first | apply Kd.R_alloc | apply Kd.R_drewN | apply Kd.R_drew)); exact HO_140001.out) hb)
                        have n1_ := Aside0.mk (Kd.R_below (by (with_reducible repeat (first | apply Kd.R_alloc | apply Kd.R_drewN | apply Kd.R_drew)); exact HO_140003.out) hb)
                        have n2_ := Aside0.mk (Kd.V_lower (Kd.V_mono (ok' := fun k_ => some k_ ≠ (.slice Ao21 t129.length co21 : Value).ownBlock ∧ some k_ ≠ (.slice Ao22 t133.length co22 : Value).ownBlock ∧ k_ ≠ gb139) ho0 (fun k_ hk_ => ⟨Or.elim hk_ (fun hs_ => Or.elim hs_ (fun hs_ => fun e_ => Nat.not_le.2 hs_ (Kd.R_base HO_140001.out k_ e_.symm)) (fun hs_ => fun e_ => Nat.not_le.2 hs_ (Kd.R_base HO_140001.out k_ e_.symm))) (fun hn_ => (Kd.fresh' (Kd.R_lt (by (with_reducible repeat (first | apply Kd.R_alloc | apply Kd.R_drewN | apply Kd.R_drew)); exact HO_140001.out)) k_ hn_)), Or.elim hk_ (fun hs_ => Or.elim hs_ (fun hs_ => fun e_ => Nat.not_le.2 hs_ (Kd.R_base HO_140003.out k_ e_.symm)) (fun hs_ => fun e_ => Nat.not_le.2 hs_ (Kd.R_base HO_140003.out k_ e_.symm))) (fun hn_ => (Kd.fresh' (Kd.R_lt (by (with_reducible repeat (first | apply Kd.R_alloc | apply Kd.R_drewN | apply Kd.R_drew)); exact HO_140003.out)) k_ hn_)), Or.elim hk_ (fun hs_ => Or.elim hs_ (fun hs_ => fun e_ => Nat.not_le.2 hs_ (by rw [e_]; exact GW139.out)) (fun hs_ => fun e_ => Nat.not_le.2 hs_ (by rw [e_]; exact GW139.out))) (fun hn_ => (Kd.freshB (g := gb139) (o := .cells #[.int .i64 t128, .slice Ao21 t129.length co21, .int .u64 t132, .slice Ao22 t133.length co22, .int .u64 t136, .int .u64 t137] 56 (0, 0)) (by (with_reducible repeat (first | refine blk_drewN ?_ _ | refine blk_drew ?_ | refine blk_alloc ?_ _)); exact BK139.out) k_ hn_))⟩)) (below_size (by repeat (first | (with_reducible first | exact HB.out | apply below_alloc | apply pw_below_drewN | apply below_drew1 | refine below_set ?_ GE139.out) | exact HB.out))))
                        have n3_ := Aside0.mk (Kd.V_lower (Kd.V_mono (ok' := fun k_ => some k_ ≠ (.slice Ao21 t129.length co21 : Value).ownBlock ∧ some k_ ≠ (.slice Ao22 t133.length co22 : Value).ownBlock ∧ k_ ≠ gb139) ho1 (fun k_ hk_ => ⟨Or.elim hk_ (fun hs_ => Or.elim hs_ (fun hs_ => fun e_ => Nat.not_le.2 hs_ (Kd.R_base HO_140001.out k_ e_.symm)) (fun hs_ => fun e_ => Nat.not_le.2 hs_ (Kd.R_base HO_140001.out k_ e_.symm))) (fun hn_ => (Kd.fresh' (Kd.R_lt (by (with_reducible repeat (first | apply Kd.R_alloc | apply Kd.R_drewN | apply Kd.R_drew)); exact HO_140001.out)) k_ hn_)), Or.elim hk_ (fun hs_ => Or.elim hs_ (fun hs_ => fun e_ => Nat.not_le.2 hs_ (Kd.R_base HO_140003.out k_ e_.symm)) (fun hs_ => fun e_ => Nat.not_le.2 hs_ (Kd.R_base HO_140003.out k_ e_.symm))) (fun hn_ => (Kd.fresh' (Kd.R_lt (by (with_reducible repeat (first | apply Kd.R_alloc | apply Kd.R_drewN | apply Kd.R_drew)); exact HO_140003.out)) k_ hn_)), Or.elim hk_ (fun hs_ => Or.elim hs_ (fun hs_ => fun e_ => Nat.not_le.2 hs_ (by rw [e_]; exact GW139.out)) (fun hs_ => fun e_ => Nat.not_le.2 hs_ (by rw [e_]; exact GW139.out))) (fun hn_ => (Kd.freshB (g := gb139) (o := .cells #[.int .i64 t128, .slice Ao21 t129.length co21, .int .u64 t132, .slice Ao22 t133.length co22, .int .u64 t136, .int .u64 t137] 56 (0, 0)) (by (with_reducible repeat (first | refine blk_drewN ?_ _ | refine blk_drew ?_ | refine blk_alloc ?_ _)); exact BK139.out) k_ hn_))⟩)) (below_size (by repeat (first | (with_reducible first | exact HB.out | apply below_alloc | apply pw_below_drewN | apply below_drew1 | refine below_set ?_ GE139.out) | exact HB.out))))
                        have n4_ := Aside0.mk (blk_below (g := gb139) (o := .cells #[.int .i64 t128, .slice Ao21 t129.length co21, .int .u64 t132, .slice Ao22 t133.length co22, .int .u64 t136, .int .u64 t137] 56 (0, 0)) (by (with_reducible repeat (first | refine blk_drewN ?_ _ | refine blk_drew ?_ | refine blk_alloc ?_ _)); exact BK139.out) hb)
                        have n5_ := Aside0.mk (below_step (by repeat (first | (with_reducible first | exact HB.out | apply below_alloc | apply pw_below_drewN | apply below_drew1 | refine below_set ?_ GE139.out) | exact HB.out)) hb)
                        clear HO_140001
                        clear HO_140003
                        clear BK139
                        clear HB
                        have HO_140001 := n0_
                        have HO_140003 := n1_
                        have HO144 := n2_
                        have HO148 := n3_
                        have BK139 := n4_
                        have HB := n5_
                        clear n0_ n1_ n2_ n3_ n4_ n5_
                        (try clear hb)
                        (try clear hb2)
                        (try clear hk)
                        (try clear hi)
                        (try clear ho0)
                        (try clear ho1)
                        obtain ⟨Ao34, co34, eo34⟩ := Kd.V_slice HO144.out
                        (first | subst eo34 | (injection eo34 with f1_ f2_ f3_; have f4_ := f1_.symm; have f5_ := f3_.symm; clear f1_ f2_ f3_; subst f4_; subst f5_))
                        obtain ⟨Ao35, co35, eo35⟩ := Kd.V_slice HO148.out
                        (first | subst eo35 | (injection eo35 with f1_ f2_ f3_; have f4_ := f1_.symm; have f5_ := f3_.symm; clear f1_ f2_ f3_; subst f4_; subst f5_))
                        refine hK.out _ _ ⟨(blk_cell BK139.out 0).trans rfl, (blk_cell BK139.out 1).trans rfl, (blk_cell BK139.out 2).trans rfl, (blk_cell BK139.out 3).trans rfl, (blk_cell BK139.out 4).trans rfl, (blk_cell BK139.out 5).trans rfl⟩ (fun hHeld => ?_)
                        clear hK K
                        refine norm_ (a' := ?_) ?_ ?_
                        rotate_left
                        · show Act.put _ (some 69) _ = _
                          simp only [Act.put, List.setIfInBounds_toArray, List.set_cons_zero, List.set_cons_succ, i64_w, i32_w]
                          rfl
                        refine one_ (i := 12) (N := some 70) #[true, true, true, true, true, true, true, true, true, true, true, true, true, false, false, false, false, false] rfl rfl (one_of HT_.out (by kernel_rfl)) (by decide) (fun K hK => ?_)
                        refine goes_ Tryd.func33 (by kernel_rfl) rfl #[.agg #[.int .i64 t128, .slice Ao21 t129.length co21, .int .u64 t132, .slice Ao22 t133.length co22, .int .u64 t136, .int .u64 t137], .agg #[.int .i64 t141, .slice Ao34 t142.length co34, .int .u64 t145, .slice Ao35 t146.length co35, .int .u64 t149, .int .u64 t150]] (by rfl) rfl rfl (by (try simp only [List.map_toArray, List.map_cons, List.map_nil]); first | done | rfl | (simp only [List.length_drop, List.length_take]; rfl)) ?_
                        with_reducible refine (spec_SameFS.calls k2 t128 _ _ t129 t132 _ _ t133 t136 t137 t141 _ _ t142 t145 _ _ t146 t149 t150 true _ ?side1 ?side2 ?side3 ?side4 ?side5 ?side6 ?side7 ?side8 A29.out).mono ?_
                        (case side1 => repeat (first | exact (Kd.R_reads' HO_140001.out).2.2 | (with_reducible refine Kd.C_alloc ?_ _) | (with_reducible refine Kd.C_drewN ?_ _) | (with_reducible refine Kd.C_drew ?_)))
                        (case side2 => exact (Kd.R_reads' HO_140001.out).2.1)
                        (case side3 => repeat (first | exact (Kd.R_reads' HO_140003.out).2.2 | (with_reducible refine Kd.C_alloc ?_ _) | (with_reducible refine Kd.C_drewN ?_ _) | (with_reducible refine Kd.C_drew ?_)))
                        (case side4 => exact (Kd.R_reads' HO_140003.out).2.1)
                        (case side5 => repeat (first | exact (Kd.V_reads' HO144.out).2.2 | (with_reducible refine Kd.C_alloc ?_ _) | (with_reducible refine Kd.C_drewN ?_ _) | (with_reducible refine Kd.C_drew ?_)))
                        (case side6 => exact (Kd.V_reads' HO144.out).2.1)
                        (case side7 => repeat (first | exact (Kd.V_reads' HO148.out).2.2 | (with_reducible refine Kd.C_alloc ?_ _) | (with_reducible refine Kd.C_drewN ?_ _) | (with_reducible refine Kd.C_drew ?_)))
                        (case side8 => exact (Kd.V_reads' HO148.out).2.1)
                        rintro e w36 ⟨rfl, hb⟩
                        refine ⟨_, rfl, ?_⟩
                        have n0_ := Aside0.mk (Kd.R_below (by (with_reducible repeat (first | apply Kd.R_alloc | apply Kd.R_drewN | apply Kd.R_drew)); exact HO_140001.out) hb)
                        have n1_ := Aside0.mk (Kd.R_below (by (with_reducible repeat (first | apply Kd.R_alloc | apply Kd.R_drewN | apply Kd.R_drew)); exact HO_140003.out) hb)
                        have n2_ := Aside0.mk (Kd.V_below (by (with_reducible repeat (first | apply Kd.V_alloc | apply Kd.V_drewN | apply Kd.V_drew)); exact HO144.out) hb)
                        have n3_ := Aside0.mk (Kd.V_below (by (with_reducible repeat (first | apply Kd.V_alloc | apply Kd.V_drewN | apply Kd.V_drew)); exact HO148.out) hb)
                        have n4_ := Aside0.mk (blk_below (g := gb139) (o := .cells #[.int .i64 t128, .slice Ao21 t129.length co21, .int .u64 t132, .slice Ao22 t133.length co22, .int .u64 t136, .int .u64 t137] 56 (0, 0)) (by (with_reducible repeat (first | refine blk_drewN ?_ _ | refine blk_drew ?_ | refine blk_alloc ?_ _)); exact BK139.out) hb)
                        have n5_ := Aside0.mk (below_step (by repeat (first | (with_reducible first | exact HB.out | apply below_alloc | apply pw_below_drewN | apply below_drew1 | refine below_set ?_ GE139.out) | exact HB.out)) hb)
                        clear HO_140001
                        clear HO_140003
                        clear HO144
                        clear HO148
                        clear BK139
                        clear HB
                        have HO_140001 := n0_
                        have HO_140003 := n1_
                        have HO144 := n2_
                        have HO148 := n3_
                        have BK139 := n4_
                        have HB := n5_
                        clear n0_ n1_ n2_ n3_ n4_ n5_
                        (try clear hb)
                        (try clear hb2)
                        (try clear hk)
                        (try clear hi)
                        refine hK.out _ _ ⟨(blk_cell BK139.out 0).trans rfl, (blk_cell BK139.out 1).trans rfl, (blk_cell BK139.out 2).trans rfl, (blk_cell BK139.out 3).trans rfl, (blk_cell BK139.out 4).trans rfl, (blk_cell BK139.out 5).trans rfl⟩ (fun hHeld => ?_)
                        clear hK K
                        refine norm_ (a' := ?_) ?_ ?_
                        rotate_left
                        · show Act.put _ (some 70) _ = _
                          simp only [Act.put, List.setIfInBounds_toArray, List.set_cons_zero, List.set_cons_succ, i64_w, i32_w]
                          rfl
                        refine pure_ (i := 13) (N := some 71) (v := ?_) (a' := ?_) #[true, true, true, true, true, true, true, true, true, true, true, true, true, true, false, false, false, false] rfl rfl (any_of HT_.out (by kernel_rfl)) (fun _ _ _ h => h) (Or.inl ⟨by rfl, ?_⟩) ?_ ?_
                        rotate_left
                        · intro w'
                          go_simp
                          with_reducible rfl
                        rotate_left
                        · simp only [Act.put, List.setIfInBounds_toArray, List.set_cons_zero, List.set_cons_succ, i64_w, i32_w]
                          rfl
                        refine pure_ (i := 14) (N := some 72) (v := ?_) (a' := ?_) #[true, true, true, true, true, true, true, true, true, true, true, true, true, true, true, false, false, false] rfl rfl (any_of HT_.out (by kernel_rfl)) (fun _ _ _ h => h) (Or.inl ⟨by rfl, ?_⟩) ?_ ?_
                        rotate_left
                        · intro w'
                          go_simp
                          with_reducible rfl
                        rotate_left
                        · simp only [Act.put, List.setIfInBounds_toArray, List.set_cons_zero, List.set_cons_succ, i64_w, i32_w]
                          rfl
                        refine one_ (i := 15) (N := some 73) #[true, true, true, true, true, true, true, true, true, true, true, true, true, true, true, true, false, false] rfl rfl (one_of HT_.out (by kernel_rfl)) (by decide) (fun K hK => ?_)
                        refine goes_ Tryd.func25 (by kernel_rfl) rfl #[] (by rfl) rfl rfl (by (try simp only [List.map_toArray, List.map_cons, List.map_nil]); first | done | rfl | (simp only [List.length_drop, List.length_take]; rfl)) ?_
                        with_reducible refine (laws_folderAwake.calls  t152 _ A31.out).mono ?_
                        rintro e w37 ⟨rfl, hb⟩
                        refine ⟨_, rfl, ?_⟩
                        have n0_ := Aside0.mk (Kd.R_below (by (with_reducible repeat (first | apply Kd.R_alloc | apply Kd.R_drewN | apply Kd.R_drew)); exact HO_140001.out) hb)
                        have n1_ := Aside0.mk (Kd.R_below (by (with_reducible repeat (first | apply Kd.R_alloc | apply Kd.R_drewN | apply Kd.R_drew)); exact HO_140003.out) hb)
                        have n2_ := Aside0.mk (Kd.V_below (by (with_reducible repeat (first | apply Kd.V_alloc | apply Kd.V_drewN | apply Kd.V_drew)); exact HO144.out) hb)
                        have n3_ := Aside0.mk (Kd.V_below (by (with_reducible repeat (first | apply Kd.V_alloc | apply Kd.V_drewN | apply Kd.V_drew)); exact HO148.out) hb)
                        have n4_ := Aside0.mk (blk_below (g := gb139) (o := .cells #[.int .i64 t128, .slice Ao21 t129.length co21, .int .u64 t132, .slice Ao22 t133.length co22, .int .u64 t136, .int .u64 t137] 56 (0, 0)) (by (with_reducible repeat (first | refine blk_drewN ?_ _ | refine blk_drew ?_ | refine blk_alloc ?_ _)); exact BK139.out) hb)
                        have n5_ := Aside0.mk (below_step (by repeat (first | (with_reducible first | exact HB.out | apply below_alloc | apply pw_below_drewN | apply below_drew1 | refine below_set ?_ GE139.out) | exact HB.out)) hb)
                        clear HO_140001
                        clear HO_140003
                        clear HO144
                        clear HO148
                        clear BK139
                        clear HB
                        have HO_140001 := n0_
                        have HO_140003 := n1_
                        have HO144 := n2_
                        have HO148 := n3_
                        have BK139 := n4_
                        have HB := n5_
                        clear n0_ n1_ n2_ n3_ n4_ n5_
                        (try clear hb)
                        (try clear hb2)
                        (try clear hk)
                        (try clear hi)
                        refine hK.out _ _ ⟨(blk_cell BK139.out 0).trans rfl, (blk_cell BK139.out 1).trans rfl, (blk_cell BK139.out 2).trans rfl, (blk_cell BK139.out 3).trans rfl, (blk_cell BK139.out 4).trans rfl, (blk_cell BK139.out 5).trans rfl⟩ (fun hHeld => ?_)
                        clear hK K
                        refine norm_ (a' := ?_) ?_ ?_
                        rotate_left
                        · show Act.put _ (some 73) _ = _
                          simp only [Act.put, List.setIfInBounds_toArray, List.set_cons_zero, List.set_cons_succ, i64_w, i32_w]
                          rfl
                        refine pure_ (i := 16) (N := some 74) (v := ?_) (a' := ?_) #[true, true, true, true, true, true, true, true, true, true, true, true, true, true, true, true, true, false] rfl rfl (any_of HT_.out (by kernel_rfl)) (fun _ _ _ h => h) (Or.inl ⟨by rfl, ?_⟩) ?_ ?_
                        rotate_left
                        · intro w'
                          go_simp
                          with_reducible rfl
                        rotate_left
                        · simp only [Act.put, List.setIfInBounds_toArray, List.set_cons_zero, List.set_cons_succ, i64_w, i32_w]
                          rfl
                        refine pure_ (i := 17) (N := some 6) (v := ?_) (a' := ?_) #[true, true, true, true, true, true, true, true, true, true, true, true, true, true, true, true, true, true] rfl rfl (any_of HT_.out (by kernel_rfl)) (fun _ _ _ h => h) (Or.inl ⟨by rfl, ?_⟩) ?_ ?_
                        rotate_left
                        · intro w'
                          go_simp
                          with_reducible rfl
                        rotate_left
                        · simp only [Act.put, List.setIfInBounds_toArray, List.set_cons_zero, List.set_cons_succ, i64_w, i32_w]
                          rfl
                        refine done_ (done_of HT_.out (by kernel_rfl)) ?_
                        try go_wp2
                        go_ret
                        exact ⟨by first | rfl | (simp [errV_none, errV_some] <;> rfl) | (simp [*, errV_none, errV_some] <;> rfl), by repeat (first | (with_reducible first | exact HB.out | apply below_alloc | apply pw_below_drewN | apply below_drew1 | refine below_set ?_ GE139.out) | exact HB.out)⟩
                      · replace c30 := Bool.eq_false_iff.mpr c30
                        subst c30
                        have H1 : (some false) = some r := by rw [if_neg (show ¬ (false = true) by decide)] at H; exact H
                        clear H
                        have H := H1
                        clear H1
                        obtain rfl := Option.some.inj H
                        try go_wp2
                        have n0_ := Aside0.mk (Kd.R_drew HO_140001.out)
                        have n1_ := Aside0.mk (Kd.R_drew HO_140003.out)
                        have n2_ := Aside0.mk (blk_drew BK139.out)
                        have n3_ := Aside0.mk (below_drew1 HB.out)
                        clear HO_140001
                        clear HO_140003
                        clear BK139
                        clear HB
                        have HO_140001 := n0_
                        have HO_140003 := n1_
                        have BK139 := n2_
                        have HB := n3_
                        clear n0_ n1_ n2_ n3_
                        refine start_ (n := 18) (S := fun w' => w'.cell? ⟨gb139, 0, none⟩ = some (.int .i64 t128) ∧ w'.cell? ⟨gb139, 1, none⟩ = some (.slice Ao21 t129.length co21) ∧ w'.cell? ⟨gb139, 2, none⟩ = some (.int .u64 t132) ∧ w'.cell? ⟨gb139, 3, none⟩ = some (.slice Ao22 t133.length co22) ∧ w'.cell? ⟨gb139, 4, none⟩ = some (.int .u64 t136) ∧ w'.cell? ⟨gb139, 5, none⟩ = some (.int .u64 t137)) (ds := []) #[false, false, false, false, false, false, false, false, false, false, false, false, false, false, false, false, false, false] (by kernel_rfl) rfl rfl ⟨(blk_cell BK139.out 0).trans rfl, (blk_cell BK139.out 1).trans rfl, (blk_cell BK139.out 2).trans rfl, (blk_cell BK139.out 3).trans rfl, (blk_cell BK139.out 4).trans rfl, (blk_cell BK139.out 5).trans rfl⟩ (fun hHeld => ?_); refine with_tabW laws_FnFieldsBack.tab14 laws_FnFieldsBack.bits14 (fun HT_ HW_ => ?_)
                        generalize wr.drew = w38 at HO_140001 HO_140003 BK139 HB hHeld ⊢
                        refine pure_ (i := 0) (N := some 58) (v := ?_) (a' := ?_) #[true, false, false, false, false, false, false, false, false, false, false, false, false, false, false, false, false, false] rfl rfl (any_of HT_.out (by kernel_rfl)) (fun _ _ _ h => h) (Or.inl ⟨by rfl, ?_⟩) ?_ ?_
                        rotate_left
                        · intro w'
                          go_simp
                          with_reducible rfl
                        rotate_left
                        · simp only [Act.put, List.setIfInBounds_toArray, List.set_cons_zero, List.set_cons_succ, i64_w, i32_w]
                          rfl
                        refine pure_ (i := 1) (N := some 59) (v := ?_) (a' := ?_) #[true, true, false, false, false, false, false, false, false, false, false, false, false, false, false, false, false, false] rfl rfl (any_of HT_.out (by kernel_rfl)) (fun _ _ _ h => h) (Or.inl ⟨by rfl, ?_⟩) ?_ ?_
                        rotate_left
                        · intro w'
                          go_simp
                          with_reducible rfl
                        rotate_left
                        · simp only [Act.put, List.setIfInBounds_toArray, List.set_cons_zero, List.set_cons_succ, i64_w, i32_w]
                          rfl
                        refine pure_ (i := 2) (N := some 60) (v := ?_) (a' := ?_) #[true, true, true, false, false, false, false, false, false, false, false, false, false, false, false, false, false, false] rfl rfl (any_of HT_.out (by kernel_rfl)) (fun _ _ _ h => h) (Or.inl ⟨by rfl, ?_⟩) ?_ ?_
                        rotate_left
                        · intro w'
                          go_simp
                          with_reducible rfl
                        rotate_left
                        · simp only [Act.put, List.setIfInBounds_toArray, List.set_cons_zero, List.set_cons_succ, i64_w, i32_w]
                          rfl
                        refine pure_ (i := 3) (N := some 61) (v := ?_) (a' := ?_) #[true, true, true, true, false, false, false, false, false, false, false, false, false, false, false, false, false, false] rfl rfl (any_of HT_.out (by kernel_rfl)) (fun _ _ _ h => h) (Or.inl ⟨by rfl, ?_⟩) ?_ ?_
                        rotate_left
                        · intro w'
                          go_simp
                          with_reducible rfl
                        rotate_left
                        · simp only [Act.put, List.setIfInBounds_toArray, List.set_cons_zero, List.set_cons_succ, i64_w, i32_w]
                          rfl
                        refine pure_ (i := 4) (N := some 62) (v := ?_) (a' := ?_) #[true, true, true, true, true, false, false, false, false, false, false, false, false, false, false, false, false, false] rfl rfl (any_of HT_.out (by kernel_rfl)) (fun _ _ _ h => h) (Or.inl ⟨by rfl, ?_⟩) ?_ ?_
                        rotate_left
                        · intro w'
                          go_simp
                          with_reducible rfl
                        rotate_left
                        · simp only [Act.put, List.setIfInBounds_toArray, List.set_cons_zero, List.set_cons_succ, i64_w, i32_w]
                          rfl
                        refine pure_ (i := 6) (N := some 64) (v := ?_) (a' := ?_) #[true, true, true, true, true, false, true, false, false, false, false, false, false, false, false, false, false, false] rfl rfl (any_of HT_.out (by kernel_rfl)) (fun _ _ _ h => h) (Or.inl ⟨by rfl, ?_⟩) ?_ ?_
                        rotate_left
                        · intro w'
                          go_simp
                          with_reducible rfl
                        rotate_left
                        · simp only [Act.put, List.setIfInBounds_toArray, List.set_cons_zero, List.set_cons_succ, i64_w, i32_w]
                          rfl
                        refine pure_ (i := 7) (N := some 65) (v := ?_) (a' := ?_) #[true, true, true, true, true, false, true, true, false, false, false, false, false, false, false, false, false, false] rfl rfl (any_of HT_.out (by kernel_rfl)) (fun _ _ _ h => h) (Or.inl ⟨by rfl, ?_⟩) ?_ ?_
                        rotate_left
                        · intro w'
                          go_simp
                          with_reducible rfl
                        rotate_left
                        · simp only [Act.put, List.setIfInBounds_toArray, List.set_cons_zero, List.set_cons_succ, i64_w, i32_w]
                          rfl
                        refine pure_ (i := 8) (N := some 66) (v := ?_) (a' := ?_) #[true, true, true, true, true, false, true, true, true, false, false, false, false, false, false, false, false, false] rfl rfl (any_of HT_.out (by kernel_rfl)) (fun _ _ _ h => h) (Or.inl ⟨by rfl, ?_⟩) ?_ ?_
                        rotate_left
                        · intro w'
                          go_simp
                          with_reducible rfl
                        rotate_left
                        · simp only [Act.put, List.setIfInBounds_toArray, List.set_cons_zero, List.set_cons_succ, i64_w, i32_w]
                          rfl
                        refine pure_ (i := 9) (N := some 67) (v := ?_) (a' := ?_) #[true, true, true, true, true, false, true, true, true, true, false, false, false, false, false, false, false, false] rfl rfl (any_of HT_.out (by kernel_rfl)) (fun _ _ _ h => h) (Or.inl ⟨by rfl, ?_⟩) ?_ ?_
                        rotate_left
                        · intro w'
                          go_simp
                          with_reducible rfl
                        rotate_left
                        · simp only [Act.put, List.setIfInBounds_toArray, List.set_cons_zero, List.set_cons_succ, i64_w, i32_w]
                          rfl
                        refine pure_ (i := 10) (N := some 68) (v := ?_) (a' := ?_) #[true, true, true, true, true, false, true, true, true, true, true, false, false, false, false, false, false, false] rfl rfl (any_of HT_.out (by kernel_rfl)) (fun _ _ _ h => h) (Or.inl ⟨by rfl, ?_⟩) ?_ ?_
                        rotate_left
                        · intro w'
                          go_simp
                          with_reducible rfl
                        rotate_left
                        · simp only [Act.put, List.setIfInBounds_toArray, List.set_cons_zero, List.set_cons_succ, i64_w, i32_w]
                          rfl
                        refine take_ (i := 5) (N := some 63) (v := ?_) (a' := ?_) #[true, true, true, true, true, true, true, true, true, true, true, false, false, false, false, false, false, false] rfl rfl (take_ofW HT_.out HW_.out (by kernel_rfl)) (fun _ _ _ h => h) (Or.inl ⟨by rfl, ?_⟩) hHeld ?_ ?_
                        rotate_left
                        · rintro w' ⟨s0, s1, s2, s3, s4, s5⟩
                          go_simp
                          with_reducible rfl
                        rotate_left
                        · simp only [Act.put, List.setIfInBounds_toArray, List.set_cons_zero, List.set_cons_succ, i64_w, i32_w]
                          rfl
                        refine one_ (i := 11) (N := some 69) #[true, true, true, true, true, true, true, true, true, true, true, true, false, false, false, false, false, false] rfl rfl (one_of HT_.out (by kernel_rfl)) (by decide) (fun K hK => ?_)
                        refine goes_ Tryd.func34 (by kernel_rfl) rfl #[.agg #[.int .i64 (wrap64 (Int.tmod a0 6)), .slice A1 l1.length c1, .int .u64 x12_2, .slice A2 l2.length c2, .int .u64 0, .int .u64 0]] (by rfl) rfl rfl (by (try simp only [List.map_toArray, List.map_cons, List.map_nil]); first | done | rfl | (simp only [List.length_drop, List.length_take]; rfl)) ?_
                        with_reducible refine (spec_Told.calls k2 (wrap64 (Int.tmod a0 6)) (fun k_ => k_ < w.heap.size) _ _ l1 x12_2 (fun k_ => k_ < w.heap.size) _ _ l2 0 0 t141 t142 t145 t146 t149 t150 _ ?side1 ?side2 A28.out).mono ?_
                        (case side1 => exact Kd.V_mk HC1.out (Kd.F_below (Kd.C_F (Kd.heap_int .u8) HR1.out) (by repeat (first | (with_reducible first | exact HB.out | apply below_alloc | apply pw_below_drewN | apply below_drew1 | refine below_set ?_ GE139.out) | exact HB.out))))
                        (case side2 => exact Kd.V_mk HC2.out (Kd.F_below (Kd.C_F (Kd.heap_int .u64) HR2.out) (by repeat (first | (with_reducible first | exact HB.out | apply below_alloc | apply pw_below_drewN | apply below_drew1 | refine below_set ?_ GE139.out) | exact HB.out))))
                        rintro e w39 ⟨v143, v147, rfl, ho0, ho1, hb⟩
                        refine ⟨_, rfl, ?_⟩
                        have n0_ := Aside0.mk (Kd.R_below (by (with_reducible repeat (first | apply Kd.R_alloc | apply Kd.R_drewN | apply Kd.R_drew)); exact HO_140001.out) hb)
                        have n1_ := Aside0.mk (Kd.R_below (by (with_reducible repeat (first | apply Kd.R_alloc | apply Kd.R_drewN | apply Kd.R_drew)); exact HO_140003.out) hb)
                        have n2_ := Aside0.mk (Kd.V_lower (Kd.V_mono (ok' := fun k_ => some k_ ≠ (.slice Ao21 t129.length co21 : Value).ownBlock ∧ some k_ ≠ (.slice Ao22 t133.length co22 : Value).ownBlock ∧ k_ ≠ gb139) ho0 (fun k_ hk_ => ⟨Or.elim hk_ (fun hs_ => Or.elim hs_ (fun hs_ => fun e_ => Nat.not_le.2 hs_ (Kd.R_base HO_140001.out k_ e_.symm)) (fun hs_ => fun e_ => Nat.not_le.2 hs_ (Kd.R_base HO_140001.out k_ e_.symm))) (fun hn_ => (Kd.fresh' (Kd.R_lt (by (with_reducible repeat (first | apply Kd.R_alloc | apply Kd.R_drewN | apply Kd.R_drew)); exact HO_140001.out)) k_ hn_)), Or.elim hk_ (fun hs_ => Or.elim hs_ (fun hs_ => fun e_ => Nat.not_le.2 hs_ (Kd.R_base HO_140003.out k_ e_.symm)) (fun hs_ => fun e_ => Nat.not_le.2 hs_ (Kd.R_base HO_140003.out k_ e_.symm))) (fun hn_ => (Kd.fresh' (Kd.R_lt (by (with_reducible repeat (first | apply Kd.R_alloc | apply Kd.R_drewN | apply Kd.R_drew)); exact HO_140003.out)) k_ hn_)), Or.elim hk_ (fun hs_ => Or.elim hs_ (fun hs_ => fun e_ => Nat.not_le.2 hs_ (by rw [e_]; exact GW139.out)) (fun hs_ => fun e_ => Nat.not_le.2 hs_ (by rw [e_]; exact GW139.out))) (fun hn_ => (Kd.freshB (g := gb139) (o := .cells #[.int .i64 t128, .slice Ao21 t129.length co21, .int .u64 t132, .slice Ao22 t133.length co22, .int .u64 t136, .int .u64 t137] 56 (0, 0)) (by (with_reducible repeat (first | refine blk_drewN ?_ _ | refine blk_drew ?_ | refine blk_alloc ?_ _)); exact BK139.out) k_ hn_))⟩)) (below_size (by repeat (first | (with_reducible first | exact HB.out | apply below_alloc | apply pw_below_drewN | apply below_drew1 | refine below_set ?_ GE139.out) | exact HB.out))))
                        have n3_ := Aside0.mk (Kd.V_lower (Kd.V_mono (ok' := fun k_ => some k_ ≠ (.slice Ao21 t129.length co21 : Value).ownBlock ∧ some k_ ≠ (.slice Ao22 t133.length co22 : Value).ownBlock ∧ k_ ≠ gb139) ho1 (fun k_ hk_ => ⟨Or.elim hk_ (fun hs_ => Or.elim hs_ (fun hs_ => fun e_ => Nat.not_le.2 hs_ (Kd.R_base HO_140001.out k_ e_.symm)) (fun hs_ => fun e_ => Nat.not_le.2 hs_ (Kd.R_base HO_140001.out k_ e_.symm))) (fun hn_ => (Kd.fresh' (Kd.R_lt (by (with_reducible repeat (first | apply Kd.R_alloc | apply Kd.R_drewN | apply Kd.R_drew)); exact HO_140001.out)) k_ hn_)), Or.elim hk_ (fun hs_ => Or.elim hs_ (fun hs_ => fun e_ => Nat.not_le.2 hs_ (Kd.R_base HO_140003.out k_ e_.symm)) (fun hs_ => fun e_ => Nat.not_le.2 hs_ (Kd.R_base HO_140003.out k_ e_.symm))) (fun hn_ => (Kd.fresh' (Kd.R_lt (by (with_reducible repeat (first | apply Kd.R_alloc | apply Kd.R_drewN | apply Kd.R_drew)); exact HO_140003.out)) k_ hn_)), Or.elim hk_ (fun hs_ => Or.elim hs_ (fun hs_ => fun e_ => Nat.not_le.2 hs_ (by rw [e_]; exact GW139.out)) (fun hs_ => fun e_ => Nat.not_le.2 hs_ (by rw [e_]; exact GW139.out))) (fun hn_ => (Kd.freshB (g := gb139) (o := .cells #[.int .i64 t128, .slice Ao21 t129.length co21, .int .u64 t132, .slice Ao22 t133.length co22, .int .u64 t136, .int .u64 t137] 56 (0, 0)) (by (with_reducible repeat (first | refine blk_drewN ?_ _ | refine blk_drew ?_ | refine blk_alloc ?_ _)); exact BK139.out) k_ hn_))⟩)) (below_size (by repeat (first | (with_reducible first | exact HB.out | apply below_alloc | apply pw_below_drewN | apply below_drew1 | refine below_set ?_ GE139.out) | exact HB.out))))
                        have n4_ := Aside0.mk (blk_below (g := gb139) (o := .cells #[.int .i64 t128, .slice Ao21 t129.length co21, .int .u64 t132, .slice Ao22 t133.length co22, .int .u64 t136, .int .u64 t137] 56 (0, 0)) (by (with_reducible repeat (first | refine blk_drewN ?_ _ | refine blk_drew ?_ | refine blk_alloc ?_ _)); exact BK139.out) hb)
                        have n5_ := Aside0.mk (below_step (by repeat (first | (with_reducible first | exact HB.out | apply below_alloc | apply pw_below_drewN | apply below_drew1 | refine below_set ?_ GE139.out) | exact HB.out)) hb)
                        clear HO_140001
                        clear HO_140003
                        clear BK139
                        clear HB
                        have HO_140001 := n0_
                        have HO_140003 := n1_
                        have HO144 := n2_
                        have HO148 := n3_
                        have BK139 := n4_
                        have HB := n5_
                        clear n0_ n1_ n2_ n3_ n4_ n5_
                        (try clear hb)
                        (try clear hb2)
                        (try clear hk)
                        (try clear hi)
                        (try clear ho0)
                        (try clear ho1)
                        obtain ⟨Ao40, co40, eo40⟩ := Kd.V_slice HO144.out
                        (first | subst eo40 | (injection eo40 with f1_ f2_ f3_; have f4_ := f1_.symm; have f5_ := f3_.symm; clear f1_ f2_ f3_; subst f4_; subst f5_))
                        obtain ⟨Ao41, co41, eo41⟩ := Kd.V_slice HO148.out
                        (first | subst eo41 | (injection eo41 with f1_ f2_ f3_; have f4_ := f1_.symm; have f5_ := f3_.symm; clear f1_ f2_ f3_; subst f4_; subst f5_))
                        refine hK.out _ _ ⟨(blk_cell BK139.out 0).trans rfl, (blk_cell BK139.out 1).trans rfl, (blk_cell BK139.out 2).trans rfl, (blk_cell BK139.out 3).trans rfl, (blk_cell BK139.out 4).trans rfl, (blk_cell BK139.out 5).trans rfl⟩ (fun hHeld => ?_)
                        clear hK K
                        refine norm_ (a' := ?_) ?_ ?_
                        rotate_left
                        · show Act.put _ (some 69) _ = _
                          simp only [Act.put, List.setIfInBounds_toArray, List.set_cons_zero, List.set_cons_succ, i64_w, i32_w]
                          rfl
                        refine one_ (i := 12) (N := some 70) #[true, true, true, true, true, true, true, true, true, true, true, true, true, false, false, false, false, false] rfl rfl (one_of HT_.out (by kernel_rfl)) (by decide) (fun K hK => ?_)
                        refine goes_ Tryd.func33 (by kernel_rfl) rfl #[.agg #[.int .i64 t128, .slice Ao21 t129.length co21, .int .u64 t132, .slice Ao22 t133.length co22, .int .u64 t136, .int .u64 t137], .agg #[.int .i64 t141, .slice Ao40 t142.length co40, .int .u64 t145, .slice Ao41 t146.length co41, .int .u64 t149, .int .u64 t150]] (by rfl) rfl rfl (by (try simp only [List.map_toArray, List.map_cons, List.map_nil]); first | done | rfl | (simp only [List.length_drop, List.length_take]; rfl)) ?_
                        with_reducible refine (spec_SameFS.calls k2 t128 _ _ t129 t132 _ _ t133 t136 t137 t141 _ _ t142 t145 _ _ t146 t149 t150 false _ ?side1 ?side2 ?side3 ?side4 ?side5 ?side6 ?side7 ?side8 A29.out).mono ?_
                        (case side1 => repeat (first | exact (Kd.R_reads' HO_140001.out).2.2 | (with_reducible refine Kd.C_alloc ?_ _) | (with_reducible refine Kd.C_drewN ?_ _) | (with_reducible refine Kd.C_drew ?_)))
                        (case side2 => exact (Kd.R_reads' HO_140001.out).2.1)
                        (case side3 => repeat (first | exact (Kd.R_reads' HO_140003.out).2.2 | (with_reducible refine Kd.C_alloc ?_ _) | (with_reducible refine Kd.C_drewN ?_ _) | (with_reducible refine Kd.C_drew ?_)))
                        (case side4 => exact (Kd.R_reads' HO_140003.out).2.1)
                        (case side5 => repeat (first | exact (Kd.V_reads' HO144.out).2.2 | (with_reducible refine Kd.C_alloc ?_ _) | (with_reducible refine Kd.C_drewN ?_ _) | (with_reducible refine Kd.C_drew ?_)))
                        (case side6 => exact (Kd.V_reads' HO144.out).2.1)
                        (case side7 => repeat (first | exact (Kd.V_reads' HO148.out).2.2 | (with_reducible refine Kd.C_alloc ?_ _) | (with_reducible refine Kd.C_drewN ?_ _) | (with_reducible refine Kd.C_drew ?_)))
                        (case side8 => exact (Kd.V_reads' HO148.out).2.1)
                        rintro e w42 ⟨rfl, hb⟩
                        refine ⟨_, rfl, ?_⟩
                        have n0_ := Aside0.mk (Kd.R_below (by (with_reducible repeat (first | apply Kd.R_alloc | apply Kd.R_drewN | apply Kd.R_drew)); exact HO_140001.out) hb)
                        have n1_ := Aside0.mk (Kd.R_below (by (with_reducible repeat (first | apply Kd.R_alloc | apply Kd.R_drewN | apply Kd.R_drew)); exact HO_140003.out) hb)
                        have n2_ := Aside0.mk (Kd.V_below (by (with_reducible repeat (first | apply Kd.V_alloc | apply Kd.V_drewN | apply Kd.V_drew)); exact HO144.out) hb)
                        have n3_ := Aside0.mk (Kd.V_below (by (with_reducible repeat (first | apply Kd.V_alloc | apply Kd.V_drewN | apply Kd.V_drew)); exact HO148.out) hb)
                        have n4_ := Aside0.mk (blk_below (g := gb139) (o := .cells #[.int .i64 t128, .slice Ao21 t129.length co21, .int .u64 t132, .slice Ao22 t133.length co22, .int .u64 t136, .int .u64 t137] 56 (0, 0)) (by (with_reducible repeat (first | refine blk_drewN ?_ _ | refine blk_drew ?_ | refine blk_alloc ?_ _)); exact BK139.out) hb)
                        have n5_ := Aside0.mk (below_step (by repeat (first | (with_reducible first | exact HB.out | apply below_alloc | apply pw_below_drewN | apply below_drew1 | refine below_set ?_ GE139.out) | exact HB.out)) hb)
                        clear HO_140001
                        clear HO_140003
                        clear HO144
                        clear HO148
                        clear BK139
                        clear HB
                        have HO_140001 := n0_
                        have HO_140003 := n1_
                        have HO144 := n2_
                        have HO148 := n3_
                        have BK139 := n4_
                        have HB := n5_
                        clear n0_ n1_ n2_ n3_ n4_ n5_
                        (try clear hb)
                        (try clear hb2)
                        (try clear hk)
                        (try clear hi)
                        refine hK.out _ _ ⟨(blk_cell BK139.out 0).trans rfl, (blk_cell BK139.out 1).trans rfl, (blk_cell BK139.out 2).trans rfl, (blk_cell BK139.out 3).trans rfl, (blk_cell BK139.out 4).trans rfl, (blk_cell BK139.out 5).trans rfl⟩ (fun hHeld => ?_)
                        clear hK K
                        refine norm_ (a' := ?_) ?_ ?_
                        rotate_left
                        · show Act.put _ (some 70) _ = _
                          simp only [Act.put, List.setIfInBounds_toArray, List.set_cons_zero, List.set_cons_succ, i64_w, i32_w]
                          rfl
                        refine pure_ (i := 13) (N := some 71) (v := ?_) (a' := ?_) #[true, true, true, true, true, true, true, true, true, true, true, true, true, true, false, false, false, false] rfl rfl (any_of HT_.out (by kernel_rfl)) (fun _ _ _ h => h) (Or.inl ⟨by rfl, ?_⟩) ?_ ?_
                        rotate_left
                        · intro w'
                          go_simp
                          with_reducible rfl
                        rotate_left
                        · simp only [Act.put, List.setIfInBounds_toArray, List.set_cons_zero, List.set_cons_succ, i64_w, i32_w]
                          rfl
                        refine pure_ (i := 14) (N := some 72) (v := ?_) (a' := ?_) #[true, true, true, true, true, true, true, true, true, true, true, true, true, true, true, false, false, false] rfl rfl (any_of HT_.out (by kernel_rfl)) (fun _ _ _ h => h) (Or.inl ⟨by rfl, ?_⟩) ?_ ?_
                        rotate_left
                        · intro w'
                          go_simp
                          with_reducible rfl
                        rotate_left
                        · simp only [Act.put, List.setIfInBounds_toArray, List.set_cons_zero, List.set_cons_succ, i64_w, i32_w]
                          rfl
                        refine pure_ (i := 15) (N := some 73) (v := undef) (a' := ?_) #[true, true, true, true, true, true, true, true, true, true, true, true, true, true, true, true, false, false] rfl rfl (any_of HT_.out (by kernel_rfl)) (fun _ _ _ h => h) (Or.inr ⟨by rfl, rfl⟩) ?_ ?_
                        rotate_left
                        · simp only [Act.put, List.setIfInBounds_toArray, List.set_cons_zero, List.set_cons_succ, i64_w, i32_w]
                          rfl
                        refine pure_ (i := 16) (N := some 74) (v := ?_) (a' := ?_) #[true, true, true, true, true, true, true, true, true, true, true, true, true, true, true, true, true, false] rfl rfl (any_of HT_.out (by kernel_rfl)) (fun _ _ _ h => h) (Or.inl ⟨by rfl, ?_⟩) ?_ ?_
                        rotate_left
                        · intro w'
                          go_simp
                          with_reducible rfl
                        rotate_left
                        · simp only [Act.put, List.setIfInBounds_toArray, List.set_cons_zero, List.set_cons_succ, i64_w, i32_w]
                          rfl
                        refine pure_ (i := 17) (N := some 6) (v := ?_) (a' := ?_) #[true, true, true, true, true, true, true, true, true, true, true, true, true, true, true, true, true, true] rfl rfl (any_of HT_.out (by kernel_rfl)) (fun _ _ _ h => h) (Or.inl ⟨by rfl, ?_⟩) ?_ ?_
                        rotate_left
                        · intro w'
                          go_simp
                          with_reducible rfl
                        rotate_left
                        · simp only [Act.put, List.setIfInBounds_toArray, List.set_cons_zero, List.set_cons_succ, i64_w, i32_w]
                          rfl
                        refine done_ (done_of HT_.out (by kernel_rfl)) ?_
                        try go_wp2
                        go_ret
                        exact ⟨by first | rfl | (simp [errV_none, errV_some] <;> rfl) | (simp [*, errV_none, errV_some] <;> rfl), by repeat (first | (with_reducible first | exact HB.out | apply below_alloc | apply pw_below_drewN | apply below_drew1 | refine below_set ?_ GE139.out) | exact HB.out)⟩
                    · replace c27 := Bool.eq_false_iff.mpr c27
                      subst c27
                      have H1 : (some false) = some r := by rw [if_neg (show ¬ (false = true) by decide)] at H; exact H
                      clear H
                      have H := H1
                      clear H1
                      obtain rfl := Option.some.inj H
                      try go_wp2
                      have n0_ := Aside0.mk (Kd.R_drew HO_140001.out)
                      have n1_ := Aside0.mk (Kd.R_drew HO_140003.out)
                      have n2_ := Aside0.mk (blk_drew BK139.out)
                      have n3_ := Aside0.mk (below_drew1 HB.out)
                      clear HO_140001
                      clear HO_140003
                      clear BK139
                      clear HB
                      have HO_140001 := n0_
                      have HO_140003 := n1_
                      have BK139 := n2_
                      have HB := n3_
                      clear n0_ n1_ n2_ n3_
                      refine start_ (n := 18) (S := fun w' => True) (ds := []) #[false, false, false, false, false, false, false, false, false, false, false, false, false, false, false, false, false, false] (by kernel_rfl) rfl rfl trivial (fun hHeld => ?_); refine with_tabW laws_FnFieldsBack.tab14 laws_FnFieldsBack.bits14 (fun HT_ HW_ => ?_)
                      generalize wr.drew = w43 at HO_140001 HO_140003 BK139 HB hHeld ⊢
                      refine pure_ (i := 0) (N := some 58) (v := ?_) (a' := ?_) #[true, false, false, false, false, false, false, false, false, false, false, false, false, false, false, false, false, false] rfl rfl (any_of HT_.out (by kernel_rfl)) (fun _ _ _ h => h) (Or.inl ⟨by rfl, ?_⟩) ?_ ?_
                      rotate_left
                      · intro w'
                        go_simp
                        with_reducible rfl
                      rotate_left
                      · simp only [Act.put, List.setIfInBounds_toArray, List.set_cons_zero, List.set_cons_succ, i64_w, i32_w]
                        rfl
                      refine pure_ (i := 1) (N := some 59) (v := ?_) (a' := ?_) #[true, true, false, false, false, false, false, false, false, false, false, false, false, false, false, false, false, false] rfl rfl (any_of HT_.out (by kernel_rfl)) (fun _ _ _ h => h) (Or.inl ⟨by rfl, ?_⟩) ?_ ?_
                      rotate_left
                      · intro w'
                        go_simp
                        with_reducible rfl
                      rotate_left
                      · simp only [Act.put, List.setIfInBounds_toArray, List.set_cons_zero, List.set_cons_succ, i64_w, i32_w]
                        rfl
                      refine pure_ (i := 2) (N := some 60) (v := ?_) (a' := ?_) #[true, true, true, false, false, false, false, false, false, false, false, false, false, false, false, false, false, false] rfl rfl (any_of HT_.out (by kernel_rfl)) (fun _ _ _ h => h) (Or.inl ⟨by rfl, ?_⟩) ?_ ?_
                      rotate_left
                      · intro w'
                        go_simp
                        with_reducible rfl
                      rotate_left
                      · simp only [Act.put, List.setIfInBounds_toArray, List.set_cons_zero, List.set_cons_succ, i64_w, i32_w]
                        rfl
                      refine pure_ (i := 3) (N := some 61) (v := ?_) (a' := ?_) #[true, true, true, true, false, false, false, false, false, false, false, false, false, false, false, false, false, false] rfl rfl (any_of HT_.out (by kernel_rfl)) (fun _ _ _ h => h) (Or.inl ⟨by rfl, ?_⟩) ?_ ?_
                      rotate_left
                      · intro w'
                        go_simp
                        with_reducible rfl
                      rotate_left
                      · simp only [Act.put, List.setIfInBounds_toArray, List.set_cons_zero, List.set_cons_succ, i64_w, i32_w]
                        rfl
                      refine pure_ (i := 4) (N := some 62) (v := ?_) (a' := ?_) #[true, true, true, true, true, false, false, false, false, false, false, false, false, false, false, false, false, false] rfl rfl (any_of HT_.out (by kernel_rfl)) (fun _ _ _ h => h) (Or.inl ⟨by rfl, ?_⟩) ?_ ?_
                      rotate_left
                      · intro w'
                        go_simp
                        with_reducible rfl
                      rotate_left
                      · simp only [Act.put, List.setIfInBounds_toArray, List.set_cons_zero, List.set_cons_succ, i64_w, i32_w]
                        rfl
                      refine pure_ (i := 5) (N := some 63) (v := undef) (a' := ?_) #[true, true, true, true, true, true, false, false, false, false, false, false, false, false, false, false, false, false] rfl rfl (any_of HT_.out (by kernel_rfl)) (fun _ _ _ h => h) (Or.inr ⟨by rfl, rfl⟩) ?_ ?_
                      rotate_left
                      · simp only [Act.put, List.setIfInBounds_toArray, List.set_cons_zero, List.set_cons_succ, i64_w, i32_w]
                        rfl
                      refine pure_ (i := 6) (N := some 64) (v := undef) (a' := ?_) #[true, true, true, true, true, true, true, false, false, false, false, false, false, false, false, false, false, false] rfl rfl (any_of HT_.out (by kernel_rfl)) (fun _ _ _ h => h) (Or.inr ⟨by rfl, rfl⟩) ?_ ?_
                      rotate_left
                      · simp only [Act.put, List.setIfInBounds_toArray, List.set_cons_zero, List.set_cons_succ, i64_w, i32_w]
                        rfl
                      refine pure_ (i := 7) (N := some 65) (v := undef) (a' := ?_) #[true, true, true, true, true, true, true, true, false, false, false, false, false, false, false, false, false, false] rfl rfl (any_of HT_.out (by kernel_rfl)) (fun _ _ _ h => h) (Or.inr ⟨by rfl, rfl⟩) ?_ ?_
                      rotate_left
                      · simp only [Act.put, List.setIfInBounds_toArray, List.set_cons_zero, List.set_cons_succ, i64_w, i32_w]
                        rfl
                      refine pure_ (i := 8) (N := some 66) (v := undef) (a' := ?_) #[true, true, true, true, true, true, true, true, true, false, false, false, false, false, false, false, false, false] rfl rfl (any_of HT_.out (by kernel_rfl)) (fun _ _ _ h => h) (Or.inr ⟨by rfl, rfl⟩) ?_ ?_
                      rotate_left
                      · simp only [Act.put, List.setIfInBounds_toArray, List.set_cons_zero, List.set_cons_succ, i64_w, i32_w]
                        rfl
                      refine pure_ (i := 9) (N := some 67) (v := undef) (a' := ?_) #[true, true, true, true, true, true, true, true, true, true, false, false, false, false, false, false, false, false] rfl rfl (any_of HT_.out (by kernel_rfl)) (fun _ _ _ h => h) (Or.inr ⟨by rfl, rfl⟩) ?_ ?_
                      rotate_left
                      · simp only [Act.put, List.setIfInBounds_toArray, List.set_cons_zero, List.set_cons_succ, i64_w, i32_w]
                        rfl
                      refine pure_ (i := 10) (N := some 68) (v := undef) (a' := ?_) #[true, true, true, true, true, true, true, true, true, true, true, false, false, false, false, false, false, false] rfl rfl (any_of HT_.out (by kernel_rfl)) (fun _ _ _ h => h) (Or.inr ⟨by rfl, rfl⟩) ?_ ?_
                      rotate_left
                      · simp only [Act.put, List.setIfInBounds_toArray, List.set_cons_zero, List.set_cons_succ, i64_w, i32_w]
                        rfl
                      refine pure_ (i := 11) (N := some 69) (v := undef) (a' := ?_) #[true, true, true, true, true, true, true, true, true, true, true, true, false, false, false, false, false, false] rfl rfl (any_of HT_.out (by kernel_rfl)) (fun _ _ _ h => h) (Or.inr ⟨by rfl, rfl⟩) ?_ ?_
                      rotate_left
                      · simp only [Act.put, List.setIfInBounds_toArray, List.set_cons_zero, List.set_cons_succ, i64_w, i32_w]
                        rfl
                      refine pure_ (i := 12) (N := some 70) (v := undef) (a' := ?_) #[true, true, true, true, true, true, true, true, true, true, true, true, true, false, false, false, false, false] rfl rfl (any_of HT_.out (by kernel_rfl)) (fun _ _ _ h => h) (Or.inr ⟨by rfl, rfl⟩) ?_ ?_
                      rotate_left
                      · simp only [Act.put, List.setIfInBounds_toArray, List.set_cons_zero, List.set_cons_succ, i64_w, i32_w]
                        rfl
                      refine pure_ (i := 13) (N := some 71) (v := ?_) (a' := ?_) #[true, true, true, true, true, true, true, true, true, true, true, true, true, true, false, false, false, false] rfl rfl (any_of HT_.out (by kernel_rfl)) (fun _ _ _ h => h) (Or.inl ⟨by rfl, ?_⟩) ?_ ?_
                      rotate_left
                      · intro w'
                        go_simp
                        with_reducible rfl
                      rotate_left
                      · simp only [Act.put, List.setIfInBounds_toArray, List.set_cons_zero, List.set_cons_succ, i64_w, i32_w]
                        rfl
                      refine pure_ (i := 14) (N := some 72) (v := ?_) (a' := ?_) #[true, true, true, true, true, true, true, true, true, true, true, true, true, true, true, false, false, false] rfl rfl (any_of HT_.out (by kernel_rfl)) (fun _ _ _ h => h) (Or.inl ⟨by rfl, ?_⟩) ?_ ?_
                      rotate_left
                      · intro w'
                        go_simp
                        with_reducible rfl
                      rotate_left
                      · simp only [Act.put, List.setIfInBounds_toArray, List.set_cons_zero, List.set_cons_succ, i64_w, i32_w]
                        rfl
                      refine pure_ (i := 15) (N := some 73) (v := undef) (a' := ?_) #[true, true, true, true, true, true, true, true, true, true, true, true, true, true, true, true, false, false] rfl rfl (any_of HT_.out (by kernel_rfl)) (fun _ _ _ h => h) (Or.inr ⟨by rfl, rfl⟩) ?_ ?_
                      rotate_left
                      · simp only [Act.put, List.setIfInBounds_toArray, List.set_cons_zero, List.set_cons_succ, i64_w, i32_w]
                        rfl
                      refine pure_ (i := 16) (N := some 74) (v := ?_) (a' := ?_) #[true, true, true, true, true, true, true, true, true, true, true, true, true, true, true, true, true, false] rfl rfl (any_of HT_.out (by kernel_rfl)) (fun _ _ _ h => h) (Or.inl ⟨by rfl, ?_⟩) ?_ ?_
                      rotate_left
                      · intro w'
                        go_simp
                        with_reducible rfl
                      rotate_left
                      · simp only [Act.put, List.setIfInBounds_toArray, List.set_cons_zero, List.set_cons_succ, i64_w, i32_w]
                        rfl
                      refine pure_ (i := 17) (N := some 6) (v := ?_) (a' := ?_) #[true, true, true, true, true, true, true, true, true, true, true, true, true, true, true, true, true, true] rfl rfl (any_of HT_.out (by kernel_rfl)) (fun _ _ _ h => h) (Or.inl ⟨by rfl, ?_⟩) ?_ ?_
                      rotate_left
                      · intro w'
                        go_simp
                        with_reducible rfl
                      rotate_left
                      · simp only [Act.put, List.setIfInBounds_toArray, List.set_cons_zero, List.set_cons_succ, i64_w, i32_w]
                        rfl
                      refine done_ (done_of HT_.out (by kernel_rfl)) ?_
                      try go_wp2
                      go_ret
                      exact ⟨by first | rfl | (simp [errV_none, errV_some] <;> rfl) | (simp [*, errV_none, errV_some] <;> rfl), by repeat (first | (with_reducible first | exact HB.out | apply below_alloc | apply pw_below_drewN | apply below_drew1 | refine below_set ?_ GE139.out) | exact HB.out)⟩
                  · replace c26 := Bool.eq_false_iff.mpr c26
                    subst c26
                    have H1 : (some false) = some r := by rw [if_neg (show ¬ (false = true) by decide)] at H; exact H
                    clear H
                    have H := H1
                    clear H1
                    obtain rfl := Option.some.inj H
                    try go_wp2
                    have n0_ := Aside0.mk (Kd.R_drew HO_140001.out)
                    have n1_ := Aside0.mk (Kd.R_drew HO_140003.out)
                    have n2_ := Aside0.mk (blk_drew BK139.out)
                    have n3_ := Aside0.mk (below_drew1 HB.out)
                    clear HO_140001
                    clear HO_140003
                    clear BK139
                    clear HB
                    have HO_140001 := n0_
                    have HO_140003 := n1_
                    have BK139 := n2_
                    have HB := n3_
                    clear n0_ n1_ n2_ n3_
                    refine start_ (n := 18) (S := fun w' => True) (ds := []) #[false, false, false, false, false, false, false, false, false, false, false, false, false, false, false, false, false, false] (by kernel_rfl) rfl rfl trivial (fun hHeld => ?_); refine with_tabW laws_FnFieldsBack.tab14 laws_FnFieldsBack.bits14 (fun HT_ HW_ => ?_)
                    generalize wr.drew = w44 at HO_140001 HO_140003 BK139 HB hHeld ⊢
                    refine pure_ (i := 0) (N := some 58) (v := ?_) (a' := ?_) #[true, false, false, false, false, false, false, false, false, false, false, false, false, false, false, false, false, false] rfl rfl (any_of HT_.out (by kernel_rfl)) (fun _ _ _ h => h) (Or.inl ⟨by rfl, ?_⟩) ?_ ?_
                    rotate_left
                    · intro w'
                      go_simp
                      with_reducible rfl
                    rotate_left
                    · simp only [Act.put, List.setIfInBounds_toArray, List.set_cons_zero, List.set_cons_succ, i64_w, i32_w]
                      rfl
                    refine pure_ (i := 1) (N := some 59) (v := ?_) (a' := ?_) #[true, true, false, false, false, false, false, false, false, false, false, false, false, false, false, false, false, false] rfl rfl (any_of HT_.out (by kernel_rfl)) (fun _ _ _ h => h) (Or.inl ⟨by rfl, ?_⟩) ?_ ?_
                    rotate_left
                    · intro w'
                      go_simp
                      with_reducible rfl
                    rotate_left
                    · simp only [Act.put, List.setIfInBounds_toArray, List.set_cons_zero, List.set_cons_succ, i64_w, i32_w]
                      rfl
                    refine pure_ (i := 2) (N := some 60) (v := undef) (a' := ?_) #[true, true, true, false, false, false, false, false, false, false, false, false, false, false, false, false, false, false] rfl rfl (any_of HT_.out (by kernel_rfl)) (fun _ _ _ h => h) (Or.inr ⟨by rfl, rfl⟩) ?_ ?_
                    rotate_left
                    · simp only [Act.put, List.setIfInBounds_toArray, List.set_cons_zero, List.set_cons_succ, i64_w, i32_w]
                      rfl
                    refine pure_ (i := 3) (N := some 61) (v := ?_) (a' := ?_) #[true, true, true, true, false, false, false, false, false, false, false, false, false, false, false, false, false, false] rfl rfl (any_of HT_.out (by kernel_rfl)) (fun _ _ _ h => h) (Or.inl ⟨by rfl, ?_⟩) ?_ ?_
                    rotate_left
                    · intro w'
                      go_simp
                      with_reducible rfl
                    rotate_left
                    · simp only [Act.put, List.setIfInBounds_toArray, List.set_cons_zero, List.set_cons_succ, i64_w, i32_w]
                      rfl
                    refine pure_ (i := 4) (N := some 62) (v := ?_) (a' := ?_) #[true, true, true, true, true, false, false, false, false, false, false, false, false, false, false, false, false, false] rfl rfl (any_of HT_.out (by kernel_rfl)) (fun _ _ _ h => h) (Or.inl ⟨by rfl, ?_⟩) ?_ ?_
                    rotate_left
                    · intro w'
                      go_simp
                      with_reducible rfl
                    rotate_left
                    · simp only [Act.put, List.setIfInBounds_toArray, List.set_cons_zero, List.set_cons_succ, i64_w, i32_w]
                      rfl
                    refine pure_ (i := 5) (N := some 63) (v := undef) (a' := ?_) #[true, true, true, true, true, true, false, false, false, false, false, false, false, false, false, false, false, false] rfl rfl (any_of HT_.out (by kernel_rfl)) (fun _ _ _ h => h) (Or.inr ⟨by rfl, rfl⟩) ?_ ?_
                    rotate_left
                    · simp only [Act.put, List.setIfInBounds_toArray, List.set_cons_zero, List.set_cons_succ, i64_w, i32_w]
                      rfl
                    refine pure_ (i := 6) (N := some 64) (v := undef) (a' := ?_) #[true, true, true, true, true, true, true, false, false, false, false, false, false, false, false, false, false, false] rfl rfl (any_of HT_.out (by kernel_rfl)) (fun _ _ _ h => h) (Or.inr ⟨by rfl, rfl⟩) ?_ ?_
                    rotate_left
                    · simp only [Act.put, List.setIfInBounds_toArray, List.set_cons_zero, List.set_cons_succ, i64_w, i32_w]
                      rfl
                    refine pure_ (i := 7) (N := some 65) (v := undef) (a' := ?_) #[true, true, true, true, true, true, true, true, false, false, false, false, false, false, false, false, false, false] rfl rfl (any_of HT_.out (by kernel_rfl)) (fun _ _ _ h => h) (Or.inr ⟨by rfl, rfl⟩) ?_ ?_
                    rotate_left
                    · simp only [Act.put, List.setIfInBounds_toArray, List.set_cons_zero, List.set_cons_succ, i64_w, i32_w]
                      rfl
                    refine pure_ (i := 8) (N := some 66) (v := undef) (a' := ?_) #[true, true, true, true, true, true, true, true, true, false, false, false, false, false, false, false, false, false] rfl rfl (any_of HT_.out (by kernel_rfl)) (fun _ _ _ h => h) (Or.inr ⟨by rfl, rfl⟩) ?_ ?_
                    rotate_left
                    · simp only [Act.put, List.setIfInBounds_toArray, List.set_cons_zero, List.set_cons_succ, i64_w, i32_w]
                      rfl
                    refine pure_ (i := 9) (N := some 67) (v := undef) (a' := ?_) #[true, true, true, true, true, true, true, true, true, true, false, false, false, false, false, false, false, false] rfl rfl (any_of HT_.out (by kernel_rfl)) (fun _ _ _ h => h) (Or.inr ⟨by rfl, rfl⟩) ?_ ?_
                    rotate_left
                    · simp only [Act.put, List.setIfInBounds_toArray, List.set_cons_zero, List.set_cons_succ, i64_w, i32_w]
                      rfl
                    refine pure_ (i := 10) (N := some 68) (v := undef) (a' := ?_) #[true, true, true, true, true, true, true, true, true, true, true, false, false, false, false, false, false, false] rfl rfl (any_of HT_.out (by kernel_rfl)) (fun _ _ _ h => h) (Or.inr ⟨by rfl, rfl⟩) ?_ ?_
                    rotate_left
                    · simp only [Act.put, List.setIfInBounds_toArray, List.set_cons_zero, List.set_cons_succ, i64_w, i32_w]
                      rfl
                    refine pure_ (i := 11) (N := some 69) (v := undef) (a' := ?_) #[true, true, true, true, true, true, true, true, true, true, true, true, false, false, false, false, false, false] rfl rfl (any_of HT_.out (by kernel_rfl)) (fun _ _ _ h => h) (Or.inr ⟨by rfl, rfl⟩) ?_ ?_
                    rotate_left
                    · simp only [Act.put, List.setIfInBounds_toArray, List.set_cons_zero, List.set_cons_succ, i64_w, i32_w]
                      rfl
                    refine pure_ (i := 12) (N := some 70) (v := undef) (a' := ?_) #[true, true, true, true, true, true, true, true, true, true, true, true, true, false, false, false, false, false] rfl rfl (any_of HT_.out (by kernel_rfl)) (fun _ _ _ h => h) (Or.inr ⟨by rfl, rfl⟩) ?_ ?_
                    rotate_left
                    · simp only [Act.put, List.setIfInBounds_toArray, List.set_cons_zero, List.set_cons_succ, i64_w, i32_w]
                      rfl
                    refine pure_ (i := 13) (N := some 71) (v := ?_) (a' := ?_) #[true, true, true, true, true, true, true, true, true, true, true, true, true, true, false, false, false, false] rfl rfl (any_of HT_.out (by kernel_rfl)) (fun _ _ _ h => h) (Or.inl ⟨by rfl, ?_⟩) ?_ ?_
                    rotate_left
                    · intro w'
                      go_simp
                      with_reducible rfl
                    rotate_left
                    · simp only [Act.put, List.setIfInBounds_toArray, List.set_cons_zero, List.set_cons_succ, i64_w, i32_w]
                      rfl
                    refine pure_ (i := 14) (N := some 72) (v := ?_) (a' := ?_) #[true, true, true, true, true, true, true, true, true, true, true, true, true, true, true, false, false, false] rfl rfl (any_of HT_.out (by kernel_rfl)) (fun _ _ _ h => h) (Or.inl ⟨by rfl, ?_⟩) ?_ ?_
                    rotate_left
                    · intro w'
                      go_simp
                      with_reducible rfl
                    rotate_left
                    · simp only [Act.put, List.setIfInBounds_toArray, List.set_cons_zero, List.set_cons_succ, i64_w, i32_w]
                      rfl
                    refine pure_ (i := 15) (N := some 73) (v := undef) (a' := ?_) #[true, true, true, true, true, true, true, true, true, true, true, true, true, true, true, true, false, false] rfl rfl (any_of HT_.out (by kernel_rfl)) (fun _ _ _ h => h) (Or.inr ⟨by rfl, rfl⟩) ?_ ?_
                    rotate_left
                    · simp only [Act.put, List.setIfInBounds_toArray, List.set_cons_zero, List.set_cons_succ, i64_w, i32_w]
                      rfl
                    refine pure_ (i := 16) (N := some 74) (v := ?_) (a' := ?_) #[true, true, true, true, true, true, true, true, true, true, true, true, true, true, true, true, true, false] rfl rfl (any_of HT_.out (by kernel_rfl)) (fun _ _ _ h => h) (Or.inl ⟨by rfl, ?_⟩) ?_ ?_
                    rotate_left
                    · intro w'
                      go_simp
                      with_reducible rfl
                    rotate_left
                    · simp only [Act.put, List.setIfInBounds_toArray, List.set_cons_zero, List.set_cons_succ, i64_w, i32_w]
                      rfl
                    refine pure_ (i := 17) (N := some 6) (v := ?_) (a' := ?_) #[true, true, true, true, true, true, true, true, true, true, true, true, true, true, true, true, true, true] rfl rfl (any_of HT_.out (by kernel_rfl)) (fun _ _ _ h => h) (Or.inl ⟨by rfl, ?_⟩) ?_ ?_
                    rotate_left
                    · intro w'
                      go_simp
                      with_reducible rfl
                    rotate_left
                    · simp only [Act.put, List.setIfInBounds_toArray, List.set_cons_zero, List.set_cons_succ, i64_w, i32_w]
                      rfl
                    refine done_ (done_of HT_.out (by kernel_rfl)) ?_
                    try go_wp2
                    go_ret
                    exact ⟨by first | rfl | (simp [errV_none, errV_some] <;> rfl) | (simp [*, errV_none, errV_some] <;> rfl), by repeat (first | (with_reducible first | exact HB.out | apply below_alloc | apply pw_below_drewN | apply below_drew1 | refine below_set ?_ GE139.out) | exact HB.out)⟩
          · rw [if_neg c9] at H
            exact absurd H (by simp)
        · replace c8 := Bool.eq_false_iff.mpr c8
          subst c8
          have H1 : ((laws_folderAwake.f).bind fun t117 => (some t117)) = some r := by rw [if_neg (show ¬ (false = true) by decide)] at H; exact H
          clear H
          have H := H1
          clear H1
          replace H := Option.bind_eq_some_iff.mp H
          obtain ⟨t117, A450, H⟩ := H
          replace H : (some t117) = some r := H
          have A45 := Aside0.mk A450
          clear A450
          obtain rfl := Option.some.inj H
          go_wp2_with (first | ((with_reducible refine gate_callee (f := 29) rfl ?_); refine goesL_ (some 25) rfl rfl Tryd.func29 (by kernel_rfl) rfl #[.slice A1 l1.length c1, .slice A2 l2.length c2] rfl (by (try simp only [List.map_toArray, List.map_cons, List.map_nil]); first | done | rfl | (simp only [List.length_drop, List.length_take]; rfl)) ?_; (with_reducible refine (laws_fewSizes.calls kj3 _ _ l1 _ _ l2 false _ ?side1 ?side2 ?side3 ?side4 A7.out).mono ?_); (case side1 => repeat (first | exact (Kd.C_below HR1.out HB.out) | (with_reducible refine Kd.C_alloc ?_ _) | (with_reducible refine Kd.C_drewN ?_ _) | (with_reducible refine Kd.C_drew ?_))); (case side2 => exact HC1.out); (case side3 => repeat (first | exact (Kd.C_below HR2.out HB.out) | (with_reducible refine Kd.C_alloc ?_ _) | (with_reducible refine Kd.C_drewN ?_ _) | (with_reducible refine Kd.C_drew ?_))); (case side4 => exact HC2.out); rintro e w' ⟨rfl, ⟨nd, rfl⟩⟩; refine ⟨_, rfl, ?_⟩) | ((with_reducible refine gate_callee (f := 25) rfl ?_); refine goesL_ (some 27) rfl rfl Tryd.func25 (by kernel_rfl) rfl #[] rfl (by (try simp only [List.map_toArray, List.map_cons, List.map_nil]); first | done | rfl | (simp only [List.length_drop, List.length_take]; rfl)) ?_; (with_reducible refine (laws_folderAwake.calls  t117 _ A45.out).mono ?_); rintro e w46 ⟨rfl, hb⟩; refine ⟨_, rfl, ?_⟩; have n0_ := Aside0.mk (below_step (by repeat (first | (with_reducible first | exact HB.out | apply below_alloc | apply pw_below_drewN | apply below_drew1) | exact HB.out)) hb); clear HB; have HB := n0_; clear n0_; (try clear hb); (try clear hb2); (try clear hk); (try clear hi)))
          go_ret
          exact ⟨by first | rfl | (simp [errV_none, errV_some] <;> rfl) | (simp [*, errV_none, errV_some] <;> rfl), by repeat (first | (with_reducible first | exact HB.out | apply below_alloc | apply pw_below_drewN | apply below_drew1) | exact HB.out)⟩

/-- THE ONE PURE STATEMENT of laws_FnFieldsBack: yours. -/
def laws_FnFieldsBack.Pure : Prop := ∀ (a0 : Int) (l1 : List Int) (l2 : List Int), (Lit.int .u8 a0).wf = true → l1.length ≤ maxLen → l1.length * 1 ≤ 140737488351232 → (∀ x ∈ l1, (Lit.int .u8 x).wf = true) → l2.length ≤ maxLen → l2.length * 8 ≤ 140737488351232 → (∀ x ∈ l2, (Lit.int .u64 x).wf = true) → ∃ k, laws_FnFieldsBack.f k a0 l1 l2 = some true
theorem laws_FnFieldsBack.walk (P : laws_FnFieldsBack.Pure) (a0 : Int) (a1 : Option Addr) (len1 cap1 : Nat) (z1 : List Int) (a2 : Option Addr) (len2 cap2 : Nat) (z2 : List Int) (w : World) (w0 : (Lit.int .u8 a0).wf = true) (w1 : (a1 = none ∧ len1 = 0 ∧ cap1 = 0 ∧ z1 = []) ∨ ∃ x, a1 = some x ∧ len1 ≤ cap1 ∧ cap1 ≤ maxLen ∧ z1.length = cap1 ∧ (∀ i, i < z1.length → w.cell? (x.add i) = some (.int .u8 (z1.getD i 0))) ∧ ∀ n ∈ z1, (Lit.int .u8 n).wf = true) (y1 : len1 * 1 ≤ 140737488351232) (w2 : (a2 = none ∧ len2 = 0 ∧ cap2 = 0 ∧ z2 = []) ∨ ∃ x, a2 = some x ∧ len2 ≤ cap2 ∧ cap2 ≤ maxLen ∧ z2.length = cap2 ∧ (∀ i, i < z2.length → w.cell? (x.add i) = some (.int .u64 (z2.getD i 0))) ∧ ∀ n ∈ z2, (Lit.int .u64 n).wf = true) (y2 : len2 * 8 ≤ 140737488351232) :
    Calls Tryd.prog 8 #[.int .u8 a0, .slice a1 len1 cap1, .slice a2 len2 cap2] w fun e w' => e = .returned (.bool true) ∧ Below w.heap.size w w' := by
  obtain ⟨l1, rfl, hr1, hm1, hw1, hc1⟩ := ReadsInt.ofRowC w1
  obtain ⟨l2, rfl, hr2, hm2, hw2, hc2⟩ := ReadsInt.ofRowC w2
  obtain ⟨k, h⟩ := P a0 l1 l2 w0 hm1 y1 hw1 hm2 y2 hw2
  refine (laws_FnFieldsBack.calls k a0 _ _ l1 _ _ l2 true w (Kd.C_of_reads (d := (0 : Int)) (h1 := fun _ => rfl) hr1) hc1 (Kd.C_of_reads (d := (0 : Int)) (h1 := fun _ => rfl) hr2) hc2 h).mono ?_
  rintro e w' ⟨rfl, hd⟩
  exact ⟨rfl, hd⟩

end Go.Proofs.YtnhnlodmkbiiiaaDoor.PFnFieldsBack
