/- Printed by a program of this session (it drives the print of the kit, with contracts proved by hand beside): the Go functions of one law as Lean functions, and that the Go code comes to what they say. -/
import Derived.Test.YtbmeegkgcipmoaaPFnPathSplitx0
import Derived.Test.YtbmeegkgcipmoaaPFnPathSplitx1
import Derived.Test.YtbmeegkgcipmoaaPFnPathSplitx3
import Derived.Test.YtbmeegkgcipmoaaPFnPathSplitx4
import Derived.Test.YtbmeegkgcipmoaaPFnPathSplitx6
import Derived.Test.YtbmeegkgcipmoaaPFnPathSplitx7
import Derived.Test.YtbmeegkgcipmoaaPFnPathSplitx8
namespace Go.Proofs.Ytbmeegkgcipmoaa.PFnPathSplit
open Go.RowKit Go.Proofs.YtbmeegkgcipmoaaL Go.Proofs.YtbmeegkgcipmoaaW.PrintWords Go.Proofs.YtbmeegkgcipmoaaW.PrintLast Go.Proofs.YtbmeegkgcipmoaaW.PrintMore
attribute [local go_sem] max2_int min2_int max_two min_two max_three min_three max_four min_four   -- for this text's walks alone
set_option linter.unusedVariables false
set_option linter.unusedSimpArgs false

/-! ### laws_FnPathSplit: function 8 -/
mutual
def laws_FnPathSplit.j0 : Nat → ByteArray → List ByteArray → Bool → Option (Bool)
  | 0, _, _, _ => none
  | k + 1, x0, x1, x14 => if x14 = true then (some true) else (if (x0.size : Int) > 2000 then (laws_FnPathSplit.j1 k x0 x1 true) else (if (x1.length : Int) > 100 then (laws_FnPathSplit.j1 k x0 x1 true) else ((slices_ContainsFunc_string_string_FnPathSplit_1.f k x1 ()).bind fun t168 => (laws_FnPathSplit.j1 k x0 x1 t168))))
def laws_FnPathSplit.j1 : Nat → ByteArray → List ByteArray → Bool → Option (Bool)
  | 0, _, _, _ => none
  | k + 1, x0, x1, x26 => if x26 = true then ((laws_segmentsLive.f k).bind fun t169 => (some t169)) else ((impl_PathSplit.f k x0).bind fun t170 => ((spec_Split.f k x0).bind fun t173 => ((slices_Equal_string_string.f k t170 t173).bind fun t176 => (if t176 = true then ((impl_PathJoined.f t170).bind fun t177 => (if t177.toList = x0.toList then ((impl_PathJoined.f x1).bind fun t178 => ((spec_Join.f k x1).bind fun t179 => (laws_FnPathSplit.j2 k x1 (t178.toList != t179.toList)))) else (laws_FnPathSplit.j2 k x1 true))) else (laws_FnPathSplit.j2 k x1 true)))))
def laws_FnPathSplit.j2 : Nat → List ByteArray → Bool → Option (Bool)
  | 0, _, _ => none
  | k + 1, x1, x47 => if x47 = true then (some false) else (if (x1.length : Int) > 0 then ((slices_ContainsFunc_string_string_FnPathSplit_2.f k x1 ()).bind fun t180 => (laws_FnPathSplit.j3 k x1 (!t180))) else (laws_FnPathSplit.j3 k x1 false))
def laws_FnPathSplit.j3 : Nat → List ByteArray → Bool → Option (Bool)
  | 0, _, _ => none
  | k + 1, x1, x6 => if x6 = true then ((impl_PathJoined.f x1).bind fun t181 => ((impl_PathSplit.f k t181).bind fun t182 => ((slices_Equal_string_string.f k t182 x1).bind fun t185 => (if t185 = true then ((laws_segmentsLive.f k).bind fun t186 => (some t186)) else (some false))))) else ((laws_segmentsLive.f k).bind fun t187 => (some t187))
end
def laws_FnPathSplit.f (k : Nat) (a0 : ByteArray) (l1 : List ByteArray) : Option (Bool) := if (a0.size : Int) > 2147483647 then (laws_FnPathSplit.j0 k a0 l1 true) else ((laws_zzFits6.f k l1).bind fun t167 => (laws_FnPathSplit.j0 k a0 l1 (!t167)))
theorem laws_FnPathSplit.mono_l : ∀ k, (∀ y0 y1 y2, LeO (laws_FnPathSplit.j0 k y0 y1 y2) (laws_FnPathSplit.j0 (k + 1) y0 y1 y2)) ∧ (∀ y0 y1 y2, LeO (laws_FnPathSplit.j1 k y0 y1 y2) (laws_FnPathSplit.j1 (k + 1) y0 y1 y2)) ∧ (∀ y0 y1, LeO (laws_FnPathSplit.j2 k y0 y1) (laws_FnPathSplit.j2 (k + 1) y0 y1)) ∧ (∀ y0 y1, LeO (laws_FnPathSplit.j3 k y0 y1) (laws_FnPathSplit.j3 (k + 1) y0 y1))
  | 0 => ⟨fun _ _ _ r h => by simp [laws_FnPathSplit.j0] at h, fun _ _ _ r h => by simp [laws_FnPathSplit.j1] at h, fun _ _ r h => by simp [laws_FnPathSplit.j2] at h, fun _ _ r h => by simp [laws_FnPathSplit.j3] at h⟩
  | k + 1 => by
    obtain ⟨ih0, ih1, ih2, ih3⟩ := laws_FnPathSplit.mono_l k
    refine ⟨?_, ?_, ?_, ?_⟩
    · intro y0 y1 y2
      unfold laws_FnPathSplit.j0
      repeat' first
      | (with_reducible exact ih0 _ _ _)
      | (with_reducible exact ih1 _ _ _)
      | (with_reducible exact ih2 _ _)
      | (with_reducible exact ih3 _ _)
      | (with_reducible exact impl_PathSplit.mono _ _)
      | (with_reducible exact laws_segmentsLive.mono _)
      | (with_reducible exact laws_zzFits6.mono _ _)
      | (with_reducible exact slices_ContainsFunc_string_string_FnPathSplit_1.mono _ _ _)
      | (with_reducible exact slices_ContainsFunc_string_string_FnPathSplit_2.mono _ _ _)
      | (with_reducible exact slices_Equal_string_string.mono _ _ _)
      | (with_reducible exact spec_Join.mono _ _)
      | (with_reducible exact spec_Split.mono _ _)
      | (with_reducible exact LeO.refl _)
      | (with_reducible exact LeO.none _)
      | (with_reducible refine LeO.ite ?_ ?_)
      | (with_reducible refine LeO.bind ?_ (fun _ => ?_))
      | exact ih0 _ _ _
      | exact ih1 _ _ _
      | exact ih2 _ _
      | exact ih3 _ _
      | exact impl_PathSplit.mono _ _
      | exact laws_segmentsLive.mono _
      | exact laws_zzFits6.mono _ _
      | exact slices_ContainsFunc_string_string_FnPathSplit_1.mono _ _ _
      | exact slices_ContainsFunc_string_string_FnPathSplit_2.mono _ _ _
      | exact slices_Equal_string_string.mono _ _ _
      | exact spec_Join.mono _ _
      | exact spec_Split.mono _ _
      | exact LeO.none _
      | refine LeO.ite ?_ ?_
      | refine LeO.bind ?_ (fun _ => ?_)
    · intro y0 y1 y2
      unfold laws_FnPathSplit.j1
      repeat' first
      | (with_reducible exact ih0 _ _ _)
      | (with_reducible exact ih1 _ _ _)
      | (with_reducible exact ih2 _ _)
      | (with_reducible exact ih3 _ _)
      | (with_reducible exact impl_PathSplit.mono _ _)
      | (with_reducible exact laws_segmentsLive.mono _)
      | (with_reducible exact laws_zzFits6.mono _ _)
      | (with_reducible exact slices_ContainsFunc_string_string_FnPathSplit_1.mono _ _ _)
      | (with_reducible exact slices_ContainsFunc_string_string_FnPathSplit_2.mono _ _ _)
      | (with_reducible exact slices_Equal_string_string.mono _ _ _)
      | (with_reducible exact spec_Join.mono _ _)
      | (with_reducible exact spec_Split.mono _ _)
      | (with_reducible exact LeO.refl _)
      | (with_reducible exact LeO.none _)
      | (with_reducible refine LeO.ite ?_ ?_)
      | (with_reducible refine LeO.bind ?_ (fun _ => ?_))
      | exact ih0 _ _ _
      | exact ih1 _ _ _
      | exact ih2 _ _
      | exact ih3 _ _
      | exact impl_PathSplit.mono _ _
      | exact laws_segmentsLive.mono _
      | exact laws_zzFits6.mono _ _
      | exact slices_ContainsFunc_string_string_FnPathSplit_1.mono _ _ _
      | exact slices_ContainsFunc_string_string_FnPathSplit_2.mono _ _ _
      | exact slices_Equal_string_string.mono _ _ _
      | exact spec_Join.mono _ _
      | exact spec_Split.mono _ _
      | exact LeO.none _
      | refine LeO.ite ?_ ?_
      | refine LeO.bind ?_ (fun _ => ?_)
    · intro y0 y1
      unfold laws_FnPathSplit.j2
      repeat' first
      | (with_reducible exact ih0 _ _ _)
      | (with_reducible exact ih1 _ _ _)
      | (with_reducible exact ih2 _ _)
      | (with_reducible exact ih3 _ _)
      | (with_reducible exact impl_PathSplit.mono _ _)
      | (with_reducible exact laws_segmentsLive.mono _)
      | (with_reducible exact laws_zzFits6.mono _ _)
      | (with_reducible exact slices_ContainsFunc_string_string_FnPathSplit_1.mono _ _ _)
      | (with_reducible exact slices_ContainsFunc_string_string_FnPathSplit_2.mono _ _ _)
      | (with_reducible exact slices_Equal_string_string.mono _ _ _)
      | (with_reducible exact spec_Join.mono _ _)
      | (with_reducible exact spec_Split.mono _ _)
      | (with_reducible exact LeO.refl _)
      | (with_reducible exact LeO.none _)
      | (with_reducible refine LeO.ite ?_ ?_)
      | (with_reducible refine LeO.bind ?_ (fun _ => ?_))
      | exact ih0 _ _ _
      | exact ih1 _ _ _
      | exact ih2 _ _
      | exact ih3 _ _
      | exact impl_PathSplit.mono _ _
      | exact laws_segmentsLive.mono _
      | exact laws_zzFits6.mono _ _
      | exact slices_ContainsFunc_string_string_FnPathSplit_1.mono _ _ _
      | exact slices_ContainsFunc_string_string_FnPathSplit_2.mono _ _ _
      | exact slices_Equal_string_string.mono _ _ _
      | exact spec_Join.mono _ _
      | exact spec_Split.mono _ _
      | exact LeO.none _
      | refine LeO.ite ?_ ?_
      | refine LeO.bind ?_ (fun _ => ?_)
    · intro y0 y1
      unfold laws_FnPathSplit.j3
      repeat' first
      | (with_reducible exact ih0 _ _ _)
      | (with_reducible exact ih1 _ _ _)
      | (with_reducible exact ih2 _ _)
      | (with_reducible exact ih3 _ _)
      | (with_reducible exact impl_PathSplit.mono _ _)
      | (with_reducible exact laws_segmentsLive.mono _)
      | (with_reducible exact laws_zzFits6.mono _ _)
      | (with_reducible exact slices_ContainsFunc_string_string_FnPathSplit_1.mono _ _ _)
      | (with_reducible exact slices_ContainsFunc_string_string_FnPathSplit_2.mono _ _ _)
      | (with_reducible exact slices_Equal_string_string.mono _ _ _)
      | (with_reducible exact spec_Join.mono _ _)
      | (with_reducible exact spec_Split.mono _ _)
      | (with_reducible exact LeO.refl _)
      | (with_reducible exact LeO.none _)
      | (with_reducible refine LeO.ite ?_ ?_)
      | (with_reducible refine LeO.bind ?_ (fun _ => ?_))
      | exact ih0 _ _ _
      | exact ih1 _ _ _
      | exact ih2 _ _
      | exact ih3 _ _
      | exact impl_PathSplit.mono _ _
      | exact laws_segmentsLive.mono _
      | exact laws_zzFits6.mono _ _
      | exact slices_ContainsFunc_string_string_FnPathSplit_1.mono _ _ _
      | exact slices_ContainsFunc_string_string_FnPathSplit_2.mono _ _ _
      | exact slices_Equal_string_string.mono _ _ _
      | exact spec_Join.mono _ _
      | exact spec_Split.mono _ _
      | exact LeO.none _
      | refine LeO.ite ?_ ?_
      | refine LeO.bind ?_ (fun _ => ?_)
theorem laws_FnPathSplit.mono : ∀ a0 a1 k, LeO (laws_FnPathSplit.f k a0 a1) (laws_FnPathSplit.f (k + 1) a0 a1) := by
  intro a0 a1 k
  obtain ⟨ih0, ih1, ih2, ih3⟩ := laws_FnPathSplit.mono_l k
  unfold laws_FnPathSplit.f
  repeat' first
      | (with_reducible exact ih0 _ _ _)
      | (with_reducible exact ih1 _ _ _)
      | (with_reducible exact ih2 _ _)
      | (with_reducible exact ih3 _ _)
      | (with_reducible exact impl_PathSplit.mono _ _)
      | (with_reducible exact laws_segmentsLive.mono _)
      | (with_reducible exact laws_zzFits6.mono _ _)
      | (with_reducible exact slices_ContainsFunc_string_string_FnPathSplit_1.mono _ _ _)
      | (with_reducible exact slices_ContainsFunc_string_string_FnPathSplit_2.mono _ _ _)
      | (with_reducible exact slices_Equal_string_string.mono _ _ _)
      | (with_reducible exact spec_Join.mono _ _)
      | (with_reducible exact spec_Split.mono _ _)
      | (with_reducible exact LeO.refl _)
      | (with_reducible exact LeO.none _)
      | (with_reducible refine LeO.ite ?_ ?_)
      | (with_reducible refine LeO.bind ?_ (fun _ => ?_))
      | exact ih0 _ _ _
      | exact ih1 _ _ _
      | exact ih2 _ _
      | exact ih3 _ _
      | exact impl_PathSplit.mono _ _
      | exact laws_segmentsLive.mono _
      | exact laws_zzFits6.mono _ _
      | exact slices_ContainsFunc_string_string_FnPathSplit_1.mono _ _ _
      | exact slices_ContainsFunc_string_string_FnPathSplit_2.mono _ _ _
      | exact slices_Equal_string_string.mono _ _ _
      | exact spec_Join.mono _ _
      | exact spec_Split.mono _ _
      | exact LeO.none _
      | refine LeO.ite ?_ ?_
      | refine LeO.bind ?_ (fun _ => ?_)
set_option maxHeartbeats 8000000 in
set_option maxRecDepth 100000 in
theorem laws_FnPathSplit.calls (k : Nat) (a0 : ByteArray) (A1 : Option Addr) (c1 : Nat) (l1 : List ByteArray) (r : Bool) (w : World) (hr1 : Kd.C Kd.string w A1 l1.length l1) (hc1 : l1.length ≤ c1) (h : laws_FnPathSplit.f k a0 l1 = some r) :
    Calls Try.prog 8 #[.string a0, .slice A1 l1.length c1] w fun e w' => e = .returned (.bool r) ∧ Below w.heap.size w w' := by
  have HR1 := Aside0.mk hr1
  have HC1 := Aside0.mk hc1
  clear hr1 hc1
  have HB := Aside0.mk (Below.refl w.heap.size w)
  have H : (if (a0.size : Int) > 2147483647 then (laws_FnPathSplit.j0 k a0 l1 true) else ((laws_zzFits6.f k l1).bind fun t167 => (laws_FnPathSplit.j0 k a0 l1 (!t167)))) = some r := h
  clear h
  have HC3 := Aside0.mk H
  clear H
  go_enter Try.func8, Try.ntmps8
  go_upto_region 1 with (fail)
  go_cut [14] (fun v14 wc => ∃ (kq : Nat) (x14_2 : Bool), v14 = .bool x14_2 ∧ Aside0 (laws_FnPathSplit.j0 kq a0 l1 x14_2 = some r) ∧ Aside0 (kq ≤ k) ∧ Aside0 (Below w.heap.size w wc))
  case first =>
    have H := HC3.out
    clear HC3
    by_cases c4 : (a0.size : Int) > 2147483647
    · rw [if_pos c4] at H
      have c4b0 : decide (2147483647 < (a0.size : Int)) = true := decide_eq_true c4
      have c4b1 : decide (2147483647 < a0.size) = true := decide_eq_true (by omega)
      clear c4
      (first | rw [c4b0] | (simp only [i64_w, i32_w]; rw [c4b0]) | skip)
      have H' := Aside0.mk H
      clear H
      go_wp2
      go_meet
      case rel => exact ⟨_, (true), (by first | rfl | (simp; done) | (simp [*]; done)), H', ⟨by first | omega | exact Nat.le_refl _⟩, ⟨by repeat (first | (with_reducible first | exact HB.out | apply below_alloc | apply pw_below_drewN | apply below_drew1) | exact HB.out)⟩⟩
    · rw [if_neg c4] at H
      have c4b0 : decide (2147483647 < (a0.size : Int)) = false := decide_eq_false c4
      have c4b1 : decide (2147483647 < a0.size) = false := decide_eq_false (by omega)
      clear c4
      (first | rw [c4b0] | (simp only [i64_w, i32_w]; rw [c4b0]) | skip)
      replace H := Option.bind_eq_some_iff.mp H
      obtain ⟨t167, A50, H⟩ := H
      replace H : (laws_FnPathSplit.j0 k a0 l1 (!t167)) = some r := H
      have A5 := Aside0.mk A50
      clear A50
      have H' := Aside0.mk H
      clear H
      go_wp2_with (first | (go_at_call 31; (with_reducible refine (laws_zzFits6.calls k _ _ l1 t167 _ ?side1 ?side2 A5.out).mono ?_); (case side1 => repeat (first | exact (Kd.C_below HR1.out HB.out) | (with_reducible refine Kd.C_alloc ?_ _) | (with_reducible refine Kd.C_drewN ?_ _) | (with_reducible refine Kd.C_drew ?_))); (case side2 => exact HC1.out); rintro e w' ⟨rfl, ⟨nd, rfl⟩⟩))
      go_meet
      case rel => exact ⟨_, (!t167), (by first | rfl | (simp; done) | (simp [*]; done)), H', ⟨by first | omega | exact Nat.le_refl _⟩, ⟨by repeat (first | (with_reducible first | exact HB.out | apply below_alloc | apply pw_below_drewN | apply below_drew1) | exact HB.out)⟩⟩
  case rest =>
    clear HC3
    try clear c1
    try clear p2
    try clear c4
    try clear c4b0
    try clear c4b1
    obtain ⟨kq, x14_2, rfl, HA, HJ2, HB⟩ := hcut
    cases kq with
    | zero => exact absurd HA.out (by simp [laws_FnPathSplit.j0])
    | succ kj2 =>
      have H := HA.out
      clear HA
      simp only [laws_FnPathSplit.j0] at H
      by_cases c6 : x14_2 = true
      · subst c6
        have H1 : (some true) = some r := by rw [if_pos rfl] at H; exact H
        clear H
        have H := H1
        clear H1
        obtain rfl := Option.some.inj H
        go_wp2
        go_ret
        exact ⟨by first | rfl | (simp [errV_none, errV_some] <;> rfl) | (simp [*, errV_none, errV_some] <;> rfl), by repeat (first | (with_reducible first | exact HB.out | apply below_alloc | apply pw_below_drewN | apply below_drew1) | exact HB.out)⟩
      · replace c6 := Bool.eq_false_iff.mpr c6
        subst c6
        have H1 : (if (a0.size : Int) > 2000 then (laws_FnPathSplit.j1 kj2 a0 l1 true) else (if (l1.length : Int) > 100 then (laws_FnPathSplit.j1 kj2 a0 l1 true) else ((slices_ContainsFunc_string_string_FnPathSplit_1.f kj2 l1 ()).bind fun t168 => (laws_FnPathSplit.j1 kj2 a0 l1 t168)))) = some r := by rw [if_neg (show ¬ (false = true) by decide)] at H; exact H
        clear H
        have H := H1
        clear H1
        have HC7 := Aside0.mk H
        clear H
        go_upto_region 3 with (fail)
        go_cut [26] (fun v26 wc => ∃ (kq : Nat) (x26_6 : Bool), v26 = .bool x26_6 ∧ Aside0 (laws_FnPathSplit.j1 kq a0 l1 x26_6 = some r) ∧ Aside0 (kq ≤ kj2) ∧ Aside0 (Below w.heap.size w wc))
        case first =>
          have H := HC7.out
          clear HC7
          by_cases c8 : (a0.size : Int) > 2000
          · rw [if_pos c8] at H
            have c8b0 : decide (2000 < (a0.size : Int)) = true := decide_eq_true c8
            have c8b1 : decide (2000 < a0.size) = true := decide_eq_true (by omega)
            clear c8
            (first | rw [c8b0] | (simp only [i64_w, i32_w]; rw [c8b0]) | skip)
            have H' := Aside0.mk H
            clear H
            go_wp2
            go_meet
            case rel => exact ⟨_, (true), (by first | rfl | (simp; done) | (simp [*]; done)), H', ⟨by have := HJ2.out; first | omega | exact Nat.le_refl _⟩, ⟨by repeat (first | (with_reducible first | exact HB.out | apply below_alloc | apply pw_below_drewN | apply below_drew1) | exact HB.out)⟩⟩
          · rw [if_neg c8] at H
            have c8b0 : decide (2000 < (a0.size : Int)) = false := decide_eq_false c8
            have c8b1 : decide (2000 < a0.size) = false := decide_eq_false (by omega)
            clear c8
            (first | rw [c8b0] | (simp only [i64_w, i32_w]; rw [c8b0]) | skip)
            by_cases c9 : (l1.length : Int) > 100
            · rw [if_pos c9] at H
              have c9b0 : decide (100 < (l1.length : Int)) = true := decide_eq_true c9
              have c9b1 : decide (100 < l1.length) = true := decide_eq_true (by omega)
              clear c9
              have H' := Aside0.mk H
              clear H
              go_wp2
              go_meet
              case rel => exact ⟨_, (true), (by first | rfl | (simp; done) | (simp [*]; done)), H', ⟨by have := HJ2.out; first | omega | exact Nat.le_refl _⟩, ⟨by repeat (first | (with_reducible first | exact HB.out | apply below_alloc | apply pw_below_drewN | apply below_drew1) | exact HB.out)⟩⟩
            · rw [if_neg c9] at H
              have c9b0 : decide (100 < (l1.length : Int)) = false := decide_eq_false c9
              have c9b1 : decide (100 < l1.length) = false := decide_eq_false (by omega)
              clear c9
              replace H := Option.bind_eq_some_iff.mp H
              obtain ⟨t168, A100, H⟩ := H
              replace H : (laws_FnPathSplit.j1 kj2 a0 l1 t168) = some r := H
              have A10 := Aside0.mk A100
              clear A100
              have H' := Aside0.mk H
              clear H
              go_wp2_with (first | (go_at_call 32; (with_reducible refine (slices_ContainsFunc_string_string_FnPathSplit_1.calls kj2 _ _ l1 () t168 _ ?side1 ?side2 A10.out).mono ?_); (case side1 => repeat (first | exact (Kd.C_below HR1.out HB.out) | (with_reducible refine Kd.C_alloc ?_ _) | (with_reducible refine Kd.C_drewN ?_ _) | (with_reducible refine Kd.C_drew ?_))); (case side2 => exact HC1.out); rintro e w' ⟨rfl, ⟨nd, rfl⟩⟩))
              go_meet
              case rel => exact ⟨_, (t168), (by first | rfl | (simp; done) | (simp [*]; done)), H', ⟨by have := HJ2.out; first | omega | exact Nat.le_refl _⟩, ⟨by repeat (first | (with_reducible first | exact HB.out | apply below_alloc | apply pw_below_drewN | apply below_drew1) | exact HB.out)⟩⟩
        case rest =>
          clear HC7
          try clear c1
          try clear p2
          try clear c4
          try clear c4b0
          try clear c4b1
          try clear c6
          try clear c8
          try clear c8b0
          try clear c8b1
          try clear c9
          try clear c9b0
          try clear c9b1
          try clear p2
          obtain ⟨kq, x26_6, rfl, HA, HJ6, HB⟩ := hcut
          cases kq with
          | zero => exact absurd HA.out (by simp [laws_FnPathSplit.j1])
          | succ kj6 =>
            have H := HA.out
            clear HA
            simp only [laws_FnPathSplit.j1] at H
            by_cases c11 : x26_6 = true
            · subst c11
              have H1 : ((laws_segmentsLive.f kj6).bind fun t169 => (some t169)) = some r := by rw [if_pos rfl] at H; exact H
              clear H
              have H := H1
              clear H1
              replace H := Option.bind_eq_some_iff.mp H
              obtain ⟨t169, A120, H⟩ := H
              replace H : (some t169) = some r := H
              have A12 := Aside0.mk A120
              clear A120
              obtain rfl := Option.some.inj H
              go_wp2_with (first | ((with_reducible refine gate_callee (f := 22) rfl ?_); refine goesL_ (some 27) rfl rfl Try.func22 (by kernel_rfl) rfl #[] rfl (by (try simp only [List.map_toArray, List.map_cons, List.map_nil]); first | done | rfl | (simp only [List.length_drop, List.length_take]; rfl)) ?_; (with_reducible refine (laws_segmentsLive.calls kj6  t169 _ A12.out).mono ?_); rintro e w13 ⟨rfl, hb⟩; refine ⟨_, rfl, ?_⟩; have n0_ := Aside0.mk (below_step (by repeat (first | (with_reducible first | exact HB.out | apply below_alloc | apply pw_below_drewN | apply below_drew1) | exact HB.out)) hb); clear HB; have HB := n0_; clear n0_; (try clear hb); (try clear hb2); (try clear hk); (try clear hi)))
              go_ret
              exact ⟨by first | rfl | (simp [errV_none, errV_some] <;> rfl) | (simp [*, errV_none, errV_some] <;> rfl), by repeat (first | (with_reducible first | exact HB.out | apply below_alloc | apply pw_below_drewN | apply below_drew1) | exact HB.out)⟩
            · replace c11 := Bool.eq_false_iff.mpr c11
              subst c11
              have H1 : ((impl_PathSplit.f kj6 a0).bind fun t170 => ((spec_Split.f kj6 a0).bind fun t173 => ((slices_Equal_string_string.f kj6 t170 t173).bind fun t176 => (if t176 = true then ((impl_PathJoined.f t170).bind fun t177 => (if t177.toList = a0.toList then ((impl_PathJoined.f l1).bind fun t178 => ((spec_Join.f kj6 l1).bind fun t179 => (laws_FnPathSplit.j2 kj6 l1 (t178.toList != t179.toList)))) else (laws_FnPathSplit.j2 kj6 l1 true))) else (laws_FnPathSplit.j2 kj6 l1 true))))) = some r := by rw [if_neg (show ¬ (false = true) by decide)] at H; exact H
              clear H
              have H := H1
              clear H1
              replace H := Option.bind_eq_some_iff.mp H
              obtain ⟨t170, A140, H⟩ := H
              replace H : ((spec_Split.f kj6 a0).bind fun t173 => ((slices_Equal_string_string.f kj6 t170 t173).bind fun t176 => (if t176 = true then ((impl_PathJoined.f t170).bind fun t177 => (if t177.toList = a0.toList then ((impl_PathJoined.f l1).bind fun t178 => ((spec_Join.f kj6 l1).bind fun t179 => (laws_FnPathSplit.j2 kj6 l1 (t178.toList != t179.toList)))) else (laws_FnPathSplit.j2 kj6 l1 true))) else (laws_FnPathSplit.j2 kj6 l1 true)))) = some r := H
              have A14 := Aside0.mk A140
              clear A140
              have HC15 := Aside0.mk H
              clear H
              go_upto_region 6 with (first | ((with_reducible refine gate_callee (f := 34) rfl ?_); refine goesL_ (some 29) rfl rfl Try.func34 (by kernel_rfl) rfl #[.string a0] rfl (by (try simp only [List.map_toArray, List.map_cons, List.map_nil]); first | done | rfl | (simp only [List.length_drop, List.length_take]; rfl)) ?_; (with_reducible refine (impl_PathSplit.calls kj6 a0 t170 _ A14.out).mono ?_); rintro e w16 ⟨v171, rfl, ho0, hb⟩; refine ⟨_, rfl, ?_⟩; have n0_ := Aside0.mk (Kd.R_lower ho0 (below_size (by repeat (first | (with_reducible first | exact HB.out | apply below_alloc | apply pw_below_drewN | apply below_drew1) | exact HB.out)))); have n1_ := Aside0.mk (below_step (by repeat (first | (with_reducible first | exact HB.out | apply below_alloc | apply pw_below_drewN | apply below_drew1) | exact HB.out)) hb); clear HB; have HO172 := n0_; have HB := n1_; clear n0_ n1_; (try clear hb); (try clear hb2); (try clear hk); (try clear hi); (try clear ho0)))
              (try simp only [Act.put, List.setIfInBounds_toArray, List.set_cons_zero, List.set_cons_succ])
              go_cut [47] (fun v47 wc => ∃ (kq : Nat) (x47_14 : Bool), v47 = .bool x47_14 ∧ Aside0 (laws_FnPathSplit.j2 kq l1 x47_14 = some r) ∧ Aside0 (kq ≤ kj6) ∧ Aside0 (Below w.heap.size w wc))
              case first =>
                have H := HC15.out
                clear HC15
                replace H := Option.bind_eq_some_iff.mp H
                obtain ⟨t173, A170, H⟩ := H
                replace H : ((slices_Equal_string_string.f kj6 t170 t173).bind fun t176 => (if t176 = true then ((impl_PathJoined.f t170).bind fun t177 => (if t177.toList = a0.toList then ((impl_PathJoined.f l1).bind fun t178 => ((spec_Join.f kj6 l1).bind fun t179 => (laws_FnPathSplit.j2 kj6 l1 (t178.toList != t179.toList)))) else (laws_FnPathSplit.j2 kj6 l1 true))) else (laws_FnPathSplit.j2 kj6 l1 true))) = some r := H
                have A17 := Aside0.mk A170
                clear A170
                replace H := Option.bind_eq_some_iff.mp H
                obtain ⟨t176, A180, H⟩ := H
                replace H : (if t176 = true then ((impl_PathJoined.f t170).bind fun t177 => (if t177.toList = a0.toList then ((impl_PathJoined.f l1).bind fun t178 => ((spec_Join.f kj6 l1).bind fun t179 => (laws_FnPathSplit.j2 kj6 l1 (t178.toList != t179.toList)))) else (laws_FnPathSplit.j2 kj6 l1 true))) else (laws_FnPathSplit.j2 kj6 l1 true)) = some r := H
                have A18 := Aside0.mk A180
                clear A180
                by_cases c19 : t176 = true
                · subst c19
                  have H1 : ((impl_PathJoined.f t170).bind fun t177 => (if t177.toList = a0.toList then ((impl_PathJoined.f l1).bind fun t178 => ((spec_Join.f kj6 l1).bind fun t179 => (laws_FnPathSplit.j2 kj6 l1 (t178.toList != t179.toList)))) else (laws_FnPathSplit.j2 kj6 l1 true))) = some r := by rw [if_pos rfl] at H; exact H
                  clear H
                  have H := H1
                  clear H1
                  replace H := Option.bind_eq_some_iff.mp H
                  obtain ⟨t177, A200, H⟩ := H
                  replace H : (if t177.toList = a0.toList then ((impl_PathJoined.f l1).bind fun t178 => ((spec_Join.f kj6 l1).bind fun t179 => (laws_FnPathSplit.j2 kj6 l1 (t178.toList != t179.toList)))) else (laws_FnPathSplit.j2 kj6 l1 true)) = some r := H
                  have A20 := Aside0.mk A200
                  clear A200
                  by_cases c21 : t177.toList = a0.toList
                  · rw [if_pos c21] at H
                    have c21b0 : (t177.toList == a0.toList) = true := beq_iff_eq.mpr c21
                    have c21b1 : (t177.toList != a0.toList) = false := bne_eq_false_iff_eq.mpr c21
                    clear c21
                    (first | rw [c21b0] | (simp only [i64_w, i32_w]; rw [c21b0]) | skip)
                    replace H := Option.bind_eq_some_iff.mp H
                    obtain ⟨t178, A220, H⟩ := H
                    replace H : ((spec_Join.f kj6 l1).bind fun t179 => (laws_FnPathSplit.j2 kj6 l1 (t178.toList != t179.toList))) = some r := H
                    have A22 := Aside0.mk A220
                    clear A220
                    replace H := Option.bind_eq_some_iff.mp H
                    obtain ⟨t179, A230, H⟩ := H
                    replace H : (laws_FnPathSplit.j2 kj6 l1 (t178.toList != t179.toList)) = some r := H
                    have A23 := Aside0.mk A230
                    clear A230
                    have H' := Aside0.mk H
                    clear H
                    go_wp2_with (first | ((with_reducible refine gate_callee (f := 35) rfl ?_); refine goesL_ (some 32) rfl rfl Try.func35 (by kernel_rfl) rfl #[.string a0] rfl (by (try simp only [List.map_toArray, List.map_cons, List.map_nil]); first | done | rfl | (simp only [List.length_drop, List.length_take]; rfl)) ?_; (with_reducible refine (spec_Split.calls kj6 a0 t173 _ A17.out).mono ?_); rintro e w24 ⟨v174, rfl, ho0, hb⟩; refine ⟨_, rfl, ?_⟩; have n0_ := Aside0.mk (Kd.R_elder' (by (with_reducible repeat (first | apply Kd.R_alloc | apply Kd.R_drewN | apply Kd.R_drew)); exact HO172.out) (Kd.R_base ho0) hb); have n1_ := Aside0.mk (Kd.R_lower (Kd.R_new' ho0 (Kd.R_lt (by (with_reducible repeat (first | apply Kd.R_alloc | apply Kd.R_drewN | apply Kd.R_drew)); exact HO172.out))) (below_size (by repeat (first | (with_reducible first | exact HB.out | apply below_alloc | apply pw_below_drewN | apply below_drew1) | exact HB.out)))); have n2_ := Aside0.mk (below_step (by repeat (first | (with_reducible first | exact HB.out | apply below_alloc | apply pw_below_drewN | apply below_drew1) | exact HB.out)) hb); clear HO172; clear HB; have HO172 := n0_; have HO175 := n1_; have HB := n2_; clear n0_ n1_ n2_; (try clear hb); (try clear hb2); (try clear hk); (try clear hi); (try clear ho0); obtain ⟨Ao25, co25, eo25⟩ := Kd.R_slice HO172.out; subst eo25; obtain ⟨Ao26, co26, eo26⟩ := Kd.R_slice HO175.out; subst eo26) | ((with_reducible refine gate_callee (f := 23) rfl ?_); refine goesL_ (some 33) rfl rfl Try.func23 (by kernel_rfl) rfl #[.slice Ao25 t170.length co25, .slice Ao26 t173.length co26] rfl (by (try simp only [List.map_toArray, List.map_cons, List.map_nil]); first | done | rfl | (simp only [List.length_drop, List.length_take]; rfl)) ?_; (with_reducible refine (slices_Equal_string_string.calls kj6 _ _ t170 _ _ t173 true _ ?side1 ?side2 ?side3 ?side4 A18.out).mono ?_); (case side1 => repeat (first | exact (Kd.R_reads' HO172.out).2.2 | (with_reducible refine Kd.C_alloc ?_ _) | (with_reducible refine Kd.C_drewN ?_ _) | (with_reducible refine Kd.C_drew ?_))); (case side2 => exact (Kd.R_reads' HO172.out).2.1); (case side3 => repeat (first | exact (Kd.R_reads' HO175.out).2.2 | (with_reducible refine Kd.C_alloc ?_ _) | (with_reducible refine Kd.C_drewN ?_ _) | (with_reducible refine Kd.C_drew ?_))); (case side4 => exact (Kd.R_reads' HO175.out).2.1); rintro e w' ⟨rfl, ⟨nd, rfl⟩⟩; refine ⟨_, rfl, ?_⟩) | (go_at_call 36; (with_reducible refine (impl_PathJoined.calls _ _ t170 t177 _ ?side1 ?side2 A20.out).mono ?_); (case side1 => repeat (first | exact (Kd.R_reads' HO172.out).2.2 | (with_reducible refine Kd.C_alloc ?_ _) | (with_reducible refine Kd.C_drewN ?_ _) | (with_reducible refine Kd.C_drew ?_))); (case side2 => exact (Kd.R_reads' HO172.out).2.1); rintro e w27 ⟨rfl, hb⟩; have n0_ := Aside0.mk (Kd.R_below (by (with_reducible repeat (first | apply Kd.R_alloc | apply Kd.R_drewN | apply Kd.R_drew)); exact HO172.out) hb); have n1_ := Aside0.mk (Kd.R_below (by (with_reducible repeat (first | apply Kd.R_alloc | apply Kd.R_drewN | apply Kd.R_drew)); exact HO175.out) hb); have n2_ := Aside0.mk (below_step (by repeat (first | (with_reducible first | exact HB.out | apply below_alloc | apply pw_below_drewN | apply below_drew1) | exact HB.out)) hb); clear HO172; clear HO175; clear HB; have HO172 := n0_; have HO175 := n1_; have HB := n2_; clear n0_ n1_ n2_; (try clear hb); (try clear hb2); (try clear hk); (try clear hi)) | (go_at_call 36; (with_reducible refine (impl_PathJoined.calls _ _ l1 t178 _ ?side1 ?side2 A22.out).mono ?_); (case side1 => repeat (first | exact (Kd.C_below HR1.out HB.out) | (with_reducible refine Kd.C_alloc ?_ _) | (with_reducible refine Kd.C_drewN ?_ _) | (with_reducible refine Kd.C_drew ?_))); (case side2 => exact HC1.out); rintro e w28 ⟨rfl, hb⟩; have n0_ := Aside0.mk (Kd.R_below (by (with_reducible repeat (first | apply Kd.R_alloc | apply Kd.R_drewN | apply Kd.R_drew)); exact HO172.out) hb); have n1_ := Aside0.mk (Kd.R_below (by (with_reducible repeat (first | apply Kd.R_alloc | apply Kd.R_drewN | apply Kd.R_drew)); exact HO175.out) hb); have n2_ := Aside0.mk (below_step (by repeat (first | (with_reducible first | exact HB.out | apply below_alloc | apply pw_below_drewN | apply below_drew1) | exact HB.out)) hb); clear HO172; clear HO175; clear HB; have HO172 := n0_; have HO175 := n1_; have HB := n2_; clear n0_ n1_ n2_; (try clear hb); (try clear hb2); (try clear hk); (try clear hi)) | (go_at_call 37; (with_reducible refine (spec_Join.calls kj6 _ _ l1 t179 _ ?side1 ?side2 A23.out).mono ?_); (case side1 => repeat (first | exact (Kd.C_below HR1.out HB.out) | (with_reducible refine Kd.C_alloc ?_ _) | (with_reducible refine Kd.C_drewN ?_ _) | (with_reducible refine Kd.C_drew ?_))); (case side2 => exact HC1.out); rintro e w' ⟨rfl, ⟨nd, rfl⟩⟩))
                    go_meet
                    case rel => exact ⟨_, ((t178.toList != t179.toList)), (by first | rfl | (simp; done) | (simp [*]; done)), H', ⟨by have := HJ2.out; have := HJ6.out; first | omega | exact Nat.le_refl _⟩, ⟨by repeat (first | (with_reducible first | exact HB.out | apply below_alloc | apply pw_below_drewN | apply below_drew1) | exact HB.out)⟩⟩
                  · rw [if_neg c21] at H
                    have c21b0 : (t177.toList == a0.toList) = false := beq_eq_false_iff_ne.mpr c21
                    have c21b1 : (t177.toList != a0.toList) = true := bne_iff_ne.mpr c21
                    (first | rw [c21b0] | (simp only [i64_w, i32_w]; rw [c21b0]) | skip)
                    have H' := Aside0.mk H
                    clear H
                    go_wp2_with (first | ((with_reducible refine gate_callee (f := 35) rfl ?_); refine goesL_ (some 32) rfl rfl Try.func35 (by kernel_rfl) rfl #[.string a0] rfl (by (try simp only [List.map_toArray, List.map_cons, List.map_nil]); first | done | rfl | (simp only [List.length_drop, List.length_take]; rfl)) ?_; (with_reducible refine (spec_Split.calls kj6 a0 t173 _ A17.out).mono ?_); rintro e w29 ⟨v174, rfl, ho0, hb⟩; refine ⟨_, rfl, ?_⟩; have n0_ := Aside0.mk (Kd.R_elder' (by (with_reducible repeat (first | apply Kd.R_alloc | apply Kd.R_drewN | apply Kd.R_drew)); exact HO172.out) (Kd.R_base ho0) hb); have n1_ := Aside0.mk (Kd.R_lower (Kd.R_new' ho0 (Kd.R_lt (by (with_reducible repeat (first | apply Kd.R_alloc | apply Kd.R_drewN | apply Kd.R_drew)); exact HO172.out))) (below_size (by repeat (first | (with_reducible first | exact HB.out | apply below_alloc | apply pw_below_drewN | apply below_drew1) | exact HB.out)))); have n2_ := Aside0.mk (below_step (by repeat (first | (with_reducible first | exact HB.out | apply below_alloc | apply pw_below_drewN | apply below_drew1) | exact HB.out)) hb); clear HO172; clear HB; have HO172 := n0_; have HO175 := n1_; have HB := n2_; clear n0_ n1_ n2_; (try clear hb); (try clear hb2); (try clear hk); (try clear hi); (try clear ho0); obtain ⟨Ao30, co30, eo30⟩ := Kd.R_slice HO172.out; subst eo30; obtain ⟨Ao31, co31, eo31⟩ := Kd.R_slice HO175.out; subst eo31) | ((with_reducible refine gate_callee (f := 23) rfl ?_); refine goesL_ (some 33) rfl rfl Try.func23 (by kernel_rfl) rfl #[.slice Ao30 t170.length co30, .slice Ao31 t173.length co31] rfl (by (try simp only [List.map_toArray, List.map_cons, List.map_nil]); first | done | rfl | (simp only [List.length_drop, List.length_take]; rfl)) ?_; (with_reducible refine (slices_Equal_string_string.calls kj6 _ _ t170 _ _ t173 true _ ?side1 ?side2 ?side3 ?side4 A18.out).mono ?_); (case side1 => repeat (first | exact (Kd.R_reads' HO172.out).2.2 | (with_reducible refine Kd.C_alloc ?_ _) | (with_reducible refine Kd.C_drewN ?_ _) | (with_reducible refine Kd.C_drew ?_))); (case side2 => exact (Kd.R_reads' HO172.out).2.1); (case side3 => repeat (first | exact (Kd.R_reads' HO175.out).2.2 | (with_reducible refine Kd.C_alloc ?_ _) | (with_reducible refine Kd.C_drewN ?_ _) | (with_reducible refine Kd.C_drew ?_))); (case side4 => exact (Kd.R_reads' HO175.out).2.1); rintro e w' ⟨rfl, ⟨nd, rfl⟩⟩; refine ⟨_, rfl, ?_⟩) | (go_at_call 36; (with_reducible refine (impl_PathJoined.calls _ _ t170 t177 _ ?side1 ?side2 A20.out).mono ?_); (case side1 => repeat (first | exact (Kd.R_reads' HO172.out).2.2 | (with_reducible refine Kd.C_alloc ?_ _) | (with_reducible refine Kd.C_drewN ?_ _) | (with_reducible refine Kd.C_drew ?_))); (case side2 => exact (Kd.R_reads' HO172.out).2.1); rintro e w32 ⟨rfl, hb⟩; have n0_ := Aside0.mk (Kd.R_below (by (with_reducible repeat (first | apply Kd.R_alloc | apply Kd.R_drewN | apply Kd.R_drew)); exact HO172.out) hb); have n1_ := Aside0.mk (Kd.R_below (by (with_reducible repeat (first | apply Kd.R_alloc | apply Kd.R_drewN | apply Kd.R_drew)); exact HO175.out) hb); have n2_ := Aside0.mk (below_step (by repeat (first | (with_reducible first | exact HB.out | apply below_alloc | apply pw_below_drewN | apply below_drew1) | exact HB.out)) hb); clear HO172; clear HO175; clear HB; have HO172 := n0_; have HO175 := n1_; have HB := n2_; clear n0_ n1_ n2_; (try clear hb); (try clear hb2); (try clear hk); (try clear hi)))
                    go_meet
                    case rel => exact ⟨_, (true), (by first | rfl | (simp; done) | (simp [*]; done)), H', ⟨by have := HJ2.out; have := HJ6.out; first | omega | exact Nat.le_refl _⟩, ⟨by repeat (first | (with_reducible first | exact HB.out | apply below_alloc | apply pw_below_drewN | apply below_drew1) | exact HB.out)⟩⟩
                · replace c19 := Bool.eq_false_iff.mpr c19
                  subst c19
                  have H1 : (laws_FnPathSplit.j2 kj6 l1 true) = some r := by rw [if_neg (show ¬ (false = true) by decide)] at H; exact H
                  clear H
                  have H := H1
                  clear H1
                  have H' := Aside0.mk H
                  clear H
                  go_wp2_with (first | ((with_reducible refine gate_callee (f := 35) rfl ?_); refine goesL_ (some 32) rfl rfl Try.func35 (by kernel_rfl) rfl #[.string a0] rfl (by (try simp only [List.map_toArray, List.map_cons, List.map_nil]); first | done | rfl | (simp only [List.length_drop, List.length_take]; rfl)) ?_; (with_reducible refine (spec_Split.calls kj6 a0 t173 _ A17.out).mono ?_); rintro e w33 ⟨v174, rfl, ho0, hb⟩; refine ⟨_, rfl, ?_⟩; have n0_ := Aside0.mk (Kd.R_elder' (by (with_reducible repeat (first | apply Kd.R_alloc | apply Kd.R_drewN | apply Kd.R_drew)); exact HO172.out) (Kd.R_base ho0) hb); have n1_ := Aside0.mk (Kd.R_lower (Kd.R_new' ho0 (Kd.R_lt (by (with_reducible repeat (first | apply Kd.R_alloc | apply Kd.R_drewN | apply Kd.R_drew)); exact HO172.out))) (below_size (by repeat (first | (with_reducible first | exact HB.out | apply below_alloc | apply pw_below_drewN | apply below_drew1) | exact HB.out)))); have n2_ := Aside0.mk (below_step (by repeat (first | (with_reducible first | exact HB.out | apply below_alloc | apply pw_below_drewN | apply below_drew1) | exact HB.out)) hb); clear HO172; clear HB; have HO172 := n0_; have HO175 := n1_; have HB := n2_; clear n0_ n1_ n2_; (try clear hb); (try clear hb2); (try clear hk); (try clear hi); (try clear ho0); obtain ⟨Ao34, co34, eo34⟩ := Kd.R_slice HO172.out; subst eo34; obtain ⟨Ao35, co35, eo35⟩ := Kd.R_slice HO175.out; subst eo35) | ((with_reducible refine gate_callee (f := 23) rfl ?_); refine goesL_ (some 33) rfl rfl Try.func23 (by kernel_rfl) rfl #[.slice Ao34 t170.length co34, .slice Ao35 t173.length co35] rfl (by (try simp only [List.map_toArray, List.map_cons, List.map_nil]); first | done | rfl | (simp only [List.length_drop, List.length_take]; rfl)) ?_; (with_reducible refine (slices_Equal_string_string.calls kj6 _ _ t170 _ _ t173 false _ ?side1 ?side2 ?side3 ?side4 A18.out).mono ?_); (case side1 => repeat (first | exact (Kd.R_reads' HO172.out).2.2 | (with_reducible refine Kd.C_alloc ?_ _) | (with_reducible refine Kd.C_drewN ?_ _) | (with_reducible refine Kd.C_drew ?_))); (case side2 => exact (Kd.R_reads' HO172.out).2.1); (case side3 => repeat (first | exact (Kd.R_reads' HO175.out).2.2 | (with_reducible refine Kd.C_alloc ?_ _) | (with_reducible refine Kd.C_drewN ?_ _) | (with_reducible refine Kd.C_drew ?_))); (case side4 => exact (Kd.R_reads' HO175.out).2.1); rintro e w' ⟨rfl, ⟨nd, rfl⟩⟩; refine ⟨_, rfl, ?_⟩))
                  go_meet
                  case rel => exact ⟨_, (true), (by first | rfl | (simp; done) | (simp [*]; done)), H', ⟨by have := HJ2.out; have := HJ6.out; first | omega | exact Nat.le_refl _⟩, ⟨by repeat (first | (with_reducible first | exact HB.out | apply below_alloc | apply pw_below_drewN | apply below_drew1) | exact HB.out)⟩⟩
              case rest =>
                clear HC15
                try clear c1
                try clear c2
                try clear p2
                try clear c3
                try clear c4
                try clear c4b0
                try clear c4b1
                try clear c6
                try clear c8
                try clear c8b0
                try clear c8b1
                try clear c9
                try clear c9b0
                try clear c9b1
                try clear c11
                try clear c19
                try clear c21
                try clear c21b0
                try clear c21b1
                try clear c22
                try clear c23
                try clear c34
                try clear c35
                try clear p2
                obtain ⟨kq, x47_14, rfl, HA, HJ14, HB⟩ := hcut
                cases kq with
                | zero => exact absurd HA.out (by simp [laws_FnPathSplit.j2])
                | succ kj14 =>
                  have H := HA.out
                  clear HA
                  simp only [laws_FnPathSplit.j2] at H
                  by_cases c36 : x47_14 = true
                  · subst c36
                    have H1 : (some false) = some r := by rw [if_pos rfl] at H; exact H
                    clear H
                    have H := H1
                    clear H1
                    obtain rfl := Option.some.inj H
                    go_wp2
                    go_ret
                    exact ⟨by first | rfl | (simp [errV_none, errV_some] <;> rfl) | (simp [*, errV_none, errV_some] <;> rfl), by repeat (first | (with_reducible first | exact HB.out | apply below_alloc | apply pw_below_drewN | apply below_drew1) | exact HB.out)⟩
                  · replace c36 := Bool.eq_false_iff.mpr c36
                    subst c36
                    have H1 : (if (l1.length : Int) > 0 then ((slices_ContainsFunc_string_string_FnPathSplit_2.f kj14 l1 ()).bind fun t180 => (laws_FnPathSplit.j3 kj14 l1 (!t180))) else (laws_FnPathSplit.j3 kj14 l1 false)) = some r := by rw [if_neg (show ¬ (false = true) by decide)] at H; exact H
                    clear H
                    have H := H1
                    clear H1
                    have HC37 := Aside0.mk H
                    clear H
                    go_upto_region 8 with (fail)
                    go_cut [6] (fun v6 wc => ∃ (kq : Nat) (x6_36 : Bool), v6 = .bool x6_36 ∧ Aside0 (laws_FnPathSplit.j3 kq l1 x6_36 = some r) ∧ Aside0 (kq ≤ kj14) ∧ Aside0 (Below w.heap.size w wc))
                    case first =>
                      have H := HC37.out
                      clear HC37
                      by_cases c38 : (l1.length : Int) > 0
                      · rw [if_pos c38] at H
                        have c38b0 : decide (0 < (l1.length : Int)) = true := decide_eq_true c38
                        have c38b1 : decide (0 < l1.length) = true := decide_eq_true (by omega)
                        clear c38
                        (first | rw [c38b0] | (simp only [i64_w, i32_w]; rw [c38b0]) | skip)
                        replace H := Option.bind_eq_some_iff.mp H
                        obtain ⟨t180, A390, H⟩ := H
                        replace H : (laws_FnPathSplit.j3 kj14 l1 (!t180)) = some r := H
                        have A39 := Aside0.mk A390
                        clear A390
                        have H' := Aside0.mk H
                        clear H
                        go_wp2_with (first | (go_at_call 32; (with_reducible refine (slices_ContainsFunc_string_string_FnPathSplit_2.calls kj14 _ _ l1 () t180 _ ?side1 ?side2 A39.out).mono ?_); (case side1 => repeat (first | exact (Kd.C_below HR1.out HB.out) | (with_reducible refine Kd.C_alloc ?_ _) | (with_reducible refine Kd.C_drewN ?_ _) | (with_reducible refine Kd.C_drew ?_))); (case side2 => exact HC1.out); rintro e w40 ⟨rfl, hb⟩; have n0_ := Aside0.mk (below_step (by repeat (first | (with_reducible first | exact HB.out | apply below_alloc | apply pw_below_drewN | apply below_drew1) | exact HB.out)) hb); clear HB; have HB := n0_; clear n0_; (try clear hb); (try clear hb2); (try clear hk); (try clear hi)))
                        go_meet
                        case rel => exact ⟨_, (!t180), (by first | rfl | (simp; done) | (simp [*]; done)), H', ⟨by have := HJ2.out; have := HJ6.out; have := HJ14.out; first | omega | exact Nat.le_refl _⟩, ⟨by repeat (first | (with_reducible first | exact HB.out | apply below_alloc | apply pw_below_drewN | apply below_drew1) | exact HB.out)⟩⟩
                      · rw [if_neg c38] at H
                        have c38b0 : decide (0 < (l1.length : Int)) = false := decide_eq_false c38
                        have c38b1 : decide (0 < l1.length) = false := decide_eq_false (by omega)
                        clear c38
                        (first | rw [c38b0] | (simp only [i64_w, i32_w]; rw [c38b0]) | skip)
                        have H' := Aside0.mk H
                        clear H
                        go_wp2
                        go_meet
                        case rel => exact ⟨_, (false), (by first | rfl | (simp; done) | (simp [*]; done)), H', ⟨by have := HJ2.out; have := HJ6.out; have := HJ14.out; first | omega | exact Nat.le_refl _⟩, ⟨by repeat (first | (with_reducible first | exact HB.out | apply below_alloc | apply pw_below_drewN | apply below_drew1) | exact HB.out)⟩⟩
                    case rest =>
                      clear HC37
                      try clear c1
                      try clear c2
                      try clear p2
                      try clear c3
                      try clear c4
                      try clear c4b0
                      try clear c4b1
                      try clear c6
                      try clear c8
                      try clear c8b0
                      try clear c8b1
                      try clear c9
                      try clear c9b0
                      try clear c9b1
                      try clear c11
                      try clear c19
                      try clear c21
                      try clear c21b0
                      try clear c21b1
                      try clear c22
                      try clear c23
                      try clear c34
                      try clear c35
                      try clear c36
                      try clear c38
                      try clear c38b0
                      try clear c38b1
                      try clear p2
                      obtain ⟨kq, x6_36, rfl, HA, HJ36, HB⟩ := hcut
                      cases kq with
                      | zero => exact absurd HA.out (by simp [laws_FnPathSplit.j3])
                      | succ kj36 =>
                        have H := HA.out
                        clear HA
                        simp only [laws_FnPathSplit.j3] at H
                        by_cases c41 : x6_36 = true
                        · subst c41
                          have H1 : ((impl_PathJoined.f l1).bind fun t181 => ((impl_PathSplit.f kj36 t181).bind fun t182 => ((slices_Equal_string_string.f kj36 t182 l1).bind fun t185 => (if t185 = true then ((laws_segmentsLive.f kj36).bind fun t186 => (some t186)) else (some false))))) = some r := by rw [if_pos rfl] at H; exact H
                          clear H
                          have H := H1
                          clear H1
                          replace H := Option.bind_eq_some_iff.mp H
                          obtain ⟨t181, A420, H⟩ := H
                          replace H : ((impl_PathSplit.f kj36 t181).bind fun t182 => ((slices_Equal_string_string.f kj36 t182 l1).bind fun t185 => (if t185 = true then ((laws_segmentsLive.f kj36).bind fun t186 => (some t186)) else (some false)))) = some r := H
                          have A42 := Aside0.mk A420
                          clear A420
                          replace H := Option.bind_eq_some_iff.mp H
                          obtain ⟨t182, A430, H⟩ := H
                          replace H : ((slices_Equal_string_string.f kj36 t182 l1).bind fun t185 => (if t185 = true then ((laws_segmentsLive.f kj36).bind fun t186 => (some t186)) else (some false))) = some r := H
                          have A43 := Aside0.mk A430
                          clear A430
                          replace H := Option.bind_eq_some_iff.mp H
                          obtain ⟨t185, A440, H⟩ := H
                          replace H : (if t185 = true then ((laws_segmentsLive.f kj36).bind fun t186 => (some t186)) else (some false)) = some r := H
                          have A44 := Aside0.mk A440
                          clear A440
                          by_cases c45 : t185 = true
                          · subst c45
                            have H1 : ((laws_segmentsLive.f kj36).bind fun t186 => (some t186)) = some r := by rw [if_pos rfl] at H; exact H
                            clear H
                            have H := H1
                            clear H1
                            replace H := Option.bind_eq_some_iff.mp H
                            obtain ⟨t186, A460, H⟩ := H
                            replace H : (some t186) = some r := H
                            have A46 := Aside0.mk A460
                            clear A460
                            obtain rfl := Option.some.inj H
                            go_wp2_with (first | (go_at_call 36; (with_reducible refine (impl_PathJoined.calls _ _ l1 t181 _ ?side1 ?side2 A42.out).mono ?_); (case side1 => repeat (first | exact (Kd.C_below HR1.out HB.out) | (with_reducible refine Kd.C_alloc ?_ _) | (with_reducible refine Kd.C_drewN ?_ _) | (with_reducible refine Kd.C_drew ?_))); (case side2 => exact HC1.out); rintro e w47 ⟨rfl, hb⟩; have n0_ := Aside0.mk (below_step (by repeat (first | (with_reducible first | exact HB.out | apply below_alloc | apply pw_below_drewN | apply below_drew1) | exact HB.out)) hb); clear HB; have HB := n0_; clear n0_; (try clear hb); (try clear hb2); (try clear hk); (try clear hi)) | (go_at_call 34; (with_reducible refine (impl_PathSplit.calls kj36 t181 t182 _ A43.out).mono ?_); rintro e w48 ⟨v183, rfl, ho0, hb⟩; have n0_ := Aside0.mk (Kd.R_lower ho0 (below_size (by repeat (first | (with_reducible first | exact HB.out | apply below_alloc | apply pw_below_drewN | apply below_drew1) | exact HB.out)))); have n1_ := Aside0.mk (below_step (by repeat (first | (with_reducible first | exact HB.out | apply below_alloc | apply pw_below_drewN | apply below_drew1) | exact HB.out)) hb); clear HB; have HO184 := n0_; have HB := n1_; clear n0_ n1_; (try clear hb); (try clear hb2); (try clear hk); (try clear hi); (try clear ho0); obtain ⟨Ao49, co49, eo49⟩ := Kd.R_slice HO184.out; subst eo49) | (go_at_call 23; (with_reducible refine (slices_Equal_string_string.calls kj36 _ _ t182 _ _ l1 true _ ?side1 ?side2 ?side3 ?side4 A44.out).mono ?_); (case side1 => repeat (first | exact (Kd.R_reads' HO184.out).2.2 | (with_reducible refine Kd.C_alloc ?_ _) | (with_reducible refine Kd.C_drewN ?_ _) | (with_reducible refine Kd.C_drew ?_))); (case side2 => exact (Kd.R_reads' HO184.out).2.1); (case side3 => repeat (first | exact (Kd.C_below HR1.out HB.out) | (with_reducible refine Kd.C_alloc ?_ _) | (with_reducible refine Kd.C_drewN ?_ _) | (with_reducible refine Kd.C_drew ?_))); (case side4 => exact HC1.out); rintro e w' ⟨rfl, ⟨nd, rfl⟩⟩) | (go_at_call 22; (with_reducible refine (laws_segmentsLive.calls kj36  t186 _ A46.out).mono ?_); rintro e w50 ⟨rfl, hb⟩; have n0_ := Aside0.mk (Kd.R_below (by (with_reducible repeat (first | apply Kd.R_alloc | apply Kd.R_drewN | apply Kd.R_drew)); exact HO184.out) hb); have n1_ := Aside0.mk (below_step (by repeat (first | (with_reducible first | exact HB.out | apply below_alloc | apply pw_below_drewN | apply below_drew1) | exact HB.out)) hb); clear HO184; clear HB; have HO184 := n0_; have HB := n1_; clear n0_ n1_; (try clear hb); (try clear hb2); (try clear hk); (try clear hi)))
                            go_ret
                            exact ⟨by first | rfl | (simp [errV_none, errV_some] <;> rfl) | (simp [*, errV_none, errV_some] <;> rfl), by repeat (first | (with_reducible first | exact HB.out | apply below_alloc | apply pw_below_drewN | apply below_drew1) | exact HB.out)⟩
                          · replace c45 := Bool.eq_false_iff.mpr c45
                            subst c45
                            have H1 : (some false) = some r := by rw [if_neg (show ¬ (false = true) by decide)] at H; exact H
                            clear H
                            have H := H1
                            clear H1
                            obtain rfl := Option.some.inj H
                            go_wp2_with (first | (go_at_call 36; (with_reducible refine (impl_PathJoined.calls _ _ l1 t181 _ ?side1 ?side2 A42.out).mono ?_); (case side1 => repeat (first | exact (Kd.C_below HR1.out HB.out) | (with_reducible refine Kd.C_alloc ?_ _) | (with_reducible refine Kd.C_drewN ?_ _) | (with_reducible refine Kd.C_drew ?_))); (case side2 => exact HC1.out); rintro e w51 ⟨rfl, hb⟩; have n0_ := Aside0.mk (below_step (by repeat (first | (with_reducible first | exact HB.out | apply below_alloc | apply pw_below_drewN | apply below_drew1) | exact HB.out)) hb); clear HB; have HB := n0_; clear n0_; (try clear hb); (try clear hb2); (try clear hk); (try clear hi)) | (go_at_call 34; (with_reducible refine (impl_PathSplit.calls kj36 t181 t182 _ A43.out).mono ?_); rintro e w52 ⟨v183, rfl, ho0, hb⟩; have n0_ := Aside0.mk (Kd.R_lower ho0 (below_size (by repeat (first | (with_reducible first | exact HB.out | apply below_alloc | apply pw_below_drewN | apply below_drew1) | exact HB.out)))); have n1_ := Aside0.mk (below_step (by repeat (first | (with_reducible first | exact HB.out | apply below_alloc | apply pw_below_drewN | apply below_drew1) | exact HB.out)) hb); clear HB; have HO184 := n0_; have HB := n1_; clear n0_ n1_; (try clear hb); (try clear hb2); (try clear hk); (try clear hi); (try clear ho0); obtain ⟨Ao53, co53, eo53⟩ := Kd.R_slice HO184.out; subst eo53) | (go_at_call 23; (with_reducible refine (slices_Equal_string_string.calls kj36 _ _ t182 _ _ l1 false _ ?side1 ?side2 ?side3 ?side4 A44.out).mono ?_); (case side1 => repeat (first | exact (Kd.R_reads' HO184.out).2.2 | (with_reducible refine Kd.C_alloc ?_ _) | (with_reducible refine Kd.C_drewN ?_ _) | (with_reducible refine Kd.C_drew ?_))); (case side2 => exact (Kd.R_reads' HO184.out).2.1); (case side3 => repeat (first | exact (Kd.C_below HR1.out HB.out) | (with_reducible refine Kd.C_alloc ?_ _) | (with_reducible refine Kd.C_drewN ?_ _) | (with_reducible refine Kd.C_drew ?_))); (case side4 => exact HC1.out); rintro e w' ⟨rfl, ⟨nd, rfl⟩⟩))
                            go_ret
                            exact ⟨by first | rfl | (simp [errV_none, errV_some] <;> rfl) | (simp [*, errV_none, errV_some] <;> rfl), by repeat (first | (with_reducible first | exact HB.out | apply below_alloc | apply pw_below_drewN | apply below_drew1) | exact HB.out)⟩
                        · replace c41 := Bool.eq_false_iff.mpr c41
                          subst c41
                          have H1 : ((laws_segmentsLive.f kj36).bind fun t187 => (some t187)) = some r := by rw [if_neg (show ¬ (false = true) by decide)] at H; exact H
                          clear H
                          have H := H1
                          clear H1
                          replace H := Option.bind_eq_some_iff.mp H
                          obtain ⟨t187, A540, H⟩ := H
                          replace H : (some t187) = some r := H
                          have A54 := Aside0.mk A540
                          clear A540
                          obtain rfl := Option.some.inj H
                          go_wp2_with (first | (go_at_call 22; (with_reducible refine (laws_segmentsLive.calls kj36  t187 _ A54.out).mono ?_); rintro e w55 ⟨rfl, hb⟩; have n0_ := Aside0.mk (below_step (by repeat (first | (with_reducible first | exact HB.out | apply below_alloc | apply pw_below_drewN | apply below_drew1) | exact HB.out)) hb); clear HB; have HB := n0_; clear n0_; (try clear hb); (try clear hb2); (try clear hk); (try clear hi)))
                          go_ret
                          exact ⟨by first | rfl | (simp [errV_none, errV_some] <;> rfl) | (simp [*, errV_none, errV_some] <;> rfl), by repeat (first | (with_reducible first | exact HB.out | apply below_alloc | apply pw_below_drewN | apply below_drew1) | exact HB.out)⟩

/-- THE ONE PURE STATEMENT of laws_FnPathSplit: yours. -/
def laws_FnPathSplit.Pure : Prop := ∀ (a0 : ByteArray) (l1 : List ByteArray), a0.size ≤ 140737488351232 → l1.length ≤ maxLen → ∃ k, laws_FnPathSplit.f k a0 l1 = some true
theorem laws_FnPathSplit.walk (P : laws_FnPathSplit.Pure) (a0 : ByteArray) (a1 : Option Addr) (len1 cap1 : Nat) (z1 : List ByteArray) (w : World) (w0 : a0.size ≤ 140737488351232) (w1 : IsStrs w a1 len1 cap1 z1) :
    Calls Try.prog 8 #[.string a0, .slice a1 len1 cap1] w fun e w' => e = .returned (.bool true) ∧ Below w.heap.size w w' := by
  obtain ⟨l1, rfl, hr1, hm1, hc1⟩ := strs_ofRowC w1
  obtain ⟨k, h⟩ := P a0 l1 w0 hm1
  refine (laws_FnPathSplit.calls k a0 _ _ l1 true w hr1 hc1 h).mono ?_
  rintro e w' ⟨rfl, hd⟩
  exact ⟨rfl, hd⟩

end Go.Proofs.Ytbmeegkgcipmoaa.PFnPathSplit
