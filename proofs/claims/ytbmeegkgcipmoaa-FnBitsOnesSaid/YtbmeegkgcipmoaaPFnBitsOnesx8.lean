/- Printed by a program of this session (it drives the print of the kit, with contracts proved by hand beside): the Go functions of one law as Lean functions, and that the Go code comes to what they say. -/
import Derived.Test.YtbmeegkgcipmoaaPFnBitsOnesx0
import Derived.Test.YtbmeegkgcipmoaaPFnBitsOnesx1
import Derived.Test.YtbmeegkgcipmoaaPFnBitsOnesx4
import Derived.Test.YtbmeegkgcipmoaaPFnBitsOnesx5
import Derived.Test.YtbmeegkgcipmoaaPFnBitsOnesx6
import Derived.Test.YtbmeegkgcipmoaaPFnBitsOnesx7
namespace Go.Proofs.Ytbmeegkgcipmoaa.PFnBitsOnes
open Go.RowKit Go.Proofs.YtbmeegkgcipmoaaL Go.Proofs.YtbmeegkgcipmoaaW.PrintWords Go.Proofs.YtbmeegkgcipmoaaW.PrintLast Go.Proofs.YtbmeegkgcipmoaaW.PrintMore
attribute [local go_sem] max2_int min2_int max_two min_two max_three min_three max_four min_four   -- for this text's walks alone
set_option linter.unusedVariables false
set_option linter.unusedSimpArgs false

/-! ### impl_BitsOnes: function 17 -/
def impl_BitsOnes.j0 : Nat → Int → List Int → Bool → Option (Bool × Int × Int × Int × Bool)
  | 0, _, _, _ => none
  | k + 1, x2, x11, x30 => if x30 = true then (some (false, 0, 0, 0, false)) else ((gobitfield_Bitfield_Bit.f x11 x2).bind fun t183 => ((gobitfield_Bitfield_Ones.f k x11).bind fun t184 => ((gobitfield_Bitfield_OnesBefore.f k x11 x2).bind fun t185 => ((gobitfield_Bitfield_OnesAfter.f k x11 x2).bind fun t186 => (some (t183, t184, t185, t186, true))))))
def impl_BitsOnes.f (k : Nat) (a0 : Int) (l1 : List Int) (a2 : Int) : Option (Bool × Int × Int × Int × Bool) := (bytes_Clone.f l1).bind fun t175 => ((gobitfield_FromBytes.f a0 t175).bind fun bt178 => (if bt178.2.isNone = true then (if a2 < 0 then (impl_BitsOnes.j0 k a2 bt178.1 true) else (impl_BitsOnes.j0 k a2 bt178.1 (decide (a2 ≥ a0)))) else (impl_BitsOnes.j0 k a2 bt178.1 true)))
theorem impl_BitsOnes.mono_l : ∀ k, (∀ y0 y1 y2, LeO (impl_BitsOnes.j0 k y0 y1 y2) (impl_BitsOnes.j0 (k + 1) y0 y1 y2))
  | 0 => fun _ _ _ r h => by simp [impl_BitsOnes.j0] at h
  | k + 1 => by
    have ih0 := impl_BitsOnes.mono_l k
    · intro y0 y1 y2
      unfold impl_BitsOnes.j0
      repeat' first
      | (with_reducible exact ih0 _ _ _)
      | (with_reducible exact gobitfield_Bitfield_Ones.mono _ _)
      | (with_reducible exact gobitfield_Bitfield_OnesAfter.mono _ _ _)
      | (with_reducible exact gobitfield_Bitfield_OnesBefore.mono _ _ _)
      | (with_reducible exact LeO.refl _)
      | (with_reducible exact LeO.none _)
      | (with_reducible refine LeO.ite ?_ ?_)
      | (with_reducible refine LeO.bind ?_ (fun _ => ?_))
      | exact ih0 _ _ _
      | exact gobitfield_Bitfield_Ones.mono _ _
      | exact gobitfield_Bitfield_OnesAfter.mono _ _ _
      | exact gobitfield_Bitfield_OnesBefore.mono _ _ _
      | exact LeO.none _
      | refine LeO.ite ?_ ?_
      | refine LeO.bind ?_ (fun _ => ?_)
theorem impl_BitsOnes.mono : ∀ a0 a1 a2 k, LeO (impl_BitsOnes.f k a0 a1 a2) (impl_BitsOnes.f (k + 1) a0 a1 a2) := by
  intro a0 a1 a2 k
  have ih0 := impl_BitsOnes.mono_l k
  unfold impl_BitsOnes.f
  repeat' first
      | (with_reducible exact ih0 _ _ _)
      | (with_reducible exact gobitfield_Bitfield_Ones.mono _ _)
      | (with_reducible exact gobitfield_Bitfield_OnesAfter.mono _ _ _)
      | (with_reducible exact gobitfield_Bitfield_OnesBefore.mono _ _ _)
      | (with_reducible exact LeO.refl _)
      | (with_reducible exact LeO.none _)
      | (with_reducible refine LeO.ite ?_ ?_)
      | (with_reducible refine LeO.bind ?_ (fun _ => ?_))
      | exact ih0 _ _ _
      | exact gobitfield_Bitfield_Ones.mono _ _
      | exact gobitfield_Bitfield_OnesAfter.mono _ _ _
      | exact gobitfield_Bitfield_OnesBefore.mono _ _ _
      | exact LeO.none _
      | refine LeO.ite ?_ ?_
      | refine LeO.bind ?_ (fun _ => ?_)
set_option maxHeartbeats 8000000 in
set_option maxRecDepth 100000 in
theorem impl_BitsOnes.calls (k : Nat) (a0 : Int) (A1 : Option Addr) (c1 : Nat) (l1 : List Int) (a2 : Int) (r1 : Bool) (r2 : Int) (r3 : Int) (r4 : Int) (r5 : Bool) (w : World) (hr1 : Kd.C (Kd.int .u8) w A1 l1.length l1) (hc1 : l1.length ≤ c1) (h : impl_BitsOnes.f k a0 l1 a2 = some (r1, r2, r3, r4, r5)) :
    Calls Try.prog 17 #[.int .i64 a0, .slice A1 l1.length c1, .int .i64 a2] w fun e w' => e = .returned (.tuple #[.bool r1, .int .i64 r2, .int .i64 r3, .int .i64 r4, .bool r5]) ∧ Below w.heap.size w w' := by
  have hu54 := Try.underlying54
  have HR1 := Aside0.mk hr1
  have HC1 := Aside0.mk hc1
  clear hr1 hc1
  have HB := Aside0.mk (Below.refl w.heap.size w)
  have H : ((bytes_Clone.f l1).bind fun t175 => ((gobitfield_FromBytes.f a0 t175).bind fun bt178 => (if bt178.2.isNone = true then (if a2 < 0 then (impl_BitsOnes.j0 k a2 bt178.1 true) else (impl_BitsOnes.j0 k a2 bt178.1 (decide (a2 ≥ a0)))) else (impl_BitsOnes.j0 k a2 bt178.1 true)))) = some (r1, r2, r3, r4, r5) := h
  clear h
  replace H := Option.bind_eq_some_iff.mp H
  obtain ⟨t175, A40, H⟩ := H
  replace H : ((gobitfield_FromBytes.f a0 t175).bind fun bt178 => (if bt178.2.isNone = true then (if a2 < 0 then (impl_BitsOnes.j0 k a2 bt178.1 true) else (impl_BitsOnes.j0 k a2 bt178.1 (decide (a2 ≥ a0)))) else (impl_BitsOnes.j0 k a2 bt178.1 true))) = some (r1, r2, r3, r4, r5) := H
  have A4 := Aside0.mk A40
  clear A40
  replace H := Option.bind_eq_some_iff.mp H
  obtain ⟨⟨t178, t179⟩, A50, H⟩ := H
  replace H : (if t179.isNone = true then (if a2 < 0 then (impl_BitsOnes.j0 k a2 t178 true) else (impl_BitsOnes.j0 k a2 t178 (decide (a2 ≥ a0)))) else (impl_BitsOnes.j0 k a2 t178 true)) = some (r1, r2, r3, r4, r5) := H
  have A5 := Aside0.mk A50
  clear A50
  have HC6 := Aside0.mk H
  clear H
  go_enter Try.func17, Try.ntmps17
  go_upto_region 2 with (first | ((with_reducible refine gate_callee (f := 20) rfl ?_); refine goesL_ (some 16) rfl rfl Try.func20 (by kernel_rfl) rfl #[.slice A1 l1.length c1] rfl (by (try simp only [List.map_toArray, List.map_cons, List.map_nil]); first | done | rfl | (simp only [List.length_drop, List.length_take]; rfl)) ?_; (with_reducible refine (bytes_Clone.calls _ _ l1 t175 _ ?side1 ?side2 A4.out).mono ?_); (case side1 => repeat (first | exact HR1.out | (with_reducible refine Kd.C_alloc ?_ _) | (with_reducible refine Kd.C_drewN ?_ _) | (with_reducible refine Kd.C_drew ?_))); (case side2 => exact HC1.out); rintro e w7 ⟨v176, rfl, ho0, hb⟩; refine ⟨_, rfl, ?_⟩; have n0_ := Aside0.mk (Kd.R_lower ho0 (below_size (by repeat (first | (with_reducible first | exact HB.out | apply below_alloc | apply pw_below_drewN | apply below_drew1) | exact HB.out)))); have n1_ := Aside0.mk (below_step (by repeat (first | (with_reducible first | exact HB.out | apply below_alloc | apply pw_below_drewN | apply below_drew1) | exact HB.out)) hb); clear HB; have HO177 := n0_; have HB := n1_; clear n0_ n1_; (try clear hb); (try clear hb2); (try clear hk); (try clear hi); (try clear ho0); obtain ⟨Ao8, co8, eo8⟩ := Kd.R_slice HO177.out; subst eo8) | ((with_reducible refine gate_callee (f := 45) rfl ?_); refine goesL_ (some 17) rfl rfl Try.func45 (by kernel_rfl) rfl #[.int .i64 a0, .slice Ao8 t175.length co8] rfl (by (try simp only [List.map_toArray, List.map_cons, List.map_nil]); first | done | rfl | (simp only [List.length_drop, List.length_take]; rfl)) ?_; (with_reducible refine (gobitfield_FromBytes.calls a0 _ _ t175 t178 t179 _ ?side1 ?side2 A5.out).mono ?_); (case side1 => repeat (first | exact (Kd.R_reads' HO177.out).2.2 | (with_reducible refine Kd.C_alloc ?_ _) | (with_reducible refine Kd.C_drewN ?_ _) | (with_reducible refine Kd.C_drew ?_))); (case side2 => exact (Kd.R_reads' HO177.out).2.1); rintro e w9 ⟨v180, eT_t179, eX_t179, rfl, ho0, hb⟩; refine ⟨_, rfl, ?_⟩; have n0_ := Aside0.mk (Kd.R_elder' (by (with_reducible repeat (first | apply Kd.R_alloc | apply Kd.R_drewN | apply Kd.R_drew)); exact HO177.out) (Kd.R_base ho0) hb); have n1_ := Aside0.mk (Kd.R_lower (Kd.R_new' ho0 (Kd.R_lt (by (with_reducible repeat (first | apply Kd.R_alloc | apply Kd.R_drewN | apply Kd.R_drew)); exact HO177.out))) (below_size (by repeat (first | (with_reducible first | exact HB.out | apply below_alloc | apply pw_below_drewN | apply below_drew1) | exact HB.out)))); have n2_ := Aside0.mk (below_step (by repeat (first | (with_reducible first | exact HB.out | apply below_alloc | apply pw_below_drewN | apply below_drew1) | exact HB.out)) hb); clear HO177; clear HB; have HO177 := n0_; have HO181 := n1_; have HB := n2_; clear n0_ n1_ n2_; (try clear hb); (try clear hb2); (try clear hk); (try clear hi); (try clear ho0); (try simp only [errV_none, errV_some])))
  (try simp only [Act.put, List.setIfInBounds_toArray, List.set_cons_zero, List.set_cons_succ])
  go_cut [30] (fun v30 wc => ∃ (kq : Nat) (x30_5 : Bool), v30 = .bool x30_5 ∧ Aside0 (impl_BitsOnes.j0 kq a2 t178 x30_5 = some (r1, r2, r3, r4, r5)) ∧ Aside0 (kq ≤ k) ∧ Aside0 (Kd.R (Kd.int .u8) 5 wc w.heap.size (fun _ => True) v180 t178) ∧ Aside0 (Below w.heap.size w wc))
  case first =>
    have H := HC6.out
    clear HC6
    rcases t179 with _ | q182
    · have H1 : (if a2 < 0 then (impl_BitsOnes.j0 k a2 t178 true) else (impl_BitsOnes.j0 k a2 t178 (decide (a2 ≥ a0)))) = some (r1, r2, r3, r4, r5) := by rw [if_pos (show (none : Option Int).isNone = true by rfl)] at H; exact H
      clear H
      have H := H1
      clear H1
      try simp only [errV_none, errV_some]
      by_cases c10 : a2 < 0
      · rw [if_pos c10] at H
        have c10b0 : decide (a2 < 0) = true := decide_eq_true c10
        clear c10
        (first | rw [c10b0] | (simp only [i64_w, i32_w]; rw [c10b0]) | skip)
        have H' := Aside0.mk H
        clear H
        go_wp2
        go_meet
        case rel => exact ⟨_, (true), (by first | rfl | (simp; done) | (simp [*]; done)), H', ⟨by first | omega | exact Nat.le_refl _⟩, ⟨by (with_reducible repeat (first | apply Kd.R_alloc | apply Kd.R_drewN | apply Kd.R_drew)); exact Kd.R_mono HO181.out (fun _ hk => trivial)⟩, ⟨by repeat (first | (with_reducible first | exact HB.out | apply below_alloc | apply pw_below_drewN | apply below_drew1) | exact HB.out)⟩⟩
      · rw [if_neg c10] at H
        have c10b0 : decide (a2 < 0) = false := decide_eq_false c10
        clear c10
        (first | rw [c10b0] | (simp only [i64_w, i32_w]; rw [c10b0]) | skip)
        have H' := Aside0.mk H
        clear H
        go_wp2
        go_meet
        case rel => exact ⟨_, (decide (a2 ≥ a0)), (by first | rfl | (simp; done) | (simp [*]; done)), H', ⟨by first | omega | exact Nat.le_refl _⟩, ⟨by (with_reducible repeat (first | apply Kd.R_alloc | apply Kd.R_drewN | apply Kd.R_drew)); exact Kd.R_mono HO181.out (fun _ hk => trivial)⟩, ⟨by repeat (first | (with_reducible first | exact HB.out | apply below_alloc | apply pw_below_drewN | apply below_drew1) | exact HB.out)⟩⟩
    · have H1 : (impl_BitsOnes.j0 k a2 t178 true) = some (r1, r2, r3, r4, r5) := by rw [if_neg (show ¬ (some q182).isNone = true by simp)] at H; exact H
      clear H
      have H := H1
      clear H1
      try simp only [errV_none, errV_some]
      have H' := Aside0.mk H
      clear H
      go_wp2
      go_meet
      case rel => exact ⟨_, (true), (by first | rfl | (simp; done) | (simp [*]; done)), H', ⟨by first | omega | exact Nat.le_refl _⟩, ⟨by (with_reducible repeat (first | apply Kd.R_alloc | apply Kd.R_drewN | apply Kd.R_drew)); exact Kd.R_mono HO181.out (fun _ hk => trivial)⟩, ⟨by repeat (first | (with_reducible first | exact HB.out | apply below_alloc | apply pw_below_drewN | apply below_drew1) | exact HB.out)⟩⟩
  case rest =>
    clear HC6
    try clear c1
    try clear q1
    try clear c2
    try clear p2
    try clear c4
    try clear c10
    try clear c10b0
    try clear q182
    obtain ⟨kq, x30_5, rfl, HA, HJ5, HO_11, HB⟩ := hcut
    cases kq with
    | zero => exact absurd HA.out (by simp [impl_BitsOnes.j0])
    | succ kj5 =>
      have H := HA.out
      clear HA
      simp only [impl_BitsOnes.j0] at H
      by_cases c11 : x30_5 = true
      · subst c11
        have H1 : (some (false, 0, 0, 0, false)) = some (r1, r2, r3, r4, r5) := by rw [if_pos rfl] at H; exact H
        clear H
        have H := H1
        clear H1
        simp only [Option.some.injEq, Prod.mk.injEq] at H
        obtain ⟨rfl, rfl, rfl, rfl, rfl⟩ := H
        go_wp2
        refine bodyPost_ret (results_list (rs := [.tmp 6, .tmp 7, .tmp 8, .tmp 9, .tmp 10]) rfl (by simp) (.tmp (.tmp (.tmp (.tmp (.tmp .nil)))))) rfl ?_
        exact ⟨by first | rfl | (simp [errV_none, errV_some] <;> rfl) | (simp [*, errV_none, errV_some] <;> rfl), by repeat (first | (with_reducible first | exact HB.out | apply below_alloc | apply pw_below_drewN | apply below_drew1) | exact HB.out)⟩
      · replace c11 := Bool.eq_false_iff.mpr c11
        subst c11
        have H1 : ((gobitfield_Bitfield_Bit.f t178 a2).bind fun t183 => ((gobitfield_Bitfield_Ones.f kj5 t178).bind fun t184 => ((gobitfield_Bitfield_OnesBefore.f kj5 t178 a2).bind fun t185 => ((gobitfield_Bitfield_OnesAfter.f kj5 t178 a2).bind fun t186 => (some (t183, t184, t185, t186, true)))))) = some (r1, r2, r3, r4, r5) := by rw [if_neg (show ¬ (false = true) by decide)] at H; exact H
        clear H
        have H := H1
        clear H1
        replace H := Option.bind_eq_some_iff.mp H
        obtain ⟨t183, A120, H⟩ := H
        replace H : ((gobitfield_Bitfield_Ones.f kj5 t178).bind fun t184 => ((gobitfield_Bitfield_OnesBefore.f kj5 t178 a2).bind fun t185 => ((gobitfield_Bitfield_OnesAfter.f kj5 t178 a2).bind fun t186 => (some (t183, t184, t185, t186, true))))) = some (r1, r2, r3, r4, r5) := H
        have A12 := Aside0.mk A120
        clear A120
        replace H := Option.bind_eq_some_iff.mp H
        obtain ⟨t184, A130, H⟩ := H
        replace H : ((gobitfield_Bitfield_OnesBefore.f kj5 t178 a2).bind fun t185 => ((gobitfield_Bitfield_OnesAfter.f kj5 t178 a2).bind fun t186 => (some (t183, t184, t185, t186, true)))) = some (r1, r2, r3, r4, r5) := H
        have A13 := Aside0.mk A130
        clear A130
        replace H := Option.bind_eq_some_iff.mp H
        obtain ⟨t185, A140, H⟩ := H
        replace H : ((gobitfield_Bitfield_OnesAfter.f kj5 t178 a2).bind fun t186 => (some (t183, t184, t185, t186, true))) = some (r1, r2, r3, r4, r5) := H
        have A14 := Aside0.mk A140
        clear A140
        replace H := Option.bind_eq_some_iff.mp H
        obtain ⟨t186, A150, H⟩ := H
        replace H : (some (t183, t184, t185, t186, true)) = some (r1, r2, r3, r4, r5) := H
        have A15 := Aside0.mk A150
        clear A150
        simp only [Option.some.injEq, Prod.mk.injEq] at H
        obtain ⟨rfl, rfl, rfl, rfl, rfl⟩ := H
        obtain ⟨Ao16, co16, eo16⟩ := Kd.R_slice HO_11.out
        subst eo16
        go_wp2_with (first | ((with_reducible refine gate_callee (f := 46) rfl ?_); refine goesL_ (some 33) rfl rfl Try.func46 (by kernel_rfl) rfl #[.slice Ao16 t178.length co16, .int .i64 a2] rfl (by (try simp only [List.map_toArray, List.map_cons, List.map_nil]); first | done | rfl | (simp only [List.length_drop, List.length_take]; rfl)) ?_; (with_reducible refine (gobitfield_Bitfield_Bit.calls _ _ t178 a2 t183 _ ?side1 ?side2 A12.out).mono ?_); (case side1 => repeat (first | exact (Kd.R_reads' HO_11.out).2.2 | (with_reducible refine Kd.C_alloc ?_ _) | (with_reducible refine Kd.C_drewN ?_ _) | (with_reducible refine Kd.C_drew ?_))); (case side2 => exact (Kd.R_reads' HO_11.out).2.1); rintro e w' ⟨rfl, ⟨nd, rfl⟩⟩; refine ⟨_, rfl, ?_⟩) | ((with_reducible refine gate_callee (f := 47) rfl ?_); refine goesL_ (some 35) rfl rfl Try.func47 (by kernel_rfl) rfl #[.slice Ao16 t178.length co16] rfl (by (try simp only [List.map_toArray, List.map_cons, List.map_nil]); first | done | rfl | (simp only [List.length_drop, List.length_take]; rfl)) ?_; (with_reducible refine (gobitfield_Bitfield_Ones.calls kj5 _ _ t178 t184 _ ?side1 ?side2 A13.out).mono ?_); (case side1 => repeat (first | exact (Kd.R_reads' HO_11.out).2.2 | (with_reducible refine Kd.C_alloc ?_ _) | (with_reducible refine Kd.C_drewN ?_ _) | (with_reducible refine Kd.C_drew ?_))); (case side2 => exact (Kd.R_reads' HO_11.out).2.1); rintro e w' ⟨rfl, ⟨nd, rfl⟩⟩; refine ⟨_, rfl, ?_⟩) | ((with_reducible refine gate_callee (f := 48) rfl ?_); refine goesL_ (some 38) rfl rfl Try.func48 (by kernel_rfl) rfl #[.slice Ao16 t178.length co16, .int .i64 a2] rfl (by (try simp only [List.map_toArray, List.map_cons, List.map_nil]); first | done | rfl | (simp only [List.length_drop, List.length_take]; rfl)) ?_; (with_reducible refine (gobitfield_Bitfield_OnesBefore.calls kj5 _ _ t178 a2 t185 _ ?side1 ?side2 A14.out).mono ?_); (case side1 => repeat (first | exact (Kd.R_reads' HO_11.out).2.2 | (with_reducible refine Kd.C_alloc ?_ _) | (with_reducible refine Kd.C_drewN ?_ _) | (with_reducible refine Kd.C_drew ?_))); (case side2 => exact (Kd.R_reads' HO_11.out).2.1); rintro e w' ⟨rfl, ⟨nd, rfl⟩⟩; refine ⟨_, rfl, ?_⟩) | ((with_reducible refine gate_callee (f := 49) rfl ?_); refine goesL_ (some 41) rfl rfl Try.func49 (by kernel_rfl) rfl #[.slice Ao16 t178.length co16, .int .i64 a2] rfl (by (try simp only [List.map_toArray, List.map_cons, List.map_nil]); first | done | rfl | (simp only [List.length_drop, List.length_take]; rfl)) ?_; (with_reducible refine (gobitfield_Bitfield_OnesAfter.calls kj5 _ _ t178 a2 t186 _ ?side1 ?side2 A15.out).mono ?_); (case side1 => repeat (first | exact (Kd.R_reads' HO_11.out).2.2 | (with_reducible refine Kd.C_alloc ?_ _) | (with_reducible refine Kd.C_drewN ?_ _) | (with_reducible refine Kd.C_drew ?_))); (case side2 => exact (Kd.R_reads' HO_11.out).2.1); rintro e w' ⟨rfl, ⟨nd, rfl⟩⟩; refine ⟨_, rfl, ?_⟩))
        refine bodyPost_ret (results_list (rs := [.tmp 6, .tmp 7, .tmp 8, .tmp 9, .tmp 10]) rfl (by simp) (.tmp (.tmp (.tmp (.tmp (.tmp .nil)))))) rfl ?_
        exact ⟨by first | rfl | (simp [errV_none, errV_some] <;> rfl) | (simp [*, errV_none, errV_some] <;> rfl), by repeat (first | (with_reducible first | exact HB.out | apply below_alloc | apply pw_below_drewN | apply below_drew1) | exact HB.out)⟩

end Go.Proofs.Ytbmeegkgcipmoaa.PFnBitsOnes
