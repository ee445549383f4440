/- Printed by a program of this session (it drives the print of the kit, with contracts proved by hand beside): the Go functions of one law as Lean functions, and that the Go code comes to what they say. -/
import Derived.Test.YtbmeegkgcipmoaaPFnBitsOnesx0
import Derived.Test.YtbmeegkgcipmoaaPFnBitsOnesx1
import Derived.Test.YtbmeegkgcipmoaaPFnBitsOnesx5
namespace Go.Proofs.Ytbmeegkgcipmoaa.PFnBitsOnes
open Go.RowKit Go.Proofs.YtbmeegkgcipmoaaL Go.Proofs.YtbmeegkgcipmoaaW.PrintWords Go.Proofs.YtbmeegkgcipmoaaW.PrintLast Go.Proofs.YtbmeegkgcipmoaaW.PrintMore
attribute [local go_sem] max2_int min2_int max_two min_two max_three min_three max_four min_four   -- for this text's walks alone
set_option linter.unusedVariables false
set_option linter.unusedSimpArgs false

/-! ### gobitfield_Bitfield_OnesBefore: function 48 -/
def gobitfield_Bitfield_OnesBefore.l0 : Nat → Int → List Int → Int → Int → Option (Int)
  | 0, _, _, _, _ => none
  | k + 1, x7, x27, x28, x29 => if x29 < x28 then (if 0 ≤ x29 then (if x29 < (x27.length : Int) then ((bits_OnesCount8.f (rd x27 x29)).bind fun t164 => (gobitfield_Bitfield_OnesBefore.l0 k (wrap64 (x7 + t164)) x27 x28 (wrap64 (x29 + 1)))) else (none)) else (none)) else (some x7)
def gobitfield_Bitfield_OnesBefore.f (k : Nat) (l0 : List Int) (a1 : Int) : Option (Int) := (gobitfield_Bitfield_offset.f l0 a1).bind fun bt155 => (if 0 ≤ bt155.1 then (if bt155.1 < (l0.length : Int) then (if 0 ≤ ((8 - bt155.2) % 256) then ((bits_OnesCount8.f (shl .u8 (rd l0 bt155.1) ((8 - bt155.2) % 256))).bind fun t158 => (if 0 ≤ (IntKind.u64.wrap (bt155.1 + 1)) then (if (IntKind.u64.wrap (bt155.1 + 1)) ≤ (l0.length : Int) then ((some (l0.drop ((IntKind.u64.wrap (bt155.1 + 1)) : Int).toNat : List Int)).bind fun y159 => (gobitfield_Bitfield_OnesBefore.l0 k t158 y159 (y159.length : Int) 0)) else (none)) else (none))) else (none)) else (none)) else (none))
theorem gobitfield_Bitfield_OnesBefore.mono_l : ∀ k, (∀ y0 y1 y2 y3, LeO (gobitfield_Bitfield_OnesBefore.l0 k y0 y1 y2 y3) (gobitfield_Bitfield_OnesBefore.l0 (k + 1) y0 y1 y2 y3))
  | 0 => fun _ _ _ _ r h => by simp [gobitfield_Bitfield_OnesBefore.l0] at h
  | k + 1 => by
    have ih0 := gobitfield_Bitfield_OnesBefore.mono_l k
    · intro y0 y1 y2 y3
      unfold gobitfield_Bitfield_OnesBefore.l0
      repeat' first
      | (with_reducible exact ih0 _ _ _ _)
      | (with_reducible exact LeO.refl _)
      | (with_reducible exact LeO.none _)
      | (with_reducible refine LeO.ite ?_ ?_)
      | (with_reducible refine LeO.bind ?_ (fun _ => ?_))
      | exact ih0 _ _ _ _
      | exact LeO.none _
      | refine LeO.ite ?_ ?_
      | refine LeO.bind ?_ (fun _ => ?_)
theorem gobitfield_Bitfield_OnesBefore.mono : ∀ a0 a1 k, LeO (gobitfield_Bitfield_OnesBefore.f k a0 a1) (gobitfield_Bitfield_OnesBefore.f (k + 1) a0 a1) := by
  intro a0 a1 k
  have ih0 := gobitfield_Bitfield_OnesBefore.mono_l k
  unfold gobitfield_Bitfield_OnesBefore.f
  repeat' first
      | (with_reducible exact ih0 _ _ _ _)
      | (with_reducible exact LeO.refl _)
      | (with_reducible exact LeO.none _)
      | (with_reducible refine LeO.ite ?_ ?_)
      | (with_reducible refine LeO.bind ?_ (fun _ => ?_))
      | exact ih0 _ _ _ _
      | exact LeO.none _
      | refine LeO.ite ?_ ?_
      | refine LeO.bind ?_ (fun _ => ?_)
set_option maxHeartbeats 8000000 in
set_option maxRecDepth 100000 in
theorem gobitfield_Bitfield_OnesBefore.calls (k : Nat) (A0 : Option Addr) (c0 : Nat) (l0 : List Int) (a1 : Int) (r : Int) (w : World) (hr0 : Kd.C (Kd.int .u8) w A0 l0.length l0) (hc0 : l0.length ≤ c0) (h : gobitfield_Bitfield_OnesBefore.f k l0 a1 = some r) :
    Calls Try.prog 48 #[.slice A0 l0.length c0, .int .i64 a1] w fun e w' => e = .returned (.int .i64 r) ∧ Drawn0 w w' := by
  have HR0 := Aside0.mk hr0
  have HC0 := Aside0.mk hc0
  clear hr0 hc0
  have H : ((gobitfield_Bitfield_offset.f l0 a1).bind fun bt155 => (if 0 ≤ bt155.1 then (if bt155.1 < (l0.length : Int) then (if 0 ≤ ((8 - bt155.2) % 256) then ((bits_OnesCount8.f (shl .u8 (rd l0 bt155.1) ((8 - bt155.2) % 256))).bind fun t158 => (if 0 ≤ (IntKind.u64.wrap (bt155.1 + 1)) then (if (IntKind.u64.wrap (bt155.1 + 1)) ≤ (l0.length : Int) then ((some (l0.drop ((IntKind.u64.wrap (bt155.1 + 1)) : Int).toNat : List Int)).bind fun y159 => (gobitfield_Bitfield_OnesBefore.l0 k t158 y159 (y159.length : Int) 0)) else (none)) else (none))) else (none)) else (none)) else (none))) = some r := h
  clear h
  replace H := Option.bind_eq_some_iff.mp H
  obtain ⟨⟨t155, t156⟩, A30, H⟩ := H
  replace H : (if 0 ≤ t155 then (if t155 < (l0.length : Int) then (if 0 ≤ ((8 - t156) % 256) then ((bits_OnesCount8.f (shl .u8 (rd l0 t155) ((8 - t156) % 256))).bind fun t158 => (if 0 ≤ (IntKind.u64.wrap (t155 + 1)) then (if (IntKind.u64.wrap (t155 + 1)) ≤ (l0.length : Int) then ((some (l0.drop ((IntKind.u64.wrap (t155 + 1)) : Int).toNat : List Int)).bind fun y159 => (gobitfield_Bitfield_OnesBefore.l0 k t158 y159 (y159.length : Int) 0)) else (none)) else (none))) else (none)) else (none)) else (none)) = some r := H
  have A3 := Aside0.mk A30
  clear A30
  by_cases c4 : 0 ≤ t155
  · rw [if_pos c4] at H
    have c4b0 : decide (0 ≤ t155) = true := decide_eq_true c4
    clear c4
    by_cases c5 : t155 < (l0.length : Int)
    · rw [if_pos c5] at H
      have c5b0 : decide (t155 < (l0.length : Int)) = true := decide_eq_true c5
      clear c5
      obtain ⟨ji6, hji6⟩ : ∃ j_ : Int, ((8 - t156) % 256) = j_ := ⟨_, rfl⟩
      replace H : (if 0 ≤ (ji6) then ((bits_OnesCount8.f (shl .u8 (rd l0 t155) (ji6))).bind fun t158 => (if 0 ≤ (IntKind.u64.wrap (t155 + 1)) then (if (IntKind.u64.wrap (t155 + 1)) ≤ (l0.length : Int) then ((some (l0.drop ((IntKind.u64.wrap (t155 + 1)) : Int).toNat : List Int)).bind fun y159 => (gobitfield_Bitfield_OnesBefore.l0 k t158 y159 (y159.length : Int) 0)) else (none)) else (none))) else (none)) = some r := by first | (rw [hji6] at H; exact H) | (simp only [hji6] at H ⊢; exact H)
      (try rw [hji6] at A3)
      by_cases c7 : 0 ≤ (ji6)
      · rw [if_pos c7] at H
        have c7b0 := eq_true c7
        have c7b1 : decide (0 ≤ (ji6)) = true := decide_eq_true c7
        clear c7
        obtain ⟨ji8, hji8⟩ : ∃ j_ : Int, (shl .u8 (rd l0 t155) (ji6)) = j_ := ⟨_, rfl⟩
        replace H : ((bits_OnesCount8.f (ji8)).bind fun t158 => (if 0 ≤ (IntKind.u64.wrap (t155 + 1)) then (if (IntKind.u64.wrap (t155 + 1)) ≤ (l0.length : Int) then ((some (l0.drop ((IntKind.u64.wrap (t155 + 1)) : Int).toNat : List Int)).bind fun y159 => (gobitfield_Bitfield_OnesBefore.l0 k t158 y159 (y159.length : Int) 0)) else (none)) else (none))) = some r := by first | (rw [hji8] at H; exact H) | (simp only [hji8] at H ⊢; exact H)
        (try rw [hji8] at A3)
        have hji8_ : (IntKind.u8.wrap ((rd l0 t155) * 2 ^ min (ji6).toNat 8)) = ji8 := hji8
        have hji8z : (ji6) ≤ 8 → (IntKind.u8.wrap ((rd l0 t155) * 2 ^ (ji6).toNat)) = ji8 := shl_small hji8
        replace H := Option.bind_eq_some_iff.mp H
        obtain ⟨t158, A90, H⟩ := H
        replace H : (if 0 ≤ (IntKind.u64.wrap (t155 + 1)) then (if (IntKind.u64.wrap (t155 + 1)) ≤ (l0.length : Int) then ((some (l0.drop ((IntKind.u64.wrap (t155 + 1)) : Int).toNat : List Int)).bind fun y159 => (gobitfield_Bitfield_OnesBefore.l0 k t158 y159 (y159.length : Int) 0)) else (none)) else (none)) = some r := H
        have A9 := Aside0.mk A90
        clear A90
        obtain ⟨ji10, hji10⟩ : ∃ j_ : Int, (IntKind.u64.wrap (t155 + 1)) = j_ := ⟨_, rfl⟩
        replace H : (if 0 ≤ (ji10) then (if (ji10) ≤ (l0.length : Int) then ((some (l0.drop ((ji10) : Int).toNat : List Int)).bind fun y159 => (gobitfield_Bitfield_OnesBefore.l0 k t158 y159 (y159.length : Int) 0)) else (none)) else (none)) = some r := by first | (rw [hji10] at H; exact H) | (simp only [hji10] at H ⊢; exact H)
        (try rw [hji10] at A3)
        (try rw [hji10] at A9)
        by_cases c11 : 0 ≤ (ji10)
        · rw [if_pos c11] at H
          have c11b0 := eq_true c11
          have c11b1 : decide (0 ≤ (ji10)) = true := decide_eq_true c11
          clear c11
          by_cases c12 : (ji10) ≤ (l0.length : Int)
          · rw [if_pos c12] at H
            have c12b0 := eq_true c12
            have c12b1 : decide ((ji10) ≤ (l0.length : Int)) = true := decide_eq_true c12
            clear c12
            obtain ⟨y159, hy159⟩ : ∃ y_ : List Int, y_ = (l0.drop ((ji10) : Int).toNat) := ⟨_, rfl⟩
            replace H : (gobitfield_Bitfield_OnesBefore.l0 k t158 y159 (y159.length : Int) 0) = some r := by first | (rw [hy159]; with_reducible exact H) | (have H2_ := (Option.bind_some _ _).symm.trans H; rw [hy159]; with_reducible exact H2_) | (have H2_ := (Option.bind_some _ _).symm.trans H; with_reducible exact H2_) | with_reducible exact H | (rw [hy159]; exact H) | exact H
            have Ny159 := Aside0.mk hy159
            clear hy159
            have H' := Aside0.mk H
            clear H
            go_enter Try.func48, Try.ntmps48
            go_wp2_with (first | ((with_reducible refine gate_callee (f := 66) rfl ?_); refine goesL_ (some 13) rfl rfl Try.func66 (by kernel_rfl) rfl #[.slice A0 l0.length c0, .int .i64 a1] rfl (by (try simp only [List.map_toArray, List.map_cons, List.map_nil]); first | done | rfl | (simp only [List.length_drop, List.length_take]; rfl)) ?_; (with_reducible refine (gobitfield_Bitfield_offset.calls _ _ l0 a1 t155 t156 _ ?side1 ?side2 A3.out).mono ?_); (case side1 => repeat (first | exact HR0.out | (with_reducible refine Kd.C_alloc ?_ _) | (with_reducible refine Kd.C_drewN ?_ _) | (with_reducible refine Kd.C_drew ?_))); (case side2 => exact HC0.out); rintro e w' ⟨rfl, ⟨nd, rfl⟩⟩; refine ⟨_, rfl, ?_⟩; have p157 : 0 ≤ (t155 : Int) := of_decide_eq_true (by first | (with_reducible assumption) | assumption); have q157 : t155 < (l0.length : Int) := of_decide_eq_true (by first | (with_reducible assumption) | assumption); obtain ⟨ad157, e157, hx157_0⟩ := Kd.at_int HR0.out t155 p157 q157; cases e157; replace p157 := eq_true p157; replace q157 := eq_true q157) | ((with_reducible refine gate_callee (f := 67) rfl ?_); refine goesL_ (some 23) rfl rfl Try.func67 (by kernel_rfl) rfl #[.int .u8 ji8] rfl (by (try simp only [List.map_toArray, List.map_cons, List.map_nil]); first | done | (simp only [hji8]; rfl) | rfl | (simp only [List.length_drop, List.length_take]; rfl)) ?_; (with_reducible refine (bits_OnesCount8.calls ji8 t158 _ A9.out).mono ?_); rintro e w' ⟨rfl, ⟨nd, rfl⟩⟩; refine ⟨_, rfl, ?_⟩; have q13 : ((ji10) : Int) ≤ ((l0.length : Int) : Int) := of_decide_eq_true (by first | (with_reducible assumption) | assumption); obtain ⟨i013, hi013, _, hsz13, _⟩ := info_parts info5; have hroom13 : l0.length ≤ c0 := HC0.out; have hC13 : Kd.C (Kd.int .u8) _ (some ad157) l0.length l0 := HR0.out; have q013 : (0 : Int) ≤ ((ji10) : Int) := of_decide_eq_true (by first | (with_reducible assumption) | assumption); have hcut13 := cut_from (P := Try.prog) 59 5 .u64 Try.underlying59 hi013 1 hsz13 (some ad157) l0.length c0 (ji10) q013 q13; have hr13 := Kd.C_drop (m := ((ji10) : Int).toNat) (c := c0) hC13 (by omega) hroom13; obtain ⟨A13, hA13⟩ : ∃ A1, A1 = (if c0 = ((ji10) : Int).toNat then (some ad157) else ((some ad157) : Option Addr).map (·.add (((ji10) : Int).toNat * 1))) := ⟨_, rfl⟩; obtain ⟨c13, hc13⟩ : ∃ c1, c1 = c0 - ((ji10) : Int).toNat := ⟨_, rfl⟩; have hy13 : y159.length = l0.length - ((ji10) : Int).toNat := (by rw [Ny159.out, List.length_drop] <;> omega); rw [show (l0).drop ((ji10) : Int).toNat = y159 from Ny159.out.symm] at hr13; replace hr13 : Kd.C (Kd.int .u8) _ A13 y159.length y159 := (by rw [hA13]; exact hr13); rw [← hy13, ← hA13, ← hc13] at hcut13; have HR162 := Aside0.mk hr13; have HC162 := Aside0.mk (show y159.length ≤ c13 from by rw [hy13, hc13]; exact Nat.sub_le_sub_right hroom13 _); clear hr13 hC13 hroom13 hi013 hsz13 hc13; have KY13 := Aside0.mk hy13; have KA13 := Aside0.mk hA13; clear hy13 hA13; replace q13 := eq_true q13))
            go_loopg [7, 29] k (fun kq v7 v29 w' => ∃ (x7_1 : Int) (x29_1 : Int), v7 = .int .i64 x7_1 ∧ v29 = .int .i64 x29_1 ∧ Aside0 (gobitfield_Bitfield_OnesBefore.l0 kq x7_1 y159 (y159.length : Int) x29_1 = some r) ∧ Aside0 (kq ≤ k) ∧ Drawn0 w w')
            case atStart => exact ⟨(t158), (0), (by first | rfl | (simp; done) | (simp [*]; done)), (by first | rfl | (simp; done) | (simp [*]; done)), H', ⟨Nat.le_refl _⟩, by repeat (first | exact Drawn0.refl _ | apply Drawn0.step)⟩
            case round =>
              clear H'
              try clear c1
              try clear p1
              try clear q1
              try clear hx1
              try clear p2
              try clear c4
              try clear c4b0
              try clear c5
              try clear c5b0
              try clear c6
              try clear c7
              try clear c7b0
              try clear c7b1
              try clear c11
              try clear c11b0
              try clear c11b1
              try clear c12
              try clear c12b0
              try clear c12b1
              try clear c13
              try clear q13
              try clear hx157_0
              try clear p157
              try clear q013
              try clear q13
              try clear q157
              obtain ⟨x7_1, x29_1, rfl, rfl, HA, HK1, ⟨m1, rfl⟩⟩ := hrel
              cases gk with
              | zero => exact absurd HA.out (by simp [gobitfield_Bitfield_OnesBefore.l0])
              | succ k1 =>
                have H := HA.out
                clear HA
                simp only [gobitfield_Bitfield_OnesBefore.l0] at H
                by_cases c14 : x29_1 < (y159.length : Int)
                · rw [if_pos c14] at H
                  have c14b0 : decide (x29_1 < (y159.length : Int)) = true := decide_eq_true c14
                  clear c14
                  by_cases c15 : 0 ≤ x29_1
                  · rw [if_pos c15] at H
                    have c15b0 : decide (0 ≤ x29_1) = true := decide_eq_true c15
                    clear c15
                    by_cases c16 : x29_1 < (y159.length : Int)
                    · rw [if_pos c16] at H
                      have c16b0 : decide (x29_1 < (y159.length : Int)) = true := decide_eq_true c16
                      clear c16
                      replace H := Option.bind_eq_some_iff.mp H
                      obtain ⟨t164, A170, H⟩ := H
                      replace H : (gobitfield_Bitfield_OnesBefore.l0 k1 (wrap64 (x7_1 + t164)) y159 (y159.length : Int) (wrap64 (x29_1 + 1))) = some r := H
                      have A17 := Aside0.mk A170
                      clear A170
                      have H' := Aside0.mk H
                      clear H
                      have p163 : 0 ≤ (x29_1 : Int) := of_decide_eq_true (by first | (with_reducible assumption) | assumption)
                      have q163 : x29_1 < (y159.length : Int) := of_decide_eq_true (by first | (with_reducible assumption) | assumption)
                      obtain ⟨ad163, e163, hx163_0⟩ := Kd.at_int HR162.out x29_1 p163 q163
                      cases e163
                      replace p163 := eq_true p163
                      replace q163 := eq_true q163
                      go_wp2_with (first | ((with_reducible refine gate_callee (f := 67) rfl ?_); refine goesL_ (some 35) rfl rfl Try.func67 (by kernel_rfl) rfl #[.int .u8 (rd y159 x29_1)] rfl (by (try simp only [List.map_toArray, List.map_cons, List.map_nil]); first | done | rfl | (simp only [List.length_drop, List.length_take]; rfl)) ?_; (with_reducible refine (bits_OnesCount8.calls (rd y159 x29_1) t164 _ A17.out).mono ?_); rintro e w' ⟨rfl, ⟨nd, rfl⟩⟩; refine ⟨_, rfl, ?_⟩))
                      go_roundg k1
                      case measure => have := HK1.out; omega
                      case rel => exact ⟨(wrap64 (x7_1 + t164)), (wrap64 (x29_1 + 1)), (by first | rfl | (simp; done) | (simp [*]; done)), (by first | rfl | (simp; done) | (simp [*]; done)), H', ⟨by have := HK1.out; omega⟩, by repeat (first | exact Drawn0.refl _ | apply Drawn0.step)⟩
                    · rw [if_neg c16] at H
                      exact absurd H (by simp)
                  · rw [if_neg c15] at H
                    exact absurd H (by simp)
                · rw [if_neg c14] at H
                  have c14b0 : decide (x29_1 < (y159.length : Int)) = false := decide_eq_false c14
                  clear c14
                  obtain rfl := Option.some.inj H
                  go_wp2
                  go_ret
                  exact ⟨by first | rfl | (simp; done) | (simp only [← hji6, ← hji8, ← hji10] <;> (first | rfl | simp)) | (simp [*]; done), by repeat (first | exact Drawn0.refl _ | apply Drawn0.step)⟩
          · rw [if_neg c12] at H
            exact absurd H (by simp)
        · rw [if_neg c11] at H
          exact absurd H (by simp)
      · rw [if_neg c7] at H
        exact absurd H (by simp)
    · rw [if_neg c5] at H
      exact absurd H (by simp)
  · rw [if_neg c4] at H
    exact absurd H (by simp)

end Go.Proofs.Ytbmeegkgcipmoaa.PFnBitsOnes
