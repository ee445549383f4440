/- Printed by a program of this session (it drives the print of the kit, with contracts proved by hand beside): the Go functions of one law as Lean functions, and that the Go code comes to what they say. -/
import Derived.Test.YtbmeegkgcipmoaaPFnBitsOnesx0
import Derived.Test.YtbmeegkgcipmoaaPFnBitsOnesx1
import Derived.Test.YtbmeegkgcipmoaaPFnBitsOnesx5
namespace Go.Proofs.Ytbmeegkgcipmoaa.PFnBitsOnes
open Go.RowKit Go.Proofs.YtbmeegkgcipmoaaL Go.Proofs.YtbmeegkgcipmoaaW.PrintWords Go.Proofs.YtbmeegkgcipmoaaW.PrintLast Go.Proofs.YtbmeegkgcipmoaaW.PrintMore
attribute [local go_sem] max2_int min2_int max_two min_two max_three min_three max_four min_four   -- for this text's walks alone
set_option linter.unusedVariables false
set_option linter.unusedSimpArgs false

/-! ### gobitfield_Bitfield_OnesAfter: function 49 -/
def gobitfield_Bitfield_OnesAfter.l0 : Nat → Int → List Int → Int → Int → Option (Int)
  | 0, _, _, _, _ => none
  | k + 1, x7, x25, x26, x27 => if x27 < x26 then (if 0 ≤ x27 then (if x27 < (x25.length : Int) then ((bits_OnesCount8.f (rd x25 x27)).bind fun t174 => (gobitfield_Bitfield_OnesAfter.l0 k (wrap64 (x7 + t174)) x25 x26 (wrap64 (x27 + 1)))) else (none)) else (none)) else (some x7)
def gobitfield_Bitfield_OnesAfter.f (k : Nat) (l0 : List Int) (a1 : Int) : Option (Int) := (gobitfield_Bitfield_offset.f l0 a1).bind fun bt165 => (if 0 ≤ bt165.1 then (if bt165.1 < (l0.length : Int) then (if 0 ≤ bt165.2 then ((bits_OnesCount8.f (shr .u8 (rd l0 bt165.1) bt165.2)).bind fun t168 => (if bt165.1 ≤ (l0.length : Int) then ((some (l0.take (bt165.1 : Int).toNat : List Int)).bind fun y169 => (gobitfield_Bitfield_OnesAfter.l0 k t168 y169 (y169.length : Int) 0)) else (none))) else (none)) else (none)) else (none))
theorem gobitfield_Bitfield_OnesAfter.mono_l : ∀ k, (∀ y0 y1 y2 y3, LeO (gobitfield_Bitfield_OnesAfter.l0 k y0 y1 y2 y3) (gobitfield_Bitfield_OnesAfter.l0 (k + 1) y0 y1 y2 y3))
  | 0 => fun _ _ _ _ r h => by simp [gobitfield_Bitfield_OnesAfter.l0] at h
  | k + 1 => by
    have ih0 := gobitfield_Bitfield_OnesAfter.mono_l k
    · intro y0 y1 y2 y3
      unfold gobitfield_Bitfield_OnesAfter.l0
      repeat' first
      | (with_reducible exact ih0 _ _ _ _)
      | (with_reducible exact LeO.refl _)
      | (with_reducible exact LeO.none _)
      | (with_reducible refine LeO.ite ?_ ?_)
      | (with_reducible refine LeO.bind ?_ (fun _ => ?_))
      | exact ih0 _ _ _ _
      | exact LeO.none _
      | refine LeO.ite ?_ ?_
      | refine LeO.bind ?_ (fun _ => ?_)
theorem gobitfield_Bitfield_OnesAfter.mono : ∀ a0 a1 k, LeO (gobitfield_Bitfield_OnesAfter.f k a0 a1) (gobitfield_Bitfield_OnesAfter.f (k + 1) a0 a1) := by
  intro a0 a1 k
  have ih0 := gobitfield_Bitfield_OnesAfter.mono_l k
  unfold gobitfield_Bitfield_OnesAfter.f
  repeat' first
      | (with_reducible exact ih0 _ _ _ _)
      | (with_reducible exact LeO.refl _)
      | (with_reducible exact LeO.none _)
      | (with_reducible refine LeO.ite ?_ ?_)
      | (with_reducible refine LeO.bind ?_ (fun _ => ?_))
      | exact ih0 _ _ _ _
      | exact LeO.none _
      | refine LeO.ite ?_ ?_
      | refine LeO.bind ?_ (fun _ => ?_)
set_option maxHeartbeats 8000000 in
set_option maxRecDepth 100000 in
theorem gobitfield_Bitfield_OnesAfter.calls (k : Nat) (A0 : Option Addr) (c0 : Nat) (l0 : List Int) (a1 : Int) (r : Int) (w : World) (hr0 : Kd.C (Kd.int .u8) w A0 l0.length l0) (hc0 : l0.length ≤ c0) (h : gobitfield_Bitfield_OnesAfter.f k l0 a1 = some r) :
    Calls Try.prog 49 #[.slice A0 l0.length c0, .int .i64 a1] w fun e w' => e = .returned (.int .i64 r) ∧ Drawn0 w w' := by
  have HR0 := Aside0.mk hr0
  have HC0 := Aside0.mk hc0
  clear hr0 hc0
  have H : ((gobitfield_Bitfield_offset.f l0 a1).bind fun bt165 => (if 0 ≤ bt165.1 then (if bt165.1 < (l0.length : Int) then (if 0 ≤ bt165.2 then ((bits_OnesCount8.f (shr .u8 (rd l0 bt165.1) bt165.2)).bind fun t168 => (if bt165.1 ≤ (l0.length : Int) then ((some (l0.take (bt165.1 : Int).toNat : List Int)).bind fun y169 => (gobitfield_Bitfield_OnesAfter.l0 k t168 y169 (y169.length : Int) 0)) else (none))) else (none)) else (none)) else (none))) = some r := h
  clear h
  replace H := Option.bind_eq_some_iff.mp H
  obtain ⟨⟨t165, t166⟩, A30, H⟩ := H
  replace H : (if 0 ≤ t165 then (if t165 < (l0.length : Int) then (if 0 ≤ t166 then ((bits_OnesCount8.f (shr .u8 (rd l0 t165) t166)).bind fun t168 => (if t165 ≤ (l0.length : Int) then ((some (l0.take (t165 : Int).toNat : List Int)).bind fun y169 => (gobitfield_Bitfield_OnesAfter.l0 k t168 y169 (y169.length : Int) 0)) else (none))) else (none)) else (none)) else (none)) = some r := H
  have A3 := Aside0.mk A30
  clear A30
  by_cases c4 : 0 ≤ t165
  · rw [if_pos c4] at H
    have c4b0 : decide (0 ≤ t165) = true := decide_eq_true c4
    clear c4
    by_cases c5 : t165 < (l0.length : Int)
    · rw [if_pos c5] at H
      have c5b0 : decide (t165 < (l0.length : Int)) = true := decide_eq_true c5
      clear c5
      by_cases c6 : 0 ≤ t166
      · rw [if_pos c6] at H
        have c6b0 := eq_true c6
        have c6b1 : decide (0 ≤ t166) = true := decide_eq_true c6
        clear c6
        obtain ⟨ji7, hji7⟩ : ∃ j_ : Int, (shr .u8 (rd l0 t165) t166) = j_ := ⟨_, rfl⟩
        replace H : ((bits_OnesCount8.f (ji7)).bind fun t168 => (if t165 ≤ (l0.length : Int) then ((some (l0.take (t165 : Int).toNat : List Int)).bind fun y169 => (gobitfield_Bitfield_OnesAfter.l0 k t168 y169 (y169.length : Int) 0)) else (none))) = some r := by first | (rw [hji7] at H; exact H) | (simp only [hji7] at H ⊢; exact H)
        (try rw [hji7] at A3)
        have hji7_ : ((rd l0 t165) / 2 ^ min t166.toNat 8) = ji7 := hji7
        have hji7z : t166 ≤ 8 → ((rd l0 t165) / 2 ^ t166.toNat) = ji7 := shr_small hji7
        replace H := Option.bind_eq_some_iff.mp H
        obtain ⟨t168, A80, H⟩ := H
        replace H : (if t165 ≤ (l0.length : Int) then ((some (l0.take (t165 : Int).toNat : List Int)).bind fun y169 => (gobitfield_Bitfield_OnesAfter.l0 k t168 y169 (y169.length : Int) 0)) else (none)) = some r := H
        have A8 := Aside0.mk A80
        clear A80
        have c9b0 := eq_true (of_decide_eq_true (by first | (with_reducible assumption) | assumption) : 0 ≤ t165)
        by_cases c10 : t165 ≤ (l0.length : Int)
        · rw [if_pos c10] at H
          have c10b0 := eq_true c10
          have c10b1 : decide (t165 ≤ (l0.length : Int)) = true := decide_eq_true c10
          clear c10
          obtain ⟨y169, hy169⟩ : ∃ y_ : List Int, y_ = (l0.take (t165 : Int).toNat) := ⟨_, rfl⟩
          replace H : (gobitfield_Bitfield_OnesAfter.l0 k t168 y169 (y169.length : Int) 0) = some r := by first | (rw [hy169]; with_reducible exact H) | (have H2_ := (Option.bind_some _ _).symm.trans H; rw [hy169]; with_reducible exact H2_) | (have H2_ := (Option.bind_some _ _).symm.trans H; with_reducible exact H2_) | with_reducible exact H | (rw [hy169]; exact H) | exact H
          have Ny169 := Aside0.mk hy169
          clear hy169
          have H' := Aside0.mk H
          clear H
          go_enter Try.func49, Try.ntmps49
          go_wp2_with (first | ((with_reducible refine gate_callee (f := 66) rfl ?_); refine goesL_ (some 13) rfl rfl Try.func66 (by kernel_rfl) rfl #[.slice A0 l0.length c0, .int .i64 a1] rfl (by (try simp only [List.map_toArray, List.map_cons, List.map_nil]); first | done | rfl | (simp only [List.length_drop, List.length_take]; rfl)) ?_; (with_reducible refine (gobitfield_Bitfield_offset.calls _ _ l0 a1 t165 t166 _ ?side1 ?side2 A3.out).mono ?_); (case side1 => repeat (first | exact HR0.out | (with_reducible refine Kd.C_alloc ?_ _) | (with_reducible refine Kd.C_drewN ?_ _) | (with_reducible refine Kd.C_drew ?_))); (case side2 => exact HC0.out); rintro e w' ⟨rfl, ⟨nd, rfl⟩⟩; refine ⟨_, rfl, ?_⟩; have p167 : 0 ≤ (t165 : Int) := of_decide_eq_true (by first | (with_reducible assumption) | assumption); have q167 : t165 < (l0.length : Int) := of_decide_eq_true (by first | (with_reducible assumption) | assumption); obtain ⟨ad167, e167, hx167_0⟩ := Kd.at_int HR0.out t165 p167 q167; cases e167; replace p167 := eq_true p167; replace q167 := eq_true q167) | ((with_reducible refine gate_callee (f := 67) rfl ?_); refine goesL_ (some 22) rfl rfl Try.func67 (by kernel_rfl) rfl #[.int .u8 ji7] rfl (by (try simp only [List.map_toArray, List.map_cons, List.map_nil]); first | done | (simp only [hji7]; rfl) | rfl | (simp only [List.length_drop, List.length_take]; rfl)) ?_; (with_reducible refine (bits_OnesCount8.calls ji7 t168 _ A8.out).mono ?_); rintro e w' ⟨rfl, ⟨nd, rfl⟩⟩; refine ⟨_, rfl, ?_⟩; have q11 : (t165 : Int) ≤ ((l0.length : Int) : Int) := of_decide_eq_true (by first | (with_reducible assumption) | assumption); obtain ⟨i011, hi011, _, hsz11, _⟩ := info_parts info5; have hroom11 : l0.length ≤ c0 := HC0.out; have hC11 : Kd.C (Kd.int .u8) _ (some ad167) l0.length l0 := HR0.out; have hcut11 := cut_to (P := Try.prog) 59 5 .u64 Try.underlying59 hi011 (some ad167) l0.length c0 t165 (of_decide_eq_true (by first | (with_reducible assumption) | assumption)) q11 hroom11; have hr11 := Kd.C_take (m := (t165 : Int).toNat) hC11 (by omega); have hy11 : y169.length = (t165 : Int).toNat := (by rw [Ny169.out, List.length_take]; omega); rw [← Ny169.out] at hr11; rw [← hy11] at hcut11; have HR172 := Aside0.mk hr11; have HC172 := Aside0.mk (show y169.length ≤ c0 from by omega); clear hr11 hC11 hroom11 hi011 hsz11; have KY11 := Aside0.mk hy11; clear hy11; replace q11 := eq_true q11))
          go_loopg [7, 27] k (fun kq v7 v27 w' => ∃ (x7_1 : Int) (x27_1 : Int), v7 = .int .i64 x7_1 ∧ v27 = .int .i64 x27_1 ∧ Aside0 (gobitfield_Bitfield_OnesAfter.l0 kq x7_1 y169 (y169.length : Int) x27_1 = some r) ∧ Aside0 (kq ≤ k) ∧ Drawn0 w w')
          case atStart => exact ⟨(t168), (0), (by first | rfl | (simp; done) | (simp [*]; done)), (by first | rfl | (simp; done) | (simp [*]; done)), H', ⟨Nat.le_refl _⟩, by repeat (first | exact Drawn0.refl _ | apply Drawn0.step)⟩
          case round =>
            clear H'
            try clear c1
            try clear p1
            try clear q1
            try clear hx1
            try clear p2
            try clear c4
            try clear c4b0
            try clear c5
            try clear c5b0
            try clear c6
            try clear c6b0
            try clear c6b1
            try clear c9
            try clear c9b0
            try clear c10
            try clear c10b0
            try clear c10b1
            try clear q11
            try clear hx167_0
            try clear p167
            try clear q11
            try clear q167
            obtain ⟨x7_1, x27_1, rfl, rfl, HA, HK1, ⟨m1, rfl⟩⟩ := hrel
            cases gk with
            | zero => exact absurd HA.out (by simp [gobitfield_Bitfield_OnesAfter.l0])
            | succ k1 =>
              have H := HA.out
              clear HA
              simp only [gobitfield_Bitfield_OnesAfter.l0] at H
              by_cases c12 : x27_1 < (y169.length : Int)
              · rw [if_pos c12] at H
                have c12b0 : decide (x27_1 < (y169.length : Int)) = true := decide_eq_true c12
                clear c12
                by_cases c13 : 0 ≤ x27_1
                · rw [if_pos c13] at H
                  have c13b0 : decide (0 ≤ x27_1) = true := decide_eq_true c13
                  clear c13
                  by_cases c14 : x27_1 < (y169.length : Int)
                  · rw [if_pos c14] at H
                    have c14b0 : decide (x27_1 < (y169.length : Int)) = true := decide_eq_true c14
                    clear c14
                    replace H := Option.bind_eq_some_iff.mp H
                    obtain ⟨t174, A150, H⟩ := H
                    replace H : (gobitfield_Bitfield_OnesAfter.l0 k1 (wrap64 (x7_1 + t174)) y169 (y169.length : Int) (wrap64 (x27_1 + 1))) = some r := H
                    have A15 := Aside0.mk A150
                    clear A150
                    have H' := Aside0.mk H
                    clear H
                    have p173 : 0 ≤ (x27_1 : Int) := of_decide_eq_true (by first | (with_reducible assumption) | assumption)
                    have q173 : x27_1 < (y169.length : Int) := of_decide_eq_true (by first | (with_reducible assumption) | assumption)
                    obtain ⟨ad173, e173, hx173_0⟩ := Kd.at_int HR172.out x27_1 p173 q173
                    obtain rfl : ad167 = ad173 := (by injection e173)
                    replace p173 := eq_true p173
                    replace q173 := eq_true q173
                    go_wp2_with (first | ((with_reducible refine gate_callee (f := 67) rfl ?_); refine goesL_ (some 33) rfl rfl Try.func67 (by kernel_rfl) rfl #[.int .u8 (rd y169 x27_1)] rfl (by (try simp only [List.map_toArray, List.map_cons, List.map_nil]); first | done | rfl | (simp only [List.length_drop, List.length_take]; rfl)) ?_; (with_reducible refine (bits_OnesCount8.calls (rd y169 x27_1) t174 _ A15.out).mono ?_); rintro e w' ⟨rfl, ⟨nd, rfl⟩⟩; refine ⟨_, rfl, ?_⟩))
                    go_roundg k1
                    case measure => have := HK1.out; omega
                    case rel => exact ⟨(wrap64 (x7_1 + t174)), (wrap64 (x27_1 + 1)), (by first | rfl | (simp; done) | (simp [*]; done)), (by first | rfl | (simp; done) | (simp [*]; done)), H', ⟨by have := HK1.out; omega⟩, by repeat (first | exact Drawn0.refl _ | apply Drawn0.step)⟩
                  · rw [if_neg c14] at H
                    exact absurd H (by simp)
                · rw [if_neg c13] at H
                  exact absurd H (by simp)
              · rw [if_neg c12] at H
                have c12b0 : decide (x27_1 < (y169.length : Int)) = false := decide_eq_false c12
                clear c12
                obtain rfl := Option.some.inj H
                go_wp2
                go_ret
                exact ⟨by first | rfl | (simp; done) | (simp only [← hji7] <;> (first | rfl | simp)) | (simp [*]; done), by repeat (first | exact Drawn0.refl _ | apply Drawn0.step)⟩
        · rw [if_neg c10] at H
          exact absurd H (by simp)
      · rw [if_neg c6] at H
        exact absurd H (by simp)
    · rw [if_neg c5] at H
      exact absurd H (by simp)
  · rw [if_neg c4] at H
    exact absurd H (by simp)

end Go.Proofs.Ytbmeegkgcipmoaa.PFnBitsOnes
