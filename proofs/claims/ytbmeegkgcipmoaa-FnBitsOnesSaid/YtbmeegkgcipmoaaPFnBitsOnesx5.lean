/- Printed by a program of this session (it drives the print of the kit, with contracts proved by hand beside): the Go functions of one law as Lean functions, and that the Go code comes to what they say. -/
import Derived.Test.YtbmeegkgcipmoaaPFnBitsOnesx0
import Derived.Test.YtbmeegkgcipmoaaPFnBitsOnesx1
namespace Go.Proofs.Ytbmeegkgcipmoaa.PFnBitsOnes
open Go.RowKit Go.Proofs.YtbmeegkgcipmoaaL Go.Proofs.YtbmeegkgcipmoaaW.PrintWords Go.Proofs.YtbmeegkgcipmoaaW.PrintLast Go.Proofs.YtbmeegkgcipmoaaW.PrintMore
attribute [local go_sem] max2_int min2_int max_two min_two max_three min_three max_four min_four   -- for this text's walks alone
set_option linter.unusedVariables false
set_option linter.unusedSimpArgs false

/-! ### gobitfield_Bitfield_Bit: function 46 -/
def gobitfield_Bitfield_Bit.f (l0 : List Int) (a1 : Int) : Option (Bool) := (gobitfield_Bitfield_offset.f l0 a1).bind fun bt150 => (if 0 ≤ bt150.1 then (if bt150.1 < (l0.length : Int) then (if 0 ≤ bt150.2 then (some ((Go.bits .and .u8 (shr .u8 (rd l0 bt150.1) bt150.2) 1) != 0)) else (none)) else (none)) else (none))
set_option maxHeartbeats 8000000 in
set_option maxRecDepth 100000 in
theorem gobitfield_Bitfield_Bit.calls (A0 : Option Addr) (c0 : Nat) (l0 : List Int) (a1 : Int) (r : Bool) (w : World) (hr0 : Kd.C (Kd.int .u8) w A0 l0.length l0) (hc0 : l0.length ≤ c0) (h : gobitfield_Bitfield_Bit.f l0 a1 = some r) :
    Calls Try.prog 46 #[.slice A0 l0.length c0, .int .i64 a1] w fun e w' => e = .returned (.bool r) ∧ Drawn0 w w' := by
  have HR0 := Aside0.mk hr0
  have HC0 := Aside0.mk hc0
  clear hr0 hc0
  have H : ((gobitfield_Bitfield_offset.f l0 a1).bind fun bt150 => (if 0 ≤ bt150.1 then (if bt150.1 < (l0.length : Int) then (if 0 ≤ bt150.2 then (some ((Go.bits .and .u8 (shr .u8 (rd l0 bt150.1) bt150.2) 1) != 0)) else (none)) else (none)) else (none))) = some r := h
  clear h
  replace H := Option.bind_eq_some_iff.mp H
  obtain ⟨⟨t150, t151⟩, A30, H⟩ := H
  replace H : (if 0 ≤ t150 then (if t150 < (l0.length : Int) then (if 0 ≤ t151 then (some ((Go.bits .and .u8 (shr .u8 (rd l0 t150) t151) 1) != 0)) else (none)) else (none)) else (none)) = some r := H
  have A3 := Aside0.mk A30
  clear A30
  by_cases c4 : 0 ≤ t150
  · rw [if_pos c4] at H
    have c4b0 : decide (0 ≤ t150) = true := decide_eq_true c4
    clear c4
    by_cases c5 : t150 < (l0.length : Int)
    · rw [if_pos c5] at H
      have c5b0 : decide (t150 < (l0.length : Int)) = true := decide_eq_true c5
      clear c5
      by_cases c6 : 0 ≤ t151
      · rw [if_pos c6] at H
        have c6b0 := eq_true c6
        have c6b1 : decide (0 ≤ t151) = true := decide_eq_true c6
        clear c6
        obtain ⟨ji7, hji7⟩ : ∃ j_ : Int, (shr .u8 (rd l0 t150) t151) = j_ := ⟨_, rfl⟩
        replace H : (some ((Go.bits .and .u8 (ji7) 1) != 0)) = some r := by first | (rw [hji7] at H; exact H) | (simp only [hji7] at H ⊢; exact H)
        (try rw [hji7] at A3)
        have hji7_ : ((rd l0 t150) / 2 ^ min t151.toNat 8) = ji7 := hji7
        have hji7z : t151 ≤ 8 → ((rd l0 t150) / 2 ^ t151.toNat) = ji7 := shr_small hji7
        obtain rfl := Option.some.inj H
        go_enter Try.func46, Try.ntmps46
        go_wp2_with (first | ((with_reducible refine gate_callee (f := 66) rfl ?_); refine goesL_ (some 10) rfl rfl Try.func66 (by kernel_rfl) rfl #[.slice A0 l0.length c0, .int .i64 a1] rfl (by (try simp only [List.map_toArray, List.map_cons, List.map_nil]); first | done | rfl | (simp only [List.length_drop, List.length_take]; rfl)) ?_; (with_reducible refine (gobitfield_Bitfield_offset.calls _ _ l0 a1 t150 t151 _ ?side1 ?side2 A3.out).mono ?_); (case side1 => repeat (first | exact HR0.out | (with_reducible refine Kd.C_alloc ?_ _) | (with_reducible refine Kd.C_drewN ?_ _) | (with_reducible refine Kd.C_drew ?_))); (case side2 => exact HC0.out); rintro e w' ⟨rfl, ⟨nd, rfl⟩⟩; refine ⟨_, rfl, ?_⟩; have p152 : 0 ≤ (t150 : Int) := of_decide_eq_true (by first | (with_reducible assumption) | assumption); have q152 : t150 < (l0.length : Int) := of_decide_eq_true (by first | (with_reducible assumption) | assumption); obtain ⟨ad152, e152, hx152_0⟩ := Kd.at_int HR0.out t150 p152 q152; cases e152; replace p152 := eq_true p152; replace q152 := eq_true q152))
        go_ret
        exact ⟨by first | rfl | (simp; done) | (simp only [← hji7] <;> (first | rfl | simp)) | (simp [*]; done), by repeat (first | exact Drawn0.refl _ | apply Drawn0.step)⟩
      · rw [if_neg c6] at H
        exact absurd H (by simp)
    · rw [if_neg c5] at H
      exact absurd H (by simp)
  · rw [if_neg c4] at H
    exact absurd H (by simp)

/-! ### bits_OnesCount8: function 67, by hand -/
-- HAND math/bits.OnesCount8
-- shelf: yes
def bits_OnesCount8.f (a0 : Int) : Option (Int) := if 0 ≤ a0 ∧ a0 ≤ 255 then some (Lib.onesCount a0.toNat : Int) else none
theorem bits_OnesCount8.calls (a0 : Int) (r : Int) (w : World) (h : bits_OnesCount8.f a0 = some r) :
    Calls Try.prog 67 #[.int .u8 a0] w fun e w' => e = .returned (.int .i64 r) ∧ Drawn0 w w' := by
  unfold bits_OnesCount8.f at h
  by_cases c : 0 ≤ a0 ∧ a0 ≤ 255
  · rw [if_pos c] at h
    obtain rfl := Option.some.inj h
    refine (Try.bits_OnesCount8 a0 w c.1 c.2).mono ?_
    rintro e w' ⟨rfl, rfl⟩
    exact ⟨rfl, Drawn0.refl _⟩
  · rw [if_neg c] at h
    exact absurd h (by simp)


/-! ### gobitfield_Bitfield_Ones: function 47 -/
def gobitfield_Bitfield_Ones.l0 : Nat → Int → List Int → Int → Int → Option (Int)
  | 0, _, _, _, _ => none
  | k + 1, x3, x6, x7, x8 => if x8 < x7 then (if 0 ≤ x8 then (if x8 < (x6.length : Int) then ((bits_OnesCount8.f (rd x6 x8)).bind fun t154 => (gobitfield_Bitfield_Ones.l0 k (wrap64 (x3 + t154)) x6 x7 (wrap64 (x8 + 1)))) else (none)) else (none)) else (some x3)
def gobitfield_Bitfield_Ones.f (k : Nat) (l0 : List Int) : Option (Int) := gobitfield_Bitfield_Ones.l0 k 0 l0 (l0.length : Int) 0
theorem gobitfield_Bitfield_Ones.mono_l : ∀ k, (∀ y0 y1 y2 y3, LeO (gobitfield_Bitfield_Ones.l0 k y0 y1 y2 y3) (gobitfield_Bitfield_Ones.l0 (k + 1) y0 y1 y2 y3))
  | 0 => fun _ _ _ _ r h => by simp [gobitfield_Bitfield_Ones.l0] at h
  | k + 1 => by
    have ih0 := gobitfield_Bitfield_Ones.mono_l k
    · intro y0 y1 y2 y3
      unfold gobitfield_Bitfield_Ones.l0
      repeat' first
      | (with_reducible exact ih0 _ _ _ _)
      | (with_reducible exact LeO.refl _)
      | (with_reducible exact LeO.none _)
      | (with_reducible refine LeO.ite ?_ ?_)
      | (with_reducible refine LeO.bind ?_ (fun _ => ?_))
      | exact ih0 _ _ _ _
      | exact LeO.none _
      | refine LeO.ite ?_ ?_
      | refine LeO.bind ?_ (fun _ => ?_)
theorem gobitfield_Bitfield_Ones.mono : ∀ a0 k, LeO (gobitfield_Bitfield_Ones.f k a0) (gobitfield_Bitfield_Ones.f (k + 1) a0) := by
  intro a0 k
  have ih0 := gobitfield_Bitfield_Ones.mono_l k
  unfold gobitfield_Bitfield_Ones.f
  repeat' first
      | (with_reducible exact ih0 _ _ _ _)
      | (with_reducible exact LeO.refl _)
      | (with_reducible exact LeO.none _)
      | (with_reducible refine LeO.ite ?_ ?_)
      | (with_reducible refine LeO.bind ?_ (fun _ => ?_))
      | exact ih0 _ _ _ _
      | exact LeO.none _
      | refine LeO.ite ?_ ?_
      | refine LeO.bind ?_ (fun _ => ?_)
set_option maxHeartbeats 8000000 in
set_option maxRecDepth 100000 in
theorem gobitfield_Bitfield_Ones.calls (k : Nat) (A0 : Option Addr) (c0 : Nat) (l0 : List Int) (r : Int) (w : World) (hr0 : Kd.C (Kd.int .u8) w A0 l0.length l0) (hc0 : l0.length ≤ c0) (h : gobitfield_Bitfield_Ones.f k l0 = some r) :
    Calls Try.prog 47 #[.slice A0 l0.length c0] w fun e w' => e = .returned (.int .i64 r) ∧ Drawn0 w w' := by
  have HR0 := Aside0.mk hr0
  have HC0 := Aside0.mk hc0
  clear hr0 hc0
  have H : (gobitfield_Bitfield_Ones.l0 k 0 l0 (l0.length : Int) 0) = some r := h
  clear h
  have H' := Aside0.mk H
  clear H
  go_enter Try.func47, Try.ntmps47
  go_wp2
  go_loopg [3, 8] k (fun kq v3 v8 w' => ∃ (x3_1 : Int) (x8_1 : Int), v3 = .int .i64 x3_1 ∧ v8 = .int .i64 x8_1 ∧ Aside0 (gobitfield_Bitfield_Ones.l0 kq x3_1 l0 (l0.length : Int) x8_1 = some r) ∧ Aside0 (kq ≤ k) ∧ Drawn0 w w')
  case atStart => exact ⟨(0), (0), (by first | rfl | (simp; done) | (simp [*]; done)), (by first | rfl | (simp; done) | (simp [*]; done)), H', ⟨Nat.le_refl _⟩, by repeat (first | exact Drawn0.refl _ | apply Drawn0.step)⟩
  case round =>
    clear H'
    obtain ⟨x3_1, x8_1, rfl, rfl, HA, HK1, ⟨m1, rfl⟩⟩ := hrel
    cases gk with
    | zero => exact absurd HA.out (by simp [gobitfield_Bitfield_Ones.l0])
    | succ k1 =>
      have H := HA.out
      clear HA
      simp only [gobitfield_Bitfield_Ones.l0] at H
      by_cases c2 : x8_1 < (l0.length : Int)
      · rw [if_pos c2] at H
        have c2b0 : decide (x8_1 < (l0.length : Int)) = true := decide_eq_true c2
        clear c2
        by_cases c3 : 0 ≤ x8_1
        · rw [if_pos c3] at H
          have c3b0 : decide (0 ≤ x8_1) = true := decide_eq_true c3
          clear c3
          by_cases c4 : x8_1 < (l0.length : Int)
          · rw [if_pos c4] at H
            have c4b0 : decide (x8_1 < (l0.length : Int)) = true := decide_eq_true c4
            clear c4
            replace H := Option.bind_eq_some_iff.mp H
            obtain ⟨t154, A50, H⟩ := H
            replace H : (gobitfield_Bitfield_Ones.l0 k1 (wrap64 (x3_1 + t154)) l0 (l0.length : Int) (wrap64 (x8_1 + 1))) = some r := H
            have A5 := Aside0.mk A50
            clear A50
            have H' := Aside0.mk H
            clear H
            have p153 : 0 ≤ (x8_1 : Int) := of_decide_eq_true (by first | (with_reducible assumption) | assumption)
            have q153 : x8_1 < (l0.length : Int) := of_decide_eq_true (by first | (with_reducible assumption) | assumption)
            obtain ⟨ad153, e153, hx153_0⟩ := Kd.at_int HR0.out x8_1 p153 q153
            cases e153
            replace p153 := eq_true p153
            replace q153 := eq_true q153
            go_wp2_with (first | ((with_reducible refine gate_callee (f := 67) rfl ?_); refine goesL_ (some 14) rfl rfl Try.func67 (by kernel_rfl) rfl #[.int .u8 (rd l0 x8_1)] rfl (by (try simp only [List.map_toArray, List.map_cons, List.map_nil]); first | done | rfl | (simp only [List.length_drop, List.length_take]; rfl)) ?_; (with_reducible refine (bits_OnesCount8.calls (rd l0 x8_1) t154 _ A5.out).mono ?_); rintro e w' ⟨rfl, ⟨nd, rfl⟩⟩; refine ⟨_, rfl, ?_⟩))
            go_roundg k1
            case measure => have := HK1.out; omega
            case rel => exact ⟨(wrap64 (x3_1 + t154)), (wrap64 (x8_1 + 1)), (by first | rfl | (simp; done) | (simp [*]; done)), (by first | rfl | (simp; done) | (simp [*]; done)), H', ⟨by have := HK1.out; omega⟩, by repeat (first | exact Drawn0.refl _ | apply Drawn0.step)⟩
          · rw [if_neg c4] at H
            exact absurd H (by simp)
        · rw [if_neg c3] at H
          exact absurd H (by simp)
      · rw [if_neg c2] at H
        have c2b0 : decide (x8_1 < (l0.length : Int)) = false := decide_eq_false c2
        clear c2
        obtain rfl := Option.some.inj H
        go_wp2
        go_ret
        exact ⟨by first | rfl | (simp; done) | (simp [*]; done), by repeat (first | exact Drawn0.refl _ | apply Drawn0.step)⟩

end Go.Proofs.Ytbmeegkgcipmoaa.PFnBitsOnes
