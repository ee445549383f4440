/- Printed by a program of this session (it drives the print of the kit, with contracts proved by hand beside): the Go functions of one law as Lean functions, and that the Go code comes to what they say. -/
import Derived.Test.YtbmeegkgcipmoaaDoorPFnBitsSetx0
namespace Go.Proofs.YtbmeegkgcipmoaaDoor.PFnBitsSet
open Go.RowKit Go.Proofs.YtbmeegkgcipmoaaDoorL Go.Proofs.YtbmeegkgcipmoaaDoorW.PrintWords Go.Proofs.YtbmeegkgcipmoaaDoorW.PrintLast Go.Proofs.YtbmeegkgcipmoaaDoorW.PrintMore
attribute [local go_sem] max2_int min2_int max_two min_two max_three min_three max_four min_four   -- for this text's walks alone
set_option linter.unusedVariables false
set_option linter.unusedSimpArgs false

/-! ### errors_New: function 22, by hand -/
-- HAND errors.New
-- making: yes
/-- A new error, never nil. -/
def errors_New.f (a0 : ByteArray) : Option (Option Int) := some (some 0)
set_option maxHeartbeats 2000000 in
set_option maxRecDepth 100000 in
theorem errors_New.calls (a0 : ByteArray) (r : Option Int) (w : World) (h : errors_New.f a0 = some r) :
    Calls Tryd.prog 22 #[.string a0] w fun e w' => ExE fun eT0_ eX0_ => e = .returned (errV r eT0_ eX0_) ∧ Below w.heap.size w w' := by
  obtain rfl := Option.some.inj h
  clear h
  have HB := Aside0.mk (Below.refl w.heap.size w)
  go_enter Tryd.func22, Tryd.ntmps22
  go_wp2
  go_ret
  exact ExE.intro _ _ ⟨rfl, below_alloc HB.out _⟩


/-! ### gobitfield_NewBitfield: function 13 -/
def gobitfield_NewBitfield.f (a0 : Int) : Option (List Int × Option Int) := if a0 < 0 then ((errors_New.f (⟨#[98, 105, 116, 102, 105, 101, 108, 100, 32, 115, 105, 122, 101, 32, 109, 117, 115, 116, 32, 98, 101, 32, 112, 111, 115, 105, 116, 105, 118, 101]⟩ : ByteArray)).bind fun t101 => (some (([] : List Int), t101))) else (if (Int.tmod a0 8) = 0 then (if 0 ≤ (wrap64 (Int.tdiv a0 8)) then (if (wrap64 (Int.tdiv a0 8) : Int).toNat ≤ 281474976710656 then (some ((List.replicate (wrap64 (Int.tdiv a0 8) : Int).toNat 0), none)) else (none)) else (none)) else ((errors_New.f (⟨#[98, 105, 116, 102, 105, 101, 108, 100, 32, 115, 105, 122, 101, 32, 109, 117, 115, 116, 32, 98, 101, 32, 97, 32, 109, 117, 108, 116, 105, 112, 108, 101, 32, 111, 102, 32, 56]⟩ : ByteArray)).bind fun t105 => (some (([] : List Int), t105))))
set_option maxHeartbeats 8000000 in
set_option maxRecDepth 100000 in
theorem gobitfield_NewBitfield.calls (a0 : Int) (r1 : List Int) (r2 : Option Int) (w : World) (h : gobitfield_NewBitfield.f a0 = some (r1, r2)) :
    Calls Tryd.prog 13 #[.int .i64 a0] w fun e w' => ∃ v0_ : Value, ExE fun eT1_ eX1_ => e = .returned (.tuple #[v0_, errV r2 eT1_ eX1_]) ∧ Kd.R (Kd.int .u8) 5 w' w.heap.size (fun _ => True) v0_ r1 ∧ Below w.heap.size w w' := by
  have HB := Aside0.mk (Below.refl w.heap.size w)
  have H : (if a0 < 0 then ((errors_New.f (⟨#[98, 105, 116, 102, 105, 101, 108, 100, 32, 115, 105, 122, 101, 32, 109, 117, 115, 116, 32, 98, 101, 32, 112, 111, 115, 105, 116, 105, 118, 101]⟩ : ByteArray)).bind fun t101 => (some (([] : List Int), t101))) else (if (Int.tmod a0 8) = 0 then (if 0 ≤ (wrap64 (Int.tdiv a0 8)) then (if (wrap64 (Int.tdiv a0 8) : Int).toNat ≤ 281474976710656 then (some ((List.replicate (wrap64 (Int.tdiv a0 8) : Int).toNat 0), none)) else (none)) else (none)) else ((errors_New.f (⟨#[98, 105, 116, 102, 105, 101, 108, 100, 32, 115, 105, 122, 101, 32, 109, 117, 115, 116, 32, 98, 101, 32, 97, 32, 109, 117, 108, 116, 105, 112, 108, 101, 32, 111, 102, 32, 56]⟩ : ByteArray)).bind fun t105 => (some (([] : List Int), t105))))) = some (r1, r2) := h
  clear h
  by_cases c2 : a0 < 0
  · rw [if_pos c2] at H
    have c2b0 : decide (a0 < 0) = true := decide_eq_true c2
    clear c2
    replace H := Option.bind_eq_some_iff.mp H
    obtain ⟨t101, A30, H⟩ := H
    replace H : (some (([] : List Int), t101)) = some (r1, r2) := H
    have A3 := Aside0.mk A30
    clear A30
    simp only [Option.some.injEq, Prod.mk.injEq] at H
    obtain ⟨rfl, rfl⟩ := H
    go_enter Tryd.func13, Tryd.ntmps13
    go_wp2_with (first | ((with_reducible refine gate_callee (f := 22) rfl ?_); refine goesL_ (some 6) rfl rfl Tryd.func22 (by kernel_rfl) rfl #[.string (⟨#[98, 105, 116, 102, 105, 101, 108, 100, 32, 115, 105, 122, 101, 32, 109, 117, 115, 116, 32, 98, 101, 32, 112, 111, 115, 105, 116, 105, 118, 101]⟩ : ByteArray)] rfl (by (try simp only [List.map_toArray, List.map_cons, List.map_nil]); first | done | rfl | (simp only [List.length_drop, List.length_take]; rfl)) ?_; (with_reducible refine (errors_New.calls (⟨#[98, 105, 116, 102, 105, 101, 108, 100, 32, 115, 105, 122, 101, 32, 109, 117, 115, 116, 32, 98, 101, 32, 112, 111, 115, 105, 116, 105, 118, 101]⟩ : ByteArray) t101 _ A3.out).mono ?_); rintro e w4 ⟨eT_t101, eX_t101, rfl, hb⟩; refine ⟨_, rfl, ?_⟩; have n0_ := Aside0.mk (below_step (by repeat (first | (with_reducible first | exact HB.out | apply below_alloc | apply pw_below_drewN | apply below_drew1) | exact HB.out)) hb); clear HB; have HB := n0_; clear n0_; (try clear hb); (try clear hb2); (try clear hk); (try clear hi); (try simp only [errV_none, errV_some])))
    go_ret2
    exact ⟨_, ExE.intro _ _ (⟨by first | rfl | (simp [errV_none, errV_some] <;> rfl) | (simp [*, errV_none, errV_some] <;> rfl), by first | exact Kd.R_nil _ _ _ _ _ | exact Kd.N_nil _ _ _ _ _ | exact Kd.V_nil _ _ _ _ _ | exact Kd.Q_nil _ _ _ _ _ | exact Kd.S_nil _ _ _ _ _, by repeat (first | (with_reducible first | exact HB.out | apply below_alloc | apply pw_below_drewN | apply below_drew1) | exact HB.out)⟩)⟩
  · rw [if_neg c2] at H
    have c2b0 : decide (a0 < 0) = false := decide_eq_false c2
    clear c2
    by_cases c5 : (Int.tmod a0 8) = 0
    · rw [if_pos c5] at H
      have c5b0 : ((Int.tmod a0 8) == 0) = true := beq_iff_eq.mpr c5
      have c5b1 : ((Int.tmod a0 8) != 0) = false := bne_eq_false_iff_eq.mpr c5
      clear c5
      obtain ⟨ji6, hji6⟩ : ∃ j_ : Int, (wrap64 (Int.tdiv a0 8)) = j_ := ⟨_, rfl⟩
      replace H : (if 0 ≤ (ji6) then (if (ji6 : Int).toNat ≤ 281474976710656 then (some ((List.replicate (ji6 : Int).toNat 0), none)) else (none)) else (none)) = some (r1, r2) := by first | (rw [hji6] at H; exact H) | (simp only [hji6] at H ⊢; exact H)
      have hji6w : (IntKind.i64.wrap (Int.tdiv a0 8)) = ji6 := (i64_w _).trans hji6
      by_cases c7 : 0 ≤ (ji6)
      · rw [if_pos c7] at H
        have c7b0 := eq_true c7
        have c7b1 : decide (0 ≤ (ji6)) = true := decide_eq_true c7
        clear c7
        by_cases c8 : (ji6 : Int).toNat ≤ 281474976710656
        · rw [if_pos c8] at H
          have c8b0 := eq_true c8
          have c8b1 : decide ((ji6 : Int).toNat ≤ 281474976710656) = true := decide_eq_true c8
          clear c8
          obtain ⟨y102, hy102⟩ : ∃ y_ : List Int, y_ = (List.replicate (ji6 : Int).toNat 0) := ⟨_, rfl⟩
          replace H : (some (y102, none)) = some (r1, r2) := by first | (rw [hy102]; with_reducible exact H) | (have H2_ := (Option.bind_some _ _).symm.trans H; rw [hy102]; with_reducible exact H2_) | (have H2_ := (Option.bind_some _ _).symm.trans H; with_reducible exact H2_) | with_reducible exact H | (rw [hy102]; exact H) | exact H
          have Ny102 := Aside0.mk hy102
          clear hy102
          simp only [Option.some.injEq, Prod.mk.injEq] at H
          obtain ⟨rfl, rfl⟩ := H
          go_enter Tryd.func13, Tryd.ntmps13
          go_wp2_with (first | ((with_reducible refine gate_dst (N := 13) rfl ?_); refine Kd.R_make (Kd.int .u8) _ 5 rfl (N := 13) rfl 24 _ _ rfl ji6 rfl rfl Tryd.underlying24 (.int .u8 0) 1 info5 rfl (by decide) (by omega) 0 (ok := fun _ => True) (okp := fun _ => True) rfl (fun _ hk => hk) trivial (of_decide_eq_true (by first | (with_reducible assumption) | assumption)) (Nat.le_trans (Nat.mul_le_mul_right _ (of_decide_eq_true (by first | (with_reducible assumption) | assumption) : ji6.toNat ≤ 281474976710656)) (by omega)) (Below.refl _ _) (Nat.le_refl _) ?_; intro v103 w9 ho10 hb hg_ hnew_; clear hg_ hnew_; (first | rw [← Ny102.out] at ho10 | (simp only [Int.reduceToNat] at ho10; rw [← Ny102.out] at ho10)); have n0_ := Aside0.mk (Kd.R_lower ho10 (below_size (by repeat (first | (with_reducible first | exact HB.out | apply below_alloc | apply pw_below_drewN | apply below_drew1) | exact HB.out)))); have n1_ := Aside0.mk (below_step (by repeat (first | (with_reducible first | exact HB.out | apply below_alloc | apply pw_below_drewN | apply below_drew1) | exact HB.out)) hb); clear HB; have HO104 := n0_; have HB := n1_; clear n0_ n1_; clear hb ho10))
          go_ret2
          exact ⟨_, ExE.intro 0 .nilIface (⟨by first | rfl | (simp [errV_none, errV_some] <;> rfl) | (simp only [← hji6]; first | rfl | (simp [errV_none, errV_some] <;> rfl)) | (simp [*, errV_none, errV_some] <;> rfl), by (with_reducible repeat (first | apply Kd.R_alloc | apply Kd.R_drewN | apply Kd.R_drew)); exact HO104.out, by repeat (first | (with_reducible first | exact HB.out | apply below_alloc | apply pw_below_drewN | apply below_drew1) | exact HB.out)⟩)⟩
        · rw [if_neg c8] at H
          exact absurd H (by simp)
      · rw [if_neg c7] at H
        exact absurd H (by simp)
    · rw [if_neg c5] at H
      have c5b0 : ((Int.tmod a0 8) == 0) = false := beq_eq_false_iff_ne.mpr c5
      have c5b1 : ((Int.tmod a0 8) != 0) = true := bne_iff_ne.mpr c5
      replace H := Option.bind_eq_some_iff.mp H
      obtain ⟨t105, A110, H⟩ := H
      replace H : (some (([] : List Int), t105)) = some (r1, r2) := H
      have A11 := Aside0.mk A110
      clear A110
      simp only [Option.some.injEq, Prod.mk.injEq] at H
      obtain ⟨rfl, rfl⟩ := H
      go_enter Tryd.func13, Tryd.ntmps13
      go_wp2_with (first | ((with_reducible refine gate_callee (f := 22) rfl ?_); refine goesL_ (some 10) rfl rfl Tryd.func22 (by kernel_rfl) rfl #[.string (⟨#[98, 105, 116, 102, 105, 101, 108, 100, 32, 115, 105, 122, 101, 32, 109, 117, 115, 116, 32, 98, 101, 32, 97, 32, 109, 117, 108, 116, 105, 112, 108, 101, 32, 111, 102, 32, 56]⟩ : ByteArray)] rfl (by (try simp only [List.map_toArray, List.map_cons, List.map_nil]); first | done | rfl | (simp only [List.length_drop, List.length_take]; rfl)) ?_; (with_reducible refine (errors_New.calls (⟨#[98, 105, 116, 102, 105, 101, 108, 100, 32, 115, 105, 122, 101, 32, 109, 117, 115, 116, 32, 98, 101, 32, 97, 32, 109, 117, 108, 116, 105, 112, 108, 101, 32, 111, 102, 32, 56]⟩ : ByteArray) t105 _ A11.out).mono ?_); rintro e w12 ⟨eT_t105, eX_t105, rfl, hb⟩; refine ⟨_, rfl, ?_⟩; have n0_ := Aside0.mk (below_step (by repeat (first | (with_reducible first | exact HB.out | apply below_alloc | apply pw_below_drewN | apply below_drew1) | exact HB.out)) hb); clear HB; have HB := n0_; clear n0_; (try clear hb); (try clear hb2); (try clear hk); (try clear hi); (try simp only [errV_none, errV_some])))
      go_ret2
      exact ⟨_, ExE.intro _ _ (⟨by first | rfl | (simp [errV_none, errV_some] <;> rfl) | (simp [*, errV_none, errV_some] <;> rfl), by first | exact Kd.R_nil _ _ _ _ _ | exact Kd.N_nil _ _ _ _ _ | exact Kd.V_nil _ _ _ _ _ | exact Kd.Q_nil _ _ _ _ _ | exact Kd.S_nil _ _ _ _ _, by repeat (first | (with_reducible first | exact HB.out | apply below_alloc | apply pw_below_drewN | apply below_drew1) | exact HB.out)⟩)⟩

/-! ### gobitfield_Bitfield_offset: function 23 -/
def gobitfield_Bitfield_offset.f (l0 : List Int) (a1 : Int) : Option (Int × Int) := some (IntKind.u64.wrap ((IntKind.u64.wrap ((IntKind.u64.wrap ((l0.length : Int))) - (IntKind.u64.wrap (Int.tdiv (IntKind.u64.wrap (a1)) 8)))) - 1), ((a1) % 256) % 8)
set_option maxHeartbeats 8000000 in
set_option maxRecDepth 100000 in
theorem gobitfield_Bitfield_offset.calls (A0 : Option Addr) (c0 : Nat) (l0 : List Int) (a1 : Int) (r1 : Int) (r2 : Int) (w : World) (hr0 : Kd.C (Kd.int .u8) w A0 l0.length l0) (hc0 : l0.length ≤ c0) (h : gobitfield_Bitfield_offset.f l0 a1 = some (r1, r2)) :
    Calls Tryd.prog 23 #[.slice A0 l0.length c0, .int .i64 a1] w fun e w' => e = .returned (.tuple #[.int .u64 r1, .int .u8 r2]) ∧ Drawn0 w w' := by
  have HR0 := Aside0.mk hr0
  have HC0 := Aside0.mk hc0
  clear hr0 hc0
  have H : (some (IntKind.u64.wrap ((IntKind.u64.wrap ((IntKind.u64.wrap ((l0.length : Int))) - (IntKind.u64.wrap (Int.tdiv (IntKind.u64.wrap (a1)) 8)))) - 1), ((a1) % 256) % 8)) = some (r1, r2) := h
  clear h
  simp only [Option.some.injEq, Prod.mk.injEq] at H
  obtain ⟨rfl, rfl⟩ := H
  go_enter Tryd.func23, Tryd.ntmps23
  go_wp2
  go_ret2
  exact ⟨by first | rfl | (simp; done) | (simp [*]; done), by repeat (first | exact Drawn0.refl _ | apply Drawn0.step)⟩

/-! ### gobitfield_Bitfield_SetBit: function 14 -/
def gobitfield_Bitfield_SetBit.f (l0 : List Int) (a1 : Int) : Option (List Int) := (gobitfield_Bitfield_offset.f l0 a1).bind fun bt106 => (if 0 ≤ bt106.1 then (if bt106.1 < (l0.length : Int) then (if 0 ≤ bt106.2 then (some (l0.set (bt106.1 : Int).toNat (Go.bits .or .u8 (rd l0 bt106.1) (shl .u8 1 bt106.2)))) else (none)) else (none)) else (none))
set_option maxHeartbeats 8000000 in
set_option maxRecDepth 100000 in
theorem gobitfield_Bitfield_SetBit.calls (P0_ : Nat → Prop) (u9000_ : Value) (l0 : List Int) (a1 : Int) (r : List Int) (w0 w : World) (hB : Below w0.heap.size w0 w) (ho0 : Kd.R (Kd.int .u8) 5 w w0.heap.size P0_ u9000_ l0) (h : gobitfield_Bitfield_SetBit.f l0 a1 = some r) :
    Calls Tryd.prog 14 #[u9000_, .int .i64 a1] w fun e w' => e = .returned (.tuple #[]) ∧ Kd.R (Kd.int .u8) 5 w' w0.heap.size (fun k_ => (P0_ k_ ∨ w.heap.size ≤ k_)) u9000_ r ∧ Below w0.heap.size w0 w' ∧ Kept w w' (fun k_ => P0_ k_) := by
  have HO0 := Aside0.mk (show Kd.R (Kd.int .u8) 5 w w0.heap.size (fun k_ => (P0_ k_ ∨ w.heap.size ≤ k_)) u9000_ l0 from Kd.R_mono ho0 (fun k_ hk => (.inl hk)))
  have HK := Aside0.mk (Kept.refl w (fun k_ => P0_ k_))
  have HW0 := Aside0.mk hB.size
  have HB := Aside0.mk hB
  clear hB
  have H : ((gobitfield_Bitfield_offset.f l0 a1).bind fun bt106 => (if 0 ≤ bt106.1 then (if bt106.1 < (l0.length : Int) then (if 0 ≤ bt106.2 then (some (l0.set (bt106.1 : Int).toNat (Go.bits .or .u8 (rd l0 bt106.1) (shl .u8 1 bt106.2)))) else (none)) else (none)) else (none))) = some r := h
  clear h
  replace H := Option.bind_eq_some_iff.mp H
  obtain ⟨⟨t106, t107⟩, A30, H⟩ := H
  replace H : (if 0 ≤ t106 then (if t106 < (l0.length : Int) then (if 0 ≤ t107 then (some (l0.set (t106 : Int).toNat (Go.bits .or .u8 (rd l0 t106) (shl .u8 1 t107)))) else (none)) else (none)) else (none)) = some r := H
  have A3 := Aside0.mk A30
  clear A30
  by_cases c4 : 0 ≤ t106
  · rw [if_pos c4] at H
    have c4b0 : decide (0 ≤ t106) = true := decide_eq_true c4
    clear c4
    by_cases c5 : t106 < (l0.length : Int)
    · rw [if_pos c5] at H
      have c5b0 : decide (t106 < (l0.length : Int)) = true := decide_eq_true c5
      clear c5
      by_cases c6 : 0 ≤ t107
      · rw [if_pos c6] at H
        have c6b0 := eq_true c6
        have c6b1 : decide (0 ≤ t107) = true := decide_eq_true c6
        clear c6
        obtain ⟨ji7, hji7⟩ : ∃ j_ : Int, (shl .u8 1 t107) = j_ := ⟨_, rfl⟩
        replace H : (some (l0.set (t106 : Int).toNat (Go.bits .or .u8 (rd l0 t106) (ji7)))) = some r := by first | (rw [hji7] at H; exact H) | (simp only [hji7] at H ⊢; exact H)
        (try rw [hji7] at A3)
        have hji7_ : (IntKind.u8.wrap (1 * 2 ^ min t107.toNat 8)) = ji7 := hji7
        have hji7z : t107 ≤ 8 → (IntKind.u8.wrap (1 * 2 ^ t107.toNat)) = ji7 := shl_small hji7
        have hji7u : (IntKind.u8.wrap (2 ^ min t107.toNat 8)) = ji7 := by have h_ := hji7_; rw [Int.one_mul] at h_; exact h_
        have hji7v : t107 ≤ 8 → (IntKind.u8.wrap (2 ^ t107.toNat)) = ji7 := fun hle_ => by have h_ := hji7z hle_; rw [Int.one_mul] at h_; exact h_
        obtain ⟨y109, hy109⟩ : ∃ y_ : List Int, y_ = (l0.set (t106 : Int).toNat (Go.bits .or .u8 (rd l0 t106) (ji7))) := ⟨_, rfl⟩
        replace H : (some y109) = some r := by first | (rw [hy109]; with_reducible exact H) | (have H2_ := (Option.bind_some _ _).symm.trans H; rw [hy109]; with_reducible exact H2_) | (have H2_ := (Option.bind_some _ _).symm.trans H; with_reducible exact H2_) | with_reducible exact H | (rw [hy109]; exact H) | exact H
        have Ny109 := Aside0.mk hy109
        clear hy109
        obtain rfl := Option.some.inj H
        obtain ⟨Ao9, co9, eo9⟩ := Kd.R_slice HO0.out
        subst eo9
        go_enter Tryd.func14, Tryd.ntmps14
        go_wp2_with (first | ((with_reducible refine gate_callee (f := 23) rfl ?_); refine goesL_ (some 9) rfl rfl Tryd.func23 (by kernel_rfl) rfl #[.slice Ao9 l0.length co9, .int .i64 a1] rfl (by (try simp only [List.map_toArray, List.map_cons, List.map_nil]); first | done | rfl | (simp only [List.length_drop, List.length_take]; rfl)) ?_; (with_reducible refine (gobitfield_Bitfield_offset.calls _ _ l0 a1 t106 t107 _ ?side1 ?side2 A3.out).mono ?_); (case side1 => repeat (first | exact (Kd.R_reads' HO0.out).2.2 | (with_reducible refine Kd.C_alloc ?_ _) | (with_reducible refine Kd.C_drewN ?_ _) | (with_reducible refine Kd.C_drew ?_))); (case side2 => exact (Kd.R_reads' HO0.out).2.1); rintro e w' ⟨rfl, ⟨nd, rfl⟩⟩; refine ⟨_, rfl, ?_⟩; rw [drewN_self w]; generalize hq_ : World.drewN w _ = w10; have n0_ : Aside0 (Kd.R (Kd.int .u8) 5 w10 w0.heap.size (fun k_ => (P0_ k_ ∨ w.heap.size ≤ k_)) (.slice Ao9 l0.length co9) l0) := ⟨by rw [← hq_]; exact (by (with_reducible repeat (first | apply Kd.R_alloc | apply Kd.R_drewN | apply Kd.R_drew)); exact HO0.out)⟩; have n1_ : Aside0 (Kept w w10 (fun k_ => P0_ k_)) := ⟨by rw [← hq_]; exact (by repeat (first | (with_reducible first | exact HK.out | apply Kept.alloc | apply Kept.drewN | apply Kept.drew) | exact HK.out))⟩; have n2_ : Aside0 (Below w0.heap.size w0 w10) := ⟨by rw [← hq_]; exact (by repeat (first | (with_reducible first | exact HB.out | apply below_alloc | apply pw_below_drewN | apply below_drew1) | exact HB.out))⟩; clear HO0 HK HB hq_; have HO0 := n0_; have HK := n1_; have HB := n2_; clear n0_ n1_ n2_; have p108 : 0 ≤ (t106 : Int) := of_decide_eq_true (by first | (with_reducible assumption) | assumption); have q108 : t106 < (l0.length : Int) := of_decide_eq_true (by first | (with_reducible assumption) | assumption); obtain ⟨ad108, e108, hx108_0⟩ := Kd.at_int (Kd.R_reads' HO0.out).2.2 t106 p108 q108; cases e108; replace p108 := eq_true p108; replace q108 := eq_true q108; have p8 : 0 ≤ (t106 : Int) := of_decide_eq_true (by first | (with_reducible assumption) | assumption); have q8 : (t106 : Int) < ((l0.length : Int) : Int) := of_decide_eq_true (by first | (with_reducible assumption) | assumption); obtain ⟨go8, co8, eo8, gb8, gl8, cl8, HG8⟩ := Kd.R_form HO0.out (by omega); (first | cases eo8 | (injection eo8 with ea_ en_ ec_; (first | subst ea_ | (injection ea_ with ea_; subst ea_)); subst ec_; clear en_)); have GB8 := Aside0.mk gb8; have GG8 := Aside0.mk HG8; clear gb8 gl8 HG8; have HMgo8 := Aside0.mk (show (P0_ go8 ∨ w.heap.size ≤ go8) from (HO0.out.1 _ rfl)); (first | simp only [add_plain] at hx108_0 | skip); obtain ⟨hx8_0, hf8_0⟩ := Kd.R_celln 0 HO0.out (t106 : Int) p8 q8; replace p8 := eq_true p8; replace q8 := eq_true q8; obtain ⟨hy11_, hz11_⟩ := Kd.R_celln 0 HO0.out (t106 : Int) (of_decide_eq_true (by first | (with_reducible assumption) | assumption)) (of_decide_eq_true (by first | (with_reducible assumption) | assumption)); have HP11 := Kd.R_putg HO0.out (t106 : Int) (Go.bits .or .u8 (rd l0 t106) (ji7))) | ((with_reducible refine gate_store (t := 5) (p := 19) rfl ?_); refine store_event (t := 5) (p := 19) (v := ?vo_w12) (w1 := (w10.setCell ⟨go8, (t106 : Int).toNat, none⟩ (.int .u8 (Go.bits .or .u8 (rd l0 t106) (ji7))))) ?hg ?ho ?hn ?hr ?_; (case ho => rfl); (case hg => rfl); (case hn => rfl); (case hr => first | (go_simp; done) | (go_simp; rfl)); intro w12 hw; have hg : w10.grownBy w12 (some go8) := (by rw [hw]; exact HP11.2); have hp_ : Kd.R (Kd.int .u8) 5 w12 w0.heap.size (fun k_ => (P0_ k_ ∨ w.heap.size ≤ k_)) (.slice (some ⟨go8, 0, none⟩) l0.length co9) y109 := (by rw [hw, Ny109.out]; exact HP11.1); clear HP11; have n0_ := Aside0.mk (hp_); have n1_ := Aside0.mk ((by rw [hw]; exact below_set (HB.out) GB8.out : Below w0.heap.size w0 w12)); have n2_ := Aside0.mk (Kept.of_grown (S := (fun k_ => P0_ k_)) hg (by repeat (first | (with_reducible first | exact HK.out | apply Kept.alloc | apply Kept.drewN | apply Kept.drew) | exact HK.out)) (fun k_ e_ => (HO0.out.1 k_ e_))); clear HO0; clear HB; clear HK; have HO0 := n0_; have HB := n1_; have HK := n2_; clear n0_ n1_ n2_; clear hg hw hp_))
        first | go_end0 | ((try simp only [Exit.inBlock, Exit.then]); refine bodyPost_ret (results_none rfl _ _ _) rfl ?_)
        exact ⟨by first | rfl | (simp [errV_none, errV_some] <;> rfl) | (simp only [← hji7]; first | rfl | (simp [errV_none, errV_some] <;> rfl)) | (simp [*, errV_none, errV_some] <;> rfl), by (with_reducible repeat (first | apply Kd.R_alloc | apply Kd.R_drewN | apply Kd.R_drew)); exact HO0.out, by repeat (first | (with_reducible first | exact HB.out | apply below_alloc | apply pw_below_drewN | apply below_drew1) | exact HB.out), by repeat (first | (with_reducible first | exact HK.out | apply Kept.alloc | apply Kept.drewN | apply Kept.drew) | exact HK.out)⟩
      · rw [if_neg c6] at H
        exact absurd H (by simp)
    · rw [if_neg c5] at H
      exact absurd H (by simp)
  · rw [if_neg c4] at H
    exact absurd H (by simp)

/-! ### gobitfield_Bitfield_UnsetBit: function 15 -/
def gobitfield_Bitfield_UnsetBit.f (l0 : List Int) (a1 : Int) : Option (List Int) := (gobitfield_Bitfield_offset.f l0 a1).bind fun bt110 => (if 0 ≤ bt110.1 then (if bt110.1 < (l0.length : Int) then (if 0 ≤ bt110.2 then (some (l0.set (bt110.1 : Int).toNat (Go.bits .and .u8 (rd l0 bt110.1) (Go.bits .xor .u8 255 (shl .u8 1 bt110.2))))) else (none)) else (none)) else (none))
set_option maxHeartbeats 8000000 in
set_option maxRecDepth 100000 in
theorem gobitfield_Bitfield_UnsetBit.calls (P0_ : Nat → Prop) (u9000_ : Value) (l0 : List Int) (a1 : Int) (r : List Int) (w0 w : World) (hB : Below w0.heap.size w0 w) (ho0 : Kd.R (Kd.int .u8) 5 w w0.heap.size P0_ u9000_ l0) (h : gobitfield_Bitfield_UnsetBit.f l0 a1 = some r) :
    Calls Tryd.prog 15 #[u9000_, .int .i64 a1] w fun e w' => e = .returned (.tuple #[]) ∧ Kd.R (Kd.int .u8) 5 w' w0.heap.size (fun k_ => (P0_ k_ ∨ w.heap.size ≤ k_)) u9000_ r ∧ Below w0.heap.size w0 w' ∧ Kept w w' (fun k_ => P0_ k_) := by
  have HO0 := Aside0.mk (show Kd.R (Kd.int .u8) 5 w w0.heap.size (fun k_ => (P0_ k_ ∨ w.heap.size ≤ k_)) u9000_ l0 from Kd.R_mono ho0 (fun k_ hk => (.inl hk)))
  have HK := Aside0.mk (Kept.refl w (fun k_ => P0_ k_))
  have HW0 := Aside0.mk hB.size
  have HB := Aside0.mk hB
  clear hB
  have H : ((gobitfield_Bitfield_offset.f l0 a1).bind fun bt110 => (if 0 ≤ bt110.1 then (if bt110.1 < (l0.length : Int) then (if 0 ≤ bt110.2 then (some (l0.set (bt110.1 : Int).toNat (Go.bits .and .u8 (rd l0 bt110.1) (Go.bits .xor .u8 255 (shl .u8 1 bt110.2))))) else (none)) else (none)) else (none))) = some r := h
  clear h
  replace H := Option.bind_eq_some_iff.mp H
  obtain ⟨⟨t110, t111⟩, A30, H⟩ := H
  replace H : (if 0 ≤ t110 then (if t110 < (l0.length : Int) then (if 0 ≤ t111 then (some (l0.set (t110 : Int).toNat (Go.bits .and .u8 (rd l0 t110) (Go.bits .xor .u8 255 (shl .u8 1 t111))))) else (none)) else (none)) else (none)) = some r := H
  have A3 := Aside0.mk A30
  clear A30
  by_cases c4 : 0 ≤ t110
  · rw [if_pos c4] at H
    have c4b0 : decide (0 ≤ t110) = true := decide_eq_true c4
    clear c4
    by_cases c5 : t110 < (l0.length : Int)
    · rw [if_pos c5] at H
      have c5b0 : decide (t110 < (l0.length : Int)) = true := decide_eq_true c5
      clear c5
      by_cases c6 : 0 ≤ t111
      · rw [if_pos c6] at H
        have c6b0 := eq_true c6
        have c6b1 : decide (0 ≤ t111) = true := decide_eq_true c6
        clear c6
        obtain ⟨ji7, hji7⟩ : ∃ j_ : Int, (shl .u8 1 t111) = j_ := ⟨_, rfl⟩
        replace H : (some (l0.set (t110 : Int).toNat (Go.bits .and .u8 (rd l0 t110) (Go.bits .xor .u8 255 (ji7))))) = some r := by first | (rw [hji7] at H; exact H) | (simp only [hji7] at H ⊢; exact H)
        (try rw [hji7] at A3)
        have hji7_ : (IntKind.u8.wrap (1 * 2 ^ min t111.toNat 8)) = ji7 := hji7
        have hji7z : t111 ≤ 8 → (IntKind.u8.wrap (1 * 2 ^ t111.toNat)) = ji7 := shl_small hji7
        have hji7u : (IntKind.u8.wrap (2 ^ min t111.toNat 8)) = ji7 := by have h_ := hji7_; rw [Int.one_mul] at h_; exact h_
        have hji7v : t111 ≤ 8 → (IntKind.u8.wrap (2 ^ t111.toNat)) = ji7 := fun hle_ => by have h_ := hji7z hle_; rw [Int.one_mul] at h_; exact h_
        obtain ⟨y113, hy113⟩ : ∃ y_ : List Int, y_ = (l0.set (t110 : Int).toNat (Go.bits .and .u8 (rd l0 t110) (Go.bits .xor .u8 255 (ji7)))) := ⟨_, rfl⟩
        replace H : (some y113) = some r := by first | (rw [hy113]; with_reducible exact H) | (have H2_ := (Option.bind_some _ _).symm.trans H; rw [hy113]; with_reducible exact H2_) | (have H2_ := (Option.bind_some _ _).symm.trans H; with_reducible exact H2_) | with_reducible exact H | (rw [hy113]; exact H) | exact H
        have Ny113 := Aside0.mk hy113
        clear hy113
        obtain rfl := Option.some.inj H
        obtain ⟨Ao9, co9, eo9⟩ := Kd.R_slice HO0.out
        subst eo9
        go_enter Tryd.func15, Tryd.ntmps15
        go_wp2_with (first | ((with_reducible refine gate_callee (f := 23) rfl ?_); refine goesL_ (some 9) rfl rfl Tryd.func23 (by kernel_rfl) rfl #[.slice Ao9 l0.length co9, .int .i64 a1] rfl (by (try simp only [List.map_toArray, List.map_cons, List.map_nil]); first | done | rfl | (simp only [List.length_drop, List.length_take]; rfl)) ?_; (with_reducible refine (gobitfield_Bitfield_offset.calls _ _ l0 a1 t110 t111 _ ?side1 ?side2 A3.out).mono ?_); (case side1 => repeat (first | exact (Kd.R_reads' HO0.out).2.2 | (with_reducible refine Kd.C_alloc ?_ _) | (with_reducible refine Kd.C_drewN ?_ _) | (with_reducible refine Kd.C_drew ?_))); (case side2 => exact (Kd.R_reads' HO0.out).2.1); rintro e w' ⟨rfl, ⟨nd, rfl⟩⟩; refine ⟨_, rfl, ?_⟩; rw [drewN_self w]; generalize hq_ : World.drewN w _ = w10; have n0_ : Aside0 (Kd.R (Kd.int .u8) 5 w10 w0.heap.size (fun k_ => (P0_ k_ ∨ w.heap.size ≤ k_)) (.slice Ao9 l0.length co9) l0) := ⟨by rw [← hq_]; exact (by (with_reducible repeat (first | apply Kd.R_alloc | apply Kd.R_drewN | apply Kd.R_drew)); exact HO0.out)⟩; have n1_ : Aside0 (Kept w w10 (fun k_ => P0_ k_)) := ⟨by rw [← hq_]; exact (by repeat (first | (with_reducible first | exact HK.out | apply Kept.alloc | apply Kept.drewN | apply Kept.drew) | exact HK.out))⟩; have n2_ : Aside0 (Below w0.heap.size w0 w10) := ⟨by rw [← hq_]; exact (by repeat (first | (with_reducible first | exact HB.out | apply below_alloc | apply pw_below_drewN | apply below_drew1) | exact HB.out))⟩; clear HO0 HK HB hq_; have HO0 := n0_; have HK := n1_; have HB := n2_; clear n0_ n1_ n2_; have p112 : 0 ≤ (t110 : Int) := of_decide_eq_true (by first | (with_reducible assumption) | assumption); have q112 : t110 < (l0.length : Int) := of_decide_eq_true (by first | (with_reducible assumption) | assumption); obtain ⟨ad112, e112, hx112_0⟩ := Kd.at_int (Kd.R_reads' HO0.out).2.2 t110 p112 q112; cases e112; replace p112 := eq_true p112; replace q112 := eq_true q112; have p8 : 0 ≤ (t110 : Int) := of_decide_eq_true (by first | (with_reducible assumption) | assumption); have q8 : (t110 : Int) < ((l0.length : Int) : Int) := of_decide_eq_true (by first | (with_reducible assumption) | assumption); obtain ⟨go8, co8, eo8, gb8, gl8, cl8, HG8⟩ := Kd.R_form HO0.out (by omega); (first | cases eo8 | (injection eo8 with ea_ en_ ec_; (first | subst ea_ | (injection ea_ with ea_; subst ea_)); subst ec_; clear en_)); have GB8 := Aside0.mk gb8; have GG8 := Aside0.mk HG8; clear gb8 gl8 HG8; have HMgo8 := Aside0.mk (show (P0_ go8 ∨ w.heap.size ≤ go8) from (HO0.out.1 _ rfl)); (first | simp only [add_plain] at hx112_0 | skip); obtain ⟨hx8_0, hf8_0⟩ := Kd.R_celln 0 HO0.out (t110 : Int) p8 q8; replace p8 := eq_true p8; replace q8 := eq_true q8; obtain ⟨hy11_, hz11_⟩ := Kd.R_celln 0 HO0.out (t110 : Int) (of_decide_eq_true (by first | (with_reducible assumption) | assumption)) (of_decide_eq_true (by first | (with_reducible assumption) | assumption)); have HP11 := Kd.R_putg HO0.out (t110 : Int) (Go.bits .and .u8 (rd l0 t110) (Go.bits .xor .u8 255 (ji7)))) | ((with_reducible refine gate_store (t := 5) (p := 20) rfl ?_); refine store_event (t := 5) (p := 20) (v := ?vo_w12) (w1 := (w10.setCell ⟨go8, (t110 : Int).toNat, none⟩ (.int .u8 (Go.bits .and .u8 (rd l0 t110) (Go.bits .xor .u8 255 (ji7)))))) ?hg ?ho ?hn ?hr ?_; (case ho => rfl); (case hg => rfl); (case hn => rfl); (case hr => first | (go_simp; done) | (go_simp; rfl)); intro w12 hw; have hg : w10.grownBy w12 (some go8) := (by rw [hw]; exact HP11.2); have hp_ : Kd.R (Kd.int .u8) 5 w12 w0.heap.size (fun k_ => (P0_ k_ ∨ w.heap.size ≤ k_)) (.slice (some ⟨go8, 0, none⟩) l0.length co9) y113 := (by rw [hw, Ny113.out]; exact HP11.1); clear HP11; have n0_ := Aside0.mk (hp_); have n1_ := Aside0.mk ((by rw [hw]; exact below_set (HB.out) GB8.out : Below w0.heap.size w0 w12)); have n2_ := Aside0.mk (Kept.of_grown (S := (fun k_ => P0_ k_)) hg (by repeat (first | (with_reducible first | exact HK.out | apply Kept.alloc | apply Kept.drewN | apply Kept.drew) | exact HK.out)) (fun k_ e_ => (HO0.out.1 k_ e_))); clear HO0; clear HB; clear HK; have HO0 := n0_; have HB := n1_; have HK := n2_; clear n0_ n1_ n2_; clear hg hw hp_))
        first | go_end0 | ((try simp only [Exit.inBlock, Exit.then]); refine bodyPost_ret (results_none rfl _ _ _) rfl ?_)
        exact ⟨by first | rfl | (simp [errV_none, errV_some] <;> rfl) | (simp only [← hji7]; first | rfl | (simp [errV_none, errV_some] <;> rfl)) | (simp [*, errV_none, errV_some] <;> rfl), by (with_reducible repeat (first | apply Kd.R_alloc | apply Kd.R_drewN | apply Kd.R_drew)); exact HO0.out, by repeat (first | (with_reducible first | exact HB.out | apply below_alloc | apply pw_below_drewN | apply below_drew1) | exact HB.out), by repeat (first | (with_reducible first | exact HK.out | apply Kept.alloc | apply Kept.drewN | apply Kept.drew) | exact HK.out)⟩
      · rw [if_neg c6] at H
        exact absurd H (by simp)
    · rw [if_neg c5] at H
      exact absurd H (by simp)
  · rw [if_neg c4] at H
    exact absurd H (by simp)

/-! ### bytes_Clone: function 16, by hand -/
-- HAND bytes.Clone
-- making: yes
/-- A copy of a slice, nil or not. -/
def bytes_Clone.f (l0 : List Int) : Option (List Int) := if l0.length * 1 ≤ 140737488351232 then some l0 else none
theorem bytes_Clone.infoE : (Tryd.prog.info? 5).map (fun i => (i.zero, i.size, i.bytes)) = some (some (.int .u8 0), 1, 1) := by kernel_rfl
set_option maxHeartbeats 2000000 in
set_option maxRecDepth 100000 in
theorem bytes_Clone.calls (A0 : Option Addr) (c0 : Nat) (l0 : List Int) (r : List Int) (w : World) (hr0 : Kd.C (Kd.int .u8) w A0 l0.length l0) (hc0 : l0.length ≤ c0) (h : bytes_Clone.f l0 = some r) :
    Calls Tryd.prog 16 #[.slice A0 l0.length c0] w fun e w' => ∃ v0_ : Value, e = .returned (v0_) ∧ Kd.R (Kd.int .u8) 5 w' w.heap.size (fun _ => True) v0_ r ∧ Below w.heap.size w w' := by
  unfold bytes_Clone.f at h
  by_cases hl : l0.length * 1 ≤ 140737488351232
  case neg => rw [if_neg hl] at h; exact absurd h (by simp)
  rw [if_pos hl] at h
  obtain rfl := Option.some.inj h
  clear h
  have qs : ∀ (w : World) (a : Option Addr) (n c n' c' : Nat), (binOp .eql 24 (.slice a n c) (.slice none n' c')).run Tryd.prog w = .ok (.bool a.isNone) w := fun w a n c n' c' => Lib.run_eql_slice_nil w _ _ a n c n' c' Tryd.underlying24
  have HB := Aside0.mk (Below.refl w.heap.size w)
  have HR0 := Aside0.mk hr0
  have HL := Aside0.mk hl
  clear hr0 hl hc0
  cases A0 with
  | none =>
    have e0 : l0 = [] := by
      have h1 := HR0.out
      rcases Nat.eq_zero_or_pos l0.length with h0 | h0
      · exact List.eq_nil_of_length_eq_zero h0
      · obtain ⟨ad, e, _⟩ := h1.2.2 h0
        exact absurd e (by simp)
    subst e0
    clear HR0 HL
    go_enter Tryd.func16, Tryd.ntmps16
    go_wp2
    go_ret
    exact ⟨_, rfl, Kd.R_nil _ _ _ _ _, HB.out⟩
  | some a =>
    have e5 : 0 ≤ 5 := by decide
    obtain ⟨i0, hi, hz0, hz1, hz2⟩ := info_parts bytes_Clone.infoE
    have z5 : ∀ w, Sem.run Tryd.prog (Go.sizeOf 5) w = .ok 1 w := fun w => by simp [Go.sizeOf, typeInfo, hi, hz1]
    clear e5 hi hz0 hz1 hz2
    go_enter Tryd.func16, Tryd.ntmps16
    go_wp2_with (at_builtin; refine Kd.R_append_rows (Kd.int .u8) (Rr := fun x cs => cs = [Value.int .u8 x]) (w0 := w) w.heap.size rfl (.tmp 5) (.tmp 6) 24 5 (.int .u8 0) 1 rfl Tryd.underlying24 bytes_Clone.infoE rfl (by decide) (by decide) _ [] l0 (some a) l0.length c0 (fun _ => True) (fun _ => False) rfl rfl ?aO ?aR ?aM (fun _ hk => hk.elim) (fun _ _ => trivial) ?aB ?aS ?aL ?_)
    case aO => exact Kd.R_of_own (xs := ([] : List Int)) (World.ownsRow_made w #[] 0 (Nat.le_refl _) (Nat.zero_le _) rfl) (fun _ _ => trivial)
    case aR => exact Kd.C_alloc HR0.out _
    case aM => exact fun x cs hx => hx
    case aB => exact below_alloc HB.out _
    case aS => exact below_size (below_alloc HB.out _)
    case aL => have := HL.out; simp only [List.length_nil]; omega
    intro v1 w1 hR hb hg hat
    have HR1 := Aside0.mk hR
    have HB1 := Aside0.mk hb
    clear hR hb hg hat
    go_wp2
    go_ret
    exact ⟨_, rfl, HR1.out, HB1.out⟩


end Go.Proofs.YtbmeegkgcipmoaaDoor.PFnBitsSet
