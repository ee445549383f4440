/- Printed by a program of this session (it drives the print of the kit, with contracts proved by hand beside): the Go functions of one law as Lean functions, and that the Go code comes to what they say. -/
import Derived.Test.YtbmeegkgcipmoaaDoorPFnBitsSetx0
import Derived.Test.YtbmeegkgcipmoaaDoorPFnBitsSetx6
namespace Go.Proofs.YtbmeegkgcipmoaaDoor.PFnBitsSet
open Go.RowKit Go.Proofs.YtbmeegkgcipmoaaDoorL Go.Proofs.YtbmeegkgcipmoaaDoorW.PrintWords Go.Proofs.YtbmeegkgcipmoaaDoorW.PrintLast Go.Proofs.YtbmeegkgcipmoaaDoorW.PrintMore
attribute [local go_sem] max2_int min2_int max_two min_two max_three min_three max_four min_four   -- for this text's walks alone
set_option linter.unusedVariables false
set_option linter.unusedSimpArgs false

/-! ### spec_BitsSet: function 9 -/
def spec_BitsSet.l0 : Nat → List Int → List Int → Int → Int → Option (List Int)
  | 0, _, _, _, _ => none
  | k + 1, x5, x11, x12, x13 => if x13 < x12 then (if 0 ≤ x13 then (if x13 < (x11.length : Int) then (if (rd x11 x13) ≥ 0 then (if 0 ≤ (wrap64 ((wrap64 ((x5.length : Int) - 1)) - (wrap64 (Int.tdiv (rd x11 x13) 8)))) then (if (wrap64 ((wrap64 ((x5.length : Int) - 1)) - (wrap64 (Int.tdiv (rd x11 x13) 8)))) < (x5.length : Int) then (if 0 ≤ (Int.tmod (rd x11 x13) 8) then (spec_BitsSet.l0 k (x5.set ((wrap64 ((wrap64 ((x5.length : Int) - 1)) - (wrap64 (Int.tdiv (rd x11 x13) 8)))) : Int).toNat (Go.bits .or .u8 (rd x5 (wrap64 ((wrap64 ((x5.length : Int) - 1)) - (wrap64 (Int.tdiv (rd x11 x13) 8))))) (shl .u8 1 (Int.tmod (rd x11 x13) 8)))) x11 x12 (wrap64 (x13 + 1))) else (none)) else (none)) else (none)) else (if 0 ≤ (wrap64 ((wrap64 ((x5.length : Int) - 1)) - (wrap64 (Int.tdiv (wrap64 ((-1) - (rd x11 x13))) 8)))) then (if (wrap64 ((wrap64 ((x5.length : Int) - 1)) - (wrap64 (Int.tdiv (wrap64 ((-1) - (rd x11 x13))) 8)))) < (x5.length : Int) then (if 0 ≤ (Int.tmod (wrap64 ((-1) - (rd x11 x13))) 8) then (spec_BitsSet.l0 k (x5.set ((wrap64 ((wrap64 ((x5.length : Int) - 1)) - (wrap64 (Int.tdiv (wrap64 ((-1) - (rd x11 x13))) 8)))) : Int).toNat (Go.bits .andNot .u8 (rd x5 (wrap64 ((wrap64 ((x5.length : Int) - 1)) - (wrap64 (Int.tdiv (wrap64 ((-1) - (rd x11 x13))) 8))))) (shl .u8 1 (Int.tmod (wrap64 ((-1) - (rd x11 x13))) 8)))) x11 x12 (wrap64 (x13 + 1))) else (none)) else (none)) else (none))) else (none)) else (none)) else ((bytes_TrimLeft.f k x5 (⟨#[0]⟩ : ByteArray)).bind fun t169 => (some t169))
def spec_BitsSet.f (k : Nat) (a0 : Int) (l1 : List Int) : Option (List Int) := if 0 ≤ (wrap64 (Int.tdiv a0 8)) then (if (wrap64 (Int.tdiv a0 8) : Int).toNat ≤ 281474976710656 then (spec_BitsSet.l0 k (List.replicate (wrap64 (Int.tdiv a0 8) : Int).toNat 0) l1 (l1.length : Int) 0) else (none)) else (none)
theorem spec_BitsSet.mono_l : ∀ k, (∀ y0 y1 y2 y3, LeO (spec_BitsSet.l0 k y0 y1 y2 y3) (spec_BitsSet.l0 (k + 1) y0 y1 y2 y3))
  | 0 => fun _ _ _ _ r h => by simp [spec_BitsSet.l0] at h
  | k + 1 => by
    have ih0 := spec_BitsSet.mono_l k
    · intro y0 y1 y2 y3
      unfold spec_BitsSet.l0
      repeat' first
      | (with_reducible exact ih0 _ _ _ _)
      | (with_reducible exact bytes_TrimLeft.mono _ _ _)
      | (with_reducible exact LeO.refl _)
      | (with_reducible exact LeO.none _)
      | (with_reducible refine LeO.ite ?_ ?_)
      | (with_reducible refine LeO.bind ?_ (fun _ => ?_))
      | exact ih0 _ _ _ _
      | exact bytes_TrimLeft.mono _ _ _
      | exact LeO.none _
      | refine LeO.ite ?_ ?_
      | refine LeO.bind ?_ (fun _ => ?_)
theorem spec_BitsSet.mono : ∀ a0 a1 k, LeO (spec_BitsSet.f k a0 a1) (spec_BitsSet.f (k + 1) a0 a1) := by
  intro a0 a1 k
  have ih0 := spec_BitsSet.mono_l k
  unfold spec_BitsSet.f
  repeat' first
      | (with_reducible exact ih0 _ _ _ _)
      | (with_reducible exact bytes_TrimLeft.mono _ _ _)
      | (with_reducible exact LeO.refl _)
      | (with_reducible exact LeO.none _)
      | (with_reducible refine LeO.ite ?_ ?_)
      | (with_reducible refine LeO.bind ?_ (fun _ => ?_))
      | exact ih0 _ _ _ _
      | exact bytes_TrimLeft.mono _ _ _
      | exact LeO.none _
      | refine LeO.ite ?_ ?_
      | refine LeO.bind ?_ (fun _ => ?_)
def spec_BitsSet.T6 : Bool × List (List Nat × List Nat) := (true, [([], []), ([], []), ([1], [1]), ([2], [2]), ([], []), ([4], [4]), ([3, 5], [3, 5]), ([0, 6], [0, 6]), ([7], [7]), ([], []), ([9], [9]), ([10], [10]), ([8, 11], [8, 11]), ([0, 6, 0, 1, 2, 3, 4, 5, 6, 7, 8, 9, 10, 11, 12], [0, 6]), ([13, 12, 0, 1, 2, 3, 4, 5, 6, 7, 8, 9, 10, 11, 12], [12, 13])])
def spec_BitsSet.B6 : List Nat := [0, 0, 2, 6, 0, 16, 62, 127, 255, 0, 512, 1536, 4095, 8191, 16383]
theorem spec_BitsSet.tab6 : rtab .any (opsOf Tryd.f9 6) = spec_BitsSet.T6 := by kernel_rfl
theorem spec_BitsSet.bits6 : waitsOk spec_BitsSet.T6.2 spec_BitsSet.B6 = true := by kernel_rfl
def spec_BitsSet.T8 : Bool × List (List Nat × List Nat) := (true, [([], []), ([], []), ([1], [1]), ([2], [2]), ([], []), ([4], [4]), ([3, 5], [3, 5]), ([0, 6], [0, 6]), ([7], [7]), ([], []), ([9], [9]), ([10], [10]), ([8, 11], [8, 11]), ([0, 6, 0, 1, 2, 3, 4, 5, 6, 7, 8, 9, 10, 11, 12], [0, 6]), ([13, 12, 0, 1, 2, 3, 4, 5, 6, 7, 8, 9, 10, 11, 12], [12, 13])])
def spec_BitsSet.B8 : List Nat := [0, 0, 2, 6, 0, 16, 62, 127, 255, 0, 512, 1536, 4095, 8191, 16383]
theorem spec_BitsSet.tab8 : rtab .any (opsOf Tryd.f9 8) = spec_BitsSet.T8 := by kernel_rfl
theorem spec_BitsSet.bits8 : waitsOk spec_BitsSet.T8.2 spec_BitsSet.B8 = true := by kernel_rfl
set_option maxHeartbeats 8000000 in
set_option maxRecDepth 100000 in
theorem spec_BitsSet.calls (k : Nat) (a0 : Int) (A1 : Option Addr) (c1 : Nat) (l1 : List Int) (r : List Int) (w : World) (hr1 : Kd.C (Kd.int .i64) w A1 l1.length l1) (hc1 : l1.length ≤ c1) (h : spec_BitsSet.f k a0 l1 = some r) :
    Calls Tryd.prog 9 #[.int .i64 a0, .slice A1 l1.length c1] w fun e w' => ∃ v0_ : Value, e = .returned (v0_) ∧ Kd.V (Kd.int .u8) 5 w' w.heap.size (fun k_ => (w.heap.size ≤ k_)) v0_ r ∧ Below w.heap.size w w' := by
  have HR1 := Aside0.mk hr1
  have HC1 := Aside0.mk hc1
  clear hr1 hc1
  have HB := Aside0.mk (Below.refl w.heap.size w)
  have H : (if 0 ≤ (wrap64 (Int.tdiv a0 8)) then (if (wrap64 (Int.tdiv a0 8) : Int).toNat ≤ 281474976710656 then (spec_BitsSet.l0 k (List.replicate (wrap64 (Int.tdiv a0 8) : Int).toNat 0) l1 (l1.length : Int) 0) else (none)) else (none)) = some r := h
  clear h
  obtain ⟨ji3, hji3⟩ : ∃ j_ : Int, (wrap64 (Int.tdiv a0 8)) = j_ := ⟨_, rfl⟩
  replace H : (if 0 ≤ (ji3) then (if (ji3 : Int).toNat ≤ 281474976710656 then (spec_BitsSet.l0 k (List.replicate (ji3 : Int).toNat 0) l1 (l1.length : Int) 0) else (none)) else (none)) = some r := by first | (rw [hji3] at H; exact H) | (simp only [hji3] at H ⊢; exact H)
  have hji3w : (IntKind.i64.wrap (Int.tdiv a0 8)) = ji3 := (i64_w _).trans hji3
  by_cases c4 : 0 ≤ (ji3)
  · rw [if_pos c4] at H
    have c4b0 := eq_true c4
    have c4b1 : decide (0 ≤ (ji3)) = true := decide_eq_true c4
    clear c4
    by_cases c5 : (ji3 : Int).toNat ≤ 281474976710656
    · rw [if_pos c5] at H
      have c5b0 := eq_true c5
      have c5b1 : decide ((ji3 : Int).toNat ≤ 281474976710656) = true := decide_eq_true c5
      clear c5
      obtain ⟨y161, hy161⟩ : ∃ y_ : List Int, y_ = (List.replicate (ji3 : Int).toNat 0) := ⟨_, rfl⟩
      replace H : (spec_BitsSet.l0 k y161 l1 (l1.length : Int) 0) = some r := by first | (rw [hy161]; with_reducible exact H) | (have H2_ := (Option.bind_some _ _).symm.trans H; rw [hy161]; with_reducible exact H2_) | (have H2_ := (Option.bind_some _ _).symm.trans H; with_reducible exact H2_) | with_reducible exact H | (rw [hy161]; exact H) | exact H
      have Ny161 := Aside0.mk hy161
      clear hy161
      have H' := Aside0.mk H
      clear H
      go_enter Tryd.func9, Tryd.ntmps9
      go_wp2_with (first | ((with_reducible refine gate_dst (N := 10) rfl ?_); refine Kd.R_make (Kd.int .u8) _ 5 rfl (N := 10) rfl 24 _ _ rfl ji3 rfl rfl Tryd.underlying24 (.int .u8 0) 1 info5 rfl (by decide) (by omega) 0 (ok := fun _ => True) (okp := fun _ => True) rfl (fun _ hk => hk) trivial (of_decide_eq_true (by first | (with_reducible assumption) | assumption)) (Nat.le_trans (Nat.mul_le_mul_right _ (of_decide_eq_true (by first | (with_reducible assumption) | assumption) : ji3.toNat ≤ 281474976710656)) (by omega)) (Below.refl _ _) (Nat.le_refl _) ?_; intro v162 w6 ho7 hb hg_ hnew_; clear hg_ hnew_; (first | rw [← Ny161.out] at ho7 | (simp only [Int.reduceToNat] at ho7; rw [← Ny161.out] at ho7)); have n0_ := Aside0.mk (Kd.R_lower (Kd.R_newM (M := fun k_ => (w.heap.size ≤ k_)) ho7 (below_size (by repeat (first | (with_reducible first | exact HB.out | apply below_alloc | apply pw_below_drewN | apply below_drew1) | exact HB.out))) (fun k_ h_ => h_)) (below_size (by repeat (first | (with_reducible first | exact HB.out | apply below_alloc | apply pw_below_drewN | apply below_drew1) | exact HB.out)))); have n1_ := Aside0.mk (below_step (by repeat (first | (with_reducible first | exact HB.out | apply below_alloc | apply pw_below_drewN | apply below_drew1) | exact HB.out)) hb); clear HB; have HO163 := n0_; have HB := n1_; clear n0_ n1_; clear hb ho7))
      go_loopg [13] k (fun kq v13 w' => ∃ (x5_1 : List Int) (x13_1 : Int), v13 = .int .i64 x13_1 ∧ Aside0 (spec_BitsSet.l0 kq x5_1 l1 (l1.length : Int) x13_1 = some r) ∧ Aside0 (kq ≤ k) ∧ Aside0 (Kd.R (Kd.int .u8) 5 w' w.heap.size (fun k_ => (w.heap.size ≤ k_)) v162 x5_1) ∧ Aside0 (Below w.heap.size w w'))
      case atStart => exact ⟨(y161), (0), (by first | rfl | (simp; done) | (simp [*]; done)), H', ⟨Nat.le_refl _⟩, ⟨by (with_reducible repeat (first | apply Kd.R_alloc | apply Kd.R_drewN | apply Kd.R_drew)); exact Kd.R_mono HO163.out (fun _ hk => hk.1)⟩, ⟨by repeat (first | (with_reducible first | exact HB.out | apply below_alloc | apply pw_below_drewN | apply below_drew1) | exact HB.out)⟩⟩
      case round =>
        clear H'
        try clear c1
        try clear p2
        try clear c4
        try clear c4b0
        try clear c4b1
        try clear c5
        try clear c5b0
        try clear c5b1
        try clear p6
        obtain ⟨x5_1, x13_1, rfl, HA, HK1, HO_5, HB⟩ := hrel
        cases gk with
        | zero => exact absurd HA.out (by simp [spec_BitsSet.l0])
        | succ k1 =>
          have H := HA.out
          clear HA
          simp only [spec_BitsSet.l0] at H
          by_cases c8 : x13_1 < (l1.length : Int)
          · rw [if_pos c8] at H
            have c8b0 : decide (x13_1 < (l1.length : Int)) = true := decide_eq_true c8
            clear c8
            by_cases c9 : 0 ≤ x13_1
            · rw [if_pos c9] at H
              have c9b0 : decide (0 ≤ x13_1) = true := decide_eq_true c9
              clear c9
              by_cases c10 : x13_1 < (l1.length : Int)
              · rw [if_pos c10] at H
                have c10b0 : decide (x13_1 < (l1.length : Int)) = true := decide_eq_true c10
                clear c10
                by_cases c11 : (rd l1 x13_1) ≥ 0
                · rw [if_pos c11] at H
                  have c11b0 : decide (0 ≤ (rd l1 x13_1)) = true := decide_eq_true c11
                  clear c11
                  obtain ⟨ji12, hji12⟩ : ∃ j_ : Int, (wrap64 ((wrap64 ((x5_1.length : Int) - 1)) - (wrap64 (Int.tdiv (rd l1 x13_1) 8)))) = j_ := ⟨_, rfl⟩
                  replace H : (if 0 ≤ (ji12) then (if (ji12) < (x5_1.length : Int) then (if 0 ≤ (Int.tmod (rd l1 x13_1) 8) then (spec_BitsSet.l0 k1 (x5_1.set ((ji12) : Int).toNat (Go.bits .or .u8 (rd x5_1 (ji12)) (shl .u8 1 (Int.tmod (rd l1 x13_1) 8)))) l1 (l1.length : Int) (wrap64 (x13_1 + 1))) else (none)) else (none)) else (none)) = some r := by first | (rw [hji12] at H; exact H) | (simp only [hji12] at H ⊢; exact H)
                  have hji12w : (IntKind.i64.wrap ((wrap64 ((x5_1.length : Int) - 1)) - (wrap64 (Int.tdiv (rd l1 x13_1) 8)))) = ji12 := (i64_w _).trans hji12
                  by_cases c13 : 0 ≤ (ji12)
                  · rw [if_pos c13] at H
                    have c13b0 : decide (0 ≤ (ji12)) = true := decide_eq_true c13
                    clear c13
                    by_cases c14 : (ji12) < (x5_1.length : Int)
                    · rw [if_pos c14] at H
                      have c14b0 : decide ((ji12) < (x5_1.length : Int)) = true := decide_eq_true c14
                      clear c14
                      obtain ⟨ji15, hji15⟩ : ∃ j_ : Int, (Int.tmod (rd l1 x13_1) 8) = j_ := ⟨_, rfl⟩
                      replace H : (if 0 ≤ (ji15) then (spec_BitsSet.l0 k1 (x5_1.set ((ji12) : Int).toNat (Go.bits .or .u8 (rd x5_1 (ji12)) (shl .u8 1 (ji15)))) l1 (l1.length : Int) (wrap64 (x13_1 + 1))) else (none)) = some r := by first | (rw [hji15] at H; exact H) | (simp only [hji15] at H ⊢; exact H)
                      by_cases c16 : 0 ≤ (ji15)
                      · rw [if_pos c16] at H
                        have c16b0 := eq_true c16
                        have c16b1 : decide (0 ≤ (ji15)) = true := decide_eq_true c16
                        clear c16
                        obtain ⟨ji17, hji17⟩ : ∃ j_ : Int, (shl .u8 1 (ji15)) = j_ := ⟨_, rfl⟩
                        replace H : (spec_BitsSet.l0 k1 (x5_1.set ((ji12) : Int).toNat (Go.bits .or .u8 (rd x5_1 (ji12)) (ji17))) l1 (l1.length : Int) (wrap64 (x13_1 + 1))) = some r := by first | (rw [hji17] at H; exact H) | (simp only [hji17] at H ⊢; exact H)
                        have hji17_ : (IntKind.u8.wrap (1 * 2 ^ min (ji15).toNat 8)) = ji17 := hji17
                        have hji17z : (ji15) ≤ 8 → (IntKind.u8.wrap (1 * 2 ^ (ji15).toNat)) = ji17 := shl_small hji17
                        have hji17u : (IntKind.u8.wrap (2 ^ min (ji15).toNat 8)) = ji17 := by have h_ := hji17_; rw [Int.one_mul] at h_; exact h_
                        have hji17v : (ji15) ≤ 8 → (IntKind.u8.wrap (2 ^ (ji15).toNat)) = ji17 := fun hle_ => by have h_ := hji17z hle_; rw [Int.one_mul] at h_; exact h_
                        obtain ⟨y166, hy166⟩ : ∃ y_ : List Int, y_ = (x5_1.set ((ji12) : Int).toNat (Go.bits .or .u8 (rd x5_1 (ji12)) (ji17))) := ⟨_, rfl⟩
                        replace H : (spec_BitsSet.l0 k1 y166 l1 (l1.length : Int) (wrap64 (x13_1 + 1))) = some r := by first | (rw [hy166]; with_reducible exact H) | (have H2_ := (Option.bind_some _ _).symm.trans H; rw [hy166]; with_reducible exact H2_) | (have H2_ := (Option.bind_some _ _).symm.trans H; with_reducible exact H2_) | with_reducible exact H | (rw [hy166]; exact H) | exact H
                        have Ny166 := Aside0.mk hy166
                        clear hy166
                        have H' := Aside0.mk H
                        clear H
                        have p164 : 0 ≤ (x13_1 : Int) := of_decide_eq_true (by first | (with_reducible assumption) | assumption)
                        have q164 : x13_1 < (l1.length : Int) := of_decide_eq_true (by first | (with_reducible assumption) | assumption)
                        obtain ⟨ad164, e164, hx164_0⟩ := Kd.at_int HR1.out x13_1 p164 q164
                        cases e164
                        replace hx164_0 := (HB.out.cell (World.block_lt_of_cell? w _ hx164_0)).trans hx164_0
                        replace p164 := eq_true p164
                        replace q164 := eq_true q164
                        try go_wp2
                        have n0_ := Aside0.mk (Kd.R_drew HO_5.out)
                        have n1_ := Aside0.mk (below_drew1 HB.out)
                        clear HO_5
                        clear HB
                        have HO_5 := n0_
                        have HB := n1_
                        clear n0_ n1_
                        obtain ⟨Ao20, co20, eo20⟩ := Kd.R_slice HO_5.out
                        (first | subst eo20 | (injection eo20 with f1_ f2_ f3_; have f4_ := f1_.symm; have f5_ := f3_.symm; clear f1_ f2_ f3_; subst f4_; subst f5_))
                        have p165 : 0 ≤ ((ji12) : Int) := of_decide_eq_true (by first | (with_reducible assumption) | assumption)
                        have q165 : (ji12) < (x5_1.length : Int) := of_decide_eq_true (by first | (with_reducible assumption) | assumption)
                        obtain ⟨ad165, e165, hx165_0⟩ := Kd.at_int (Kd.R_reads' HO_5.out).2.2 (ji12) p165 q165
                        cases e165
                        replace p165 := eq_true p165
                        replace q165 := eq_true q165
                        have p18 : 0 ≤ ((ji12) : Int) := of_decide_eq_true (by first | (with_reducible assumption) | assumption)
                        have q18 : ((ji12) : Int) < ((x5_1.length : Int) : Int) := of_decide_eq_true (by first | (with_reducible assumption) | assumption)
                        obtain ⟨go18, co18, eo18, gb18, gl18, cl18, HG18⟩ := Kd.R_form HO_5.out (by omega)
                        (first | cases eo18 | (injection eo18 with ea_ en_ ec_; (first | subst ea_ | (injection ea_ with ea_; subst ea_)); subst ec_; clear en_))
                        have GB18 := Aside0.mk gb18
                        have GG18 := Aside0.mk HG18
                        clear gb18 gl18 HG18
                        (first | simp only [add_plain] at hx165_0 | skip)
                        obtain ⟨hx18_0, hf18_0⟩ := Kd.R_celln 0 HO_5.out ((ji12) : Int) p18 q18
                        replace p18 := eq_true p18
                        replace q18 := eq_true q18
                        have HP21 := Kd.R_putn HO_5.out ((ji12) : Int) (Go.bits .or .u8 (rd x5_1 (ji12)) (ji17))
                        rw [← Ny166.out] at HP21
                        have HQ21 := Aside0.mk HP21
                        clear HP21
                        refine start_ (n := 15) (S := fun w' => w'.cell? ⟨go18, ((ji12)).toNat, none⟩ = some (.int .u8 (rd x5_1 (ji12)))) (ds := [14]) #[false, false, false, false, false, false, false, false, false, false, false, false, false, false, false] (by kernel_rfl) rfl rfl (hx165_0) (fun hHeld => ?_); refine with_tabW spec_BitsSet.tab6 spec_BitsSet.bits6 (fun HT_ HW_ => ?_)
                        generalize wr.drew = w19 at HO_5 HB GG18 HQ21 hf18_0 hx165_0 hx18_0 hHeld ⊢
                        refine pure_ (i := 0) (N := some 19) (v := ?_) (a' := ?_) #[true, false, false, false, false, false, false, false, false, false, false, false, false, false, false] rfl rfl (any_of HT_.out (by kernel_rfl)) (fun _ _ _ h => h) (Or.inl ⟨by rfl, ?_⟩) ?_ ?_
                        rotate_left
                        · intro w'
                          go_simp
                          with_reducible rfl
                        rotate_left
                        · simp only [Act.put, List.setIfInBounds_toArray, List.set_cons_zero, List.set_cons_succ, i64_w, i32_w]
                          rfl
                        refine pure_ (i := 1) (N := some 20) (v := ?_) (a' := ?_) #[true, true, false, false, false, false, false, false, false, false, false, false, false, false, false] rfl rfl (any_of HT_.out (by kernel_rfl)) (fun _ _ _ h => h) (Or.inl ⟨by rfl, ?_⟩) ?_ ?_
                        rotate_left
                        · intro w'
                          go_simp
                          with_reducible rfl
                        rotate_left
                        · simp only [Act.put, List.setIfInBounds_toArray, List.set_cons_zero, List.set_cons_succ, i64_w, i32_w]
                          rfl
                        refine pure_ (i := 2) (N := some 21) (v := ?_) (a' := ?_) #[true, true, true, false, false, false, false, false, false, false, false, false, false, false, false] rfl rfl (any_of HT_.out (by kernel_rfl)) (fun _ _ _ h => h) (Or.inl ⟨by rfl, ?_⟩) ?_ ?_
                        rotate_left
                        · intro w'
                          go_simp
                          with_reducible rfl
                        rotate_left
                        · simp only [Act.put, List.setIfInBounds_toArray, List.set_cons_zero, List.set_cons_succ, i64_w, i32_w]
                          rfl
                        refine pure_ (i := 3) (N := some 22) (v := ?_) (a' := ?_) #[true, true, true, true, false, false, false, false, false, false, false, false, false, false, false] rfl rfl (any_of HT_.out (by kernel_rfl)) (fun _ _ _ h => h) (Or.inl ⟨by rfl, ?_⟩) ?_ ?_
                        rotate_left
                        · intro w'
                          go_simp
                          with_reducible rfl
                        rotate_left
                        · simp only [Act.put, List.setIfInBounds_toArray, List.set_cons_zero, List.set_cons_succ, i64_w, i32_w]
                          rfl
                        refine pure_ (i := 4) (N := some 23) (v := ?_) (a' := ?_) #[true, true, true, true, true, false, false, false, false, false, false, false, false, false, false] rfl rfl (any_of HT_.out (by kernel_rfl)) (fun _ _ _ h => h) (Or.inl ⟨by rfl, ?_⟩) ?_ ?_
                        rotate_left
                        · intro w'
                          go_simp
                          with_reducible rfl
                        rotate_left
                        · simp only [Act.put, List.setIfInBounds_toArray, List.set_cons_zero, List.set_cons_succ, i64_w, i32_w]
                          rfl
                        refine pure_ (i := 5) (N := some 24) (v := ?_) (a' := ?_) #[true, true, true, true, true, true, false, false, false, false, false, false, false, false, false] rfl rfl (any_of HT_.out (by kernel_rfl)) (fun _ _ _ h => h) (Or.inl ⟨by rfl, ?_⟩) ?_ ?_
                        rotate_left
                        · intro w'
                          go_simp
                          with_reducible rfl
                        rotate_left
                        · simp only [Act.put, List.setIfInBounds_toArray, List.set_cons_zero, List.set_cons_succ, i64_w, i32_w]
                          rfl
                        refine pure_ (i := 6) (N := some 25) (v := ?_) (a' := ?_) #[true, true, true, true, true, true, true, false, false, false, false, false, false, false, false] rfl rfl (any_of HT_.out (by kernel_rfl)) (fun _ _ _ h => h) (Or.inl ⟨by rfl, ?_⟩) ?_ ?_
                        rotate_left
                        · intro w'
                          go_simp
                          with_reducible rfl
                        rotate_left
                        · simp only [Act.put, List.setIfInBounds_toArray, List.set_cons_zero, List.set_cons_succ, i64_w, i32_w]
                          rfl
                        refine pure_ (i := 7) (N := some 26) (v := ?_) (a' := ?_) #[true, true, true, true, true, true, true, true, false, false, false, false, false, false, false] rfl rfl (any_of HT_.out (by kernel_rfl)) (fun _ _ _ h => h) (Or.inl ⟨by rfl, ?_⟩) ?_ ?_
                        rotate_left
                        · intro w'
                          go_simp
                          with_reducible rfl
                        rotate_left
                        · simp only [Act.put, List.setIfInBounds_toArray, List.set_cons_zero, List.set_cons_succ, i64_w, i32_w]
                          rfl
                        refine pure_ (i := 9) (N := some 28) (v := ?_) (a' := ?_) #[true, true, true, true, true, true, true, true, false, true, false, false, false, false, false] rfl rfl (any_of HT_.out (by kernel_rfl)) (fun _ _ _ h => h) (Or.inl ⟨by rfl, ?_⟩) ?_ ?_
                        rotate_left
                        · intro w'
                          go_simp
                          with_reducible rfl
                        rotate_left
                        · simp only [Act.put, List.setIfInBounds_toArray, List.set_cons_zero, List.set_cons_succ, i64_w, i32_w]
                          rfl
                        refine pure_ (i := 10) (N := some 29) (v := ?_) (a' := ?_) #[true, true, true, true, true, true, true, true, false, true, true, false, false, false, false] rfl rfl (any_of HT_.out (by kernel_rfl)) (fun _ _ _ h => h) (Or.inl ⟨by rfl, ?_⟩) ?_ ?_
                        rotate_left
                        · intro w'
                          go_simp
                          with_reducible rfl
                        rotate_left
                        · simp only [Act.put, List.setIfInBounds_toArray, List.set_cons_zero, List.set_cons_succ, i64_w, i32_w]
                          rfl
                        refine pure_ (i := 11) (N := some 30) (v := ?_) (a' := ?_) #[true, true, true, true, true, true, true, true, false, true, true, true, false, false, false] rfl rfl (any_of HT_.out (by kernel_rfl)) (fun _ _ _ h => h) (Or.inl ⟨by rfl, ?_⟩) ?_ ?_
                        rotate_left
                        · intro w'
                          go_simp
                          with_reducible rfl
                        rotate_left
                        · simp only [Act.put, List.setIfInBounds_toArray, List.set_cons_zero, List.set_cons_succ, i64_w, i32_w]
                          rfl
                        refine take_ (i := 8) (N := some 27) (v := ?_) (a' := ?_) #[true, true, true, true, true, true, true, true, true, true, true, true, false, false, false] rfl rfl (take_ofW HT_.out HW_.out (by kernel_rfl)) (fun _ _ _ h => h) (Or.inl ⟨by rfl, ?_⟩) hHeld ?_ ?_
                        rotate_left
                        · intro w' s0
                          go_simp
                          with_reducible rfl
                        rotate_left
                        · simp only [Act.put, List.setIfInBounds_toArray, List.set_cons_zero, List.set_cons_succ, i64_w, i32_w]
                          rfl
                        refine pure_ (i := 12) (N := some 31) (v := ?_) (a' := ?_) #[true, true, true, true, true, true, true, true, true, true, true, true, true, false, false] rfl rfl (any_of HT_.out (by kernel_rfl)) (fun _ _ _ h => h) (Or.inl ⟨by rfl, ?_⟩) ?_ ?_
                        rotate_left
                        · intro w'
                          go_simp
                          with_reducible rfl
                        rotate_left
                        · simp only [Act.put, List.setIfInBounds_toArray, List.set_cons_zero, List.set_cons_succ, i64_w, i32_w]
                          rfl
                        refine pure_ (i := 13) (N := some 32) (v := ?_) (a' := ?_) #[true, true, true, true, true, true, true, true, true, true, true, true, true, true, false] rfl rfl (any_of HT_.out (by kernel_rfl)) (fun _ _ _ h => h) (Or.inl ⟨by rfl, ?_⟩) ?_ ?_
                        rotate_left
                        · intro w'
                          go_simp
                          with_reducible rfl
                        rotate_left
                        · simp only [Act.put, List.setIfInBounds_toArray, List.set_cons_zero, List.set_cons_succ, i64_w, i32_w]
                          rfl
                        refine last_ (i := 14) (N := none) #[true, true, true, true, true, true, true, true, true, true, true, true, true, true, true] rfl rfl (one_of HT_.out (by kernel_rfl)) (by decide) (fun K hK => ?_)
                        refine skip_ (w1 := ?_) (by rfl) rfl ?_ ?_
                        rotate_left
                        · go_simp
                          rfl
                        refine hK.out _ _ ?_
                        clear hK K
                        refine done_ (done_of HT_.out (by kernel_rfl)) ?_
                        try go_wp2
                        go_roundg k1
                        case measure => have := HK1.out; omega
                        case rel => exact ⟨(y166), (wrap64 (x13_1 + 1)), (by first | rfl | (simp; done) | (simp [*]; done)), H', ⟨by have := HK1.out; omega⟩, ⟨by (with_reducible repeat (first | apply Kd.R_alloc | apply Kd.R_drewN | apply Kd.R_drew)); exact HQ21.out⟩, ⟨by repeat (first | (with_reducible first | exact HB.out | apply below_alloc | apply pw_below_drewN | apply below_drew1 | refine below_set ?_ GB18.out) | exact HB.out)⟩⟩
                      · rw [if_neg c16] at H
                        exact absurd H (by simp)
                    · rw [if_neg c14] at H
                      exact absurd H (by simp)
                  · rw [if_neg c13] at H
                    exact absurd H (by simp)
                · rw [if_neg c11] at H
                  have c11b0 : decide (0 ≤ (rd l1 x13_1)) = false := decide_eq_false c11
                  clear c11
                  obtain ⟨ji22, hji22⟩ : ∃ j_ : Int, (wrap64 ((wrap64 ((x5_1.length : Int) - 1)) - (wrap64 (Int.tdiv (wrap64 ((-1) - (rd l1 x13_1))) 8)))) = j_ := ⟨_, rfl⟩
                  replace H : (if 0 ≤ (ji22) then (if (ji22) < (x5_1.length : Int) then (if 0 ≤ (Int.tmod (wrap64 ((-1) - (rd l1 x13_1))) 8) then (spec_BitsSet.l0 k1 (x5_1.set ((ji22) : Int).toNat (Go.bits .andNot .u8 (rd x5_1 (ji22)) (shl .u8 1 (Int.tmod (wrap64 ((-1) - (rd l1 x13_1))) 8)))) l1 (l1.length : Int) (wrap64 (x13_1 + 1))) else (none)) else (none)) else (none)) = some r := by first | (rw [hji22] at H; exact H) | (simp only [hji22] at H ⊢; exact H)
                  have hji22w : (IntKind.i64.wrap ((wrap64 ((x5_1.length : Int) - 1)) - (wrap64 (Int.tdiv (wrap64 ((-1) - (rd l1 x13_1))) 8)))) = ji22 := (i64_w _).trans hji22
                  by_cases c23 : 0 ≤ (ji22)
                  · rw [if_pos c23] at H
                    have c23b0 : decide (0 ≤ (ji22)) = true := decide_eq_true c23
                    clear c23
                    by_cases c24 : (ji22) < (x5_1.length : Int)
                    · rw [if_pos c24] at H
                      have c24b0 : decide ((ji22) < (x5_1.length : Int)) = true := decide_eq_true c24
                      clear c24
                      obtain ⟨ji25, hji25⟩ : ∃ j_ : Int, (Int.tmod (wrap64 ((-1) - (rd l1 x13_1))) 8) = j_ := ⟨_, rfl⟩
                      replace H : (if 0 ≤ (ji25) then (spec_BitsSet.l0 k1 (x5_1.set ((ji22) : Int).toNat (Go.bits .andNot .u8 (rd x5_1 (ji22)) (shl .u8 1 (ji25)))) l1 (l1.length : Int) (wrap64 (x13_1 + 1))) else (none)) = some r := by first | (rw [hji25] at H; exact H) | (simp only [hji25] at H ⊢; exact H)
                      by_cases c26 : 0 ≤ (ji25)
                      · rw [if_pos c26] at H
                        have c26b0 := eq_true c26
                        have c26b1 : decide (0 ≤ (ji25)) = true := decide_eq_true c26
                        clear c26
                        obtain ⟨ji27, hji27⟩ : ∃ j_ : Int, (shl .u8 1 (ji25)) = j_ := ⟨_, rfl⟩
                        replace H : (spec_BitsSet.l0 k1 (x5_1.set ((ji22) : Int).toNat (Go.bits .andNot .u8 (rd x5_1 (ji22)) (ji27))) l1 (l1.length : Int) (wrap64 (x13_1 + 1))) = some r := by first | (rw [hji27] at H; exact H) | (simp only [hji27] at H ⊢; exact H)
                        have hji27_ : (IntKind.u8.wrap (1 * 2 ^ min (ji25).toNat 8)) = ji27 := hji27
                        have hji27z : (ji25) ≤ 8 → (IntKind.u8.wrap (1 * 2 ^ (ji25).toNat)) = ji27 := shl_small hji27
                        have hji27u : (IntKind.u8.wrap (2 ^ min (ji25).toNat 8)) = ji27 := by have h_ := hji27_; rw [Int.one_mul] at h_; exact h_
                        have hji27v : (ji25) ≤ 8 → (IntKind.u8.wrap (2 ^ (ji25).toNat)) = ji27 := fun hle_ => by have h_ := hji27z hle_; rw [Int.one_mul] at h_; exact h_
                        obtain ⟨y168, hy168⟩ : ∃ y_ : List Int, y_ = (x5_1.set ((ji22) : Int).toNat (Go.bits .andNot .u8 (rd x5_1 (ji22)) (ji27))) := ⟨_, rfl⟩
                        replace H : (spec_BitsSet.l0 k1 y168 l1 (l1.length : Int) (wrap64 (x13_1 + 1))) = some r := by first | (rw [hy168]; with_reducible exact H) | (have H2_ := (Option.bind_some _ _).symm.trans H; rw [hy168]; with_reducible exact H2_) | (have H2_ := (Option.bind_some _ _).symm.trans H; with_reducible exact H2_) | with_reducible exact H | (rw [hy168]; exact H) | exact H
                        have Ny168 := Aside0.mk hy168
                        clear hy168
                        have H' := Aside0.mk H
                        clear H
                        have p164 : 0 ≤ (x13_1 : Int) := of_decide_eq_true (by first | (with_reducible assumption) | assumption)
                        have q164 : x13_1 < (l1.length : Int) := of_decide_eq_true (by first | (with_reducible assumption) | assumption)
                        obtain ⟨ad164, e164, hx164_0⟩ := Kd.at_int HR1.out x13_1 p164 q164
                        cases e164
                        replace hx164_0 := (HB.out.cell (World.block_lt_of_cell? w _ hx164_0)).trans hx164_0
                        replace p164 := eq_true p164
                        replace q164 := eq_true q164
                        try go_wp2
                        have n0_ := Aside0.mk (Kd.R_drew HO_5.out)
                        have n1_ := Aside0.mk (below_drew1 HB.out)
                        clear HO_5
                        clear HB
                        have HO_5 := n0_
                        have HB := n1_
                        clear n0_ n1_
                        obtain ⟨Ao30, co30, eo30⟩ := Kd.R_slice HO_5.out
                        (first | subst eo30 | (injection eo30 with f1_ f2_ f3_; have f4_ := f1_.symm; have f5_ := f3_.symm; clear f1_ f2_ f3_; subst f4_; subst f5_))
                        have p167 : 0 ≤ ((ji22) : Int) := of_decide_eq_true (by first | (with_reducible assumption) | assumption)
                        have q167 : (ji22) < (x5_1.length : Int) := of_decide_eq_true (by first | (with_reducible assumption) | assumption)
                        obtain ⟨ad167, e167, hx167_0⟩ := Kd.at_int (Kd.R_reads' HO_5.out).2.2 (ji22) p167 q167
                        cases e167
                        replace p167 := eq_true p167
                        replace q167 := eq_true q167
                        have p28 : 0 ≤ ((ji22) : Int) := of_decide_eq_true (by first | (with_reducible assumption) | assumption)
                        have q28 : ((ji22) : Int) < ((x5_1.length : Int) : Int) := of_decide_eq_true (by first | (with_reducible assumption) | assumption)
                        obtain ⟨go28, co28, eo28, gb28, gl28, cl28, HG28⟩ := Kd.R_form HO_5.out (by omega)
                        (first | cases eo28 | (injection eo28 with ea_ en_ ec_; (first | subst ea_ | (injection ea_ with ea_; subst ea_)); subst ec_; clear en_))
                        have GB28 := Aside0.mk gb28
                        have GG28 := Aside0.mk HG28
                        clear gb28 gl28 HG28
                        (first | simp only [add_plain] at hx167_0 | skip)
                        obtain ⟨hx28_0, hf28_0⟩ := Kd.R_celln 0 HO_5.out ((ji22) : Int) p28 q28
                        replace p28 := eq_true p28
                        replace q28 := eq_true q28
                        have HP31 := Kd.R_putn HO_5.out ((ji22) : Int) (Go.bits .andNot .u8 (rd x5_1 (ji22)) (ji27))
                        rw [← Ny168.out] at HP31
                        have HQ31 := Aside0.mk HP31
                        clear HP31
                        refine start_ (n := 15) (S := fun w' => w'.cell? ⟨go28, ((ji22)).toNat, none⟩ = some (.int .u8 (rd x5_1 (ji22)))) (ds := [14]) #[false, false, false, false, false, false, false, false, false, false, false, false, false, false, false] (by kernel_rfl) rfl rfl (hx167_0) (fun hHeld => ?_); refine with_tabW spec_BitsSet.tab8 spec_BitsSet.bits8 (fun HT_ HW_ => ?_)
                        generalize wr.drew = w29 at HO_5 HB GG28 HQ31 hf28_0 hx167_0 hx28_0 hHeld ⊢
                        refine pure_ (i := 0) (N := some 35) (v := ?_) (a' := ?_) #[true, false, false, false, false, false, false, false, false, false, false, false, false, false, false] rfl rfl (any_of HT_.out (by kernel_rfl)) (fun _ _ _ h => h) (Or.inl ⟨by rfl, ?_⟩) ?_ ?_
                        rotate_left
                        · intro w'
                          go_simp
                          with_reducible rfl
                        rotate_left
                        · simp only [Act.put, List.setIfInBounds_toArray, List.set_cons_zero, List.set_cons_succ, i64_w, i32_w]
                          rfl
                        refine pure_ (i := 1) (N := some 36) (v := ?_) (a' := ?_) #[true, true, false, false, false, false, false, false, false, false, false, false, false, false, false] rfl rfl (any_of HT_.out (by kernel_rfl)) (fun _ _ _ h => h) (Or.inl ⟨by rfl, ?_⟩) ?_ ?_
                        rotate_left
                        · intro w'
                          go_simp
                          with_reducible rfl
                        rotate_left
                        · simp only [Act.put, List.setIfInBounds_toArray, List.set_cons_zero, List.set_cons_succ, i64_w, i32_w]
                          rfl
                        refine pure_ (i := 2) (N := some 37) (v := ?_) (a' := ?_) #[true, true, true, false, false, false, false, false, false, false, false, false, false, false, false] rfl rfl (any_of HT_.out (by kernel_rfl)) (fun _ _ _ h => h) (Or.inl ⟨by rfl, ?_⟩) ?_ ?_
                        rotate_left
                        · intro w'
                          go_simp
                          with_reducible rfl
                        rotate_left
                        · simp only [Act.put, List.setIfInBounds_toArray, List.set_cons_zero, List.set_cons_succ, i64_w, i32_w]
                          rfl
                        refine pure_ (i := 3) (N := some 38) (v := ?_) (a' := ?_) #[true, true, true, true, false, false, false, false, false, false, false, false, false, false, false] rfl rfl (any_of HT_.out (by kernel_rfl)) (fun _ _ _ h => h) (Or.inl ⟨by rfl, ?_⟩) ?_ ?_
                        rotate_left
                        · intro w'
                          go_simp
                          with_reducible rfl
                        rotate_left
                        · simp only [Act.put, List.setIfInBounds_toArray, List.set_cons_zero, List.set_cons_succ, i64_w, i32_w]
                          rfl
                        refine pure_ (i := 4) (N := some 39) (v := ?_) (a' := ?_) #[true, true, true, true, true, false, false, false, false, false, false, false, false, false, false] rfl rfl (any_of HT_.out (by kernel_rfl)) (fun _ _ _ h => h) (Or.inl ⟨by rfl, ?_⟩) ?_ ?_
                        rotate_left
                        · intro w'
                          go_simp
                          with_reducible rfl
                        rotate_left
                        · simp only [Act.put, List.setIfInBounds_toArray, List.set_cons_zero, List.set_cons_succ, i64_w, i32_w]
                          rfl
                        refine pure_ (i := 5) (N := some 40) (v := ?_) (a' := ?_) #[true, true, true, true, true, true, false, false, false, false, false, false, false, false, false] rfl rfl (any_of HT_.out (by kernel_rfl)) (fun _ _ _ h => h) (Or.inl ⟨by rfl, ?_⟩) ?_ ?_
                        rotate_left
                        · intro w'
                          go_simp
                          with_reducible rfl
                        rotate_left
                        · simp only [Act.put, List.setIfInBounds_toArray, List.set_cons_zero, List.set_cons_succ, i64_w, i32_w]
                          rfl
                        refine pure_ (i := 6) (N := some 41) (v := ?_) (a' := ?_) #[true, true, true, true, true, true, true, false, false, false, false, false, false, false, false] rfl rfl (any_of HT_.out (by kernel_rfl)) (fun _ _ _ h => h) (Or.inl ⟨by rfl, ?_⟩) ?_ ?_
                        rotate_left
                        · intro w'
                          go_simp
                          with_reducible rfl
                        rotate_left
                        · simp only [Act.put, List.setIfInBounds_toArray, List.set_cons_zero, List.set_cons_succ, i64_w, i32_w]
                          rfl
                        refine pure_ (i := 7) (N := some 42) (v := ?_) (a' := ?_) #[true, true, true, true, true, true, true, true, false, false, false, false, false, false, false] rfl rfl (any_of HT_.out (by kernel_rfl)) (fun _ _ _ h => h) (Or.inl ⟨by rfl, ?_⟩) ?_ ?_
                        rotate_left
                        · intro w'
                          go_simp
                          with_reducible rfl
                        rotate_left
                        · simp only [Act.put, List.setIfInBounds_toArray, List.set_cons_zero, List.set_cons_succ, i64_w, i32_w]
                          rfl
                        refine pure_ (i := 9) (N := some 44) (v := ?_) (a' := ?_) #[true, true, true, true, true, true, true, true, false, true, false, false, false, false, false] rfl rfl (any_of HT_.out (by kernel_rfl)) (fun _ _ _ h => h) (Or.inl ⟨by rfl, ?_⟩) ?_ ?_
                        rotate_left
                        · intro w'
                          go_simp
                          with_reducible rfl
                        rotate_left
                        · simp only [Act.put, List.setIfInBounds_toArray, List.set_cons_zero, List.set_cons_succ, i64_w, i32_w]
                          rfl
                        refine pure_ (i := 10) (N := some 45) (v := ?_) (a' := ?_) #[true, true, true, true, true, true, true, true, false, true, true, false, false, false, false] rfl rfl (any_of HT_.out (by kernel_rfl)) (fun _ _ _ h => h) (Or.inl ⟨by rfl, ?_⟩) ?_ ?_
                        rotate_left
                        · intro w'
                          go_simp
                          with_reducible rfl
                        rotate_left
                        · simp only [Act.put, List.setIfInBounds_toArray, List.set_cons_zero, List.set_cons_succ, i64_w, i32_w]
                          rfl
                        refine pure_ (i := 11) (N := some 46) (v := ?_) (a' := ?_) #[true, true, true, true, true, true, true, true, false, true, true, true, false, false, false] rfl rfl (any_of HT_.out (by kernel_rfl)) (fun _ _ _ h => h) (Or.inl ⟨by rfl, ?_⟩) ?_ ?_
                        rotate_left
                        · intro w'
                          go_simp
                          with_reducible rfl
                        rotate_left
                        · simp only [Act.put, List.setIfInBounds_toArray, List.set_cons_zero, List.set_cons_succ, i64_w, i32_w]
                          rfl
                        refine take_ (i := 8) (N := some 43) (v := ?_) (a' := ?_) #[true, true, true, true, true, true, true, true, true, true, true, true, false, false, false] rfl rfl (take_ofW HT_.out HW_.out (by kernel_rfl)) (fun _ _ _ h => h) (Or.inl ⟨by rfl, ?_⟩) hHeld ?_ ?_
                        rotate_left
                        · intro w' s0
                          go_simp
                          with_reducible rfl
                        rotate_left
                        · simp only [Act.put, List.setIfInBounds_toArray, List.set_cons_zero, List.set_cons_succ, i64_w, i32_w]
                          rfl
                        refine pure_ (i := 12) (N := some 47) (v := ?_) (a' := ?_) #[true, true, true, true, true, true, true, true, true, true, true, true, true, false, false] rfl rfl (any_of HT_.out (by kernel_rfl)) (fun _ _ _ h => h) (Or.inl ⟨by rfl, ?_⟩) ?_ ?_
                        rotate_left
                        · intro w'
                          go_simp
                          with_reducible rfl
                        rotate_left
                        · simp only [Act.put, List.setIfInBounds_toArray, List.set_cons_zero, List.set_cons_succ, i64_w, i32_w]
                          rfl
                        refine pure_ (i := 13) (N := some 48) (v := ?_) (a' := ?_) #[true, true, true, true, true, true, true, true, true, true, true, true, true, true, false] rfl rfl (any_of HT_.out (by kernel_rfl)) (fun _ _ _ h => h) (Or.inl ⟨by rfl, ?_⟩) ?_ ?_
                        rotate_left
                        · intro w'
                          go_simp
                          with_reducible rfl
                        rotate_left
                        · simp only [Act.put, List.setIfInBounds_toArray, List.set_cons_zero, List.set_cons_succ, i64_w, i32_w]
                          rfl
                        refine last_ (i := 14) (N := none) #[true, true, true, true, true, true, true, true, true, true, true, true, true, true, true] rfl rfl (one_of HT_.out (by kernel_rfl)) (by decide) (fun K hK => ?_)
                        refine skip_ (w1 := ?_) (by rfl) rfl ?_ ?_
                        rotate_left
                        · go_simp
                          rfl
                        refine hK.out _ _ ?_
                        clear hK K
                        refine done_ (done_of HT_.out (by kernel_rfl)) ?_
                        try go_wp2
                        go_roundg k1
                        case measure => have := HK1.out; omega
                        case rel => exact ⟨(y168), (wrap64 (x13_1 + 1)), (by first | rfl | (simp; done) | (simp [*]; done)), H', ⟨by have := HK1.out; omega⟩, ⟨by (with_reducible repeat (first | apply Kd.R_alloc | apply Kd.R_drewN | apply Kd.R_drew)); exact HQ31.out⟩, ⟨by repeat (first | (with_reducible first | exact HB.out | apply below_alloc | apply pw_below_drewN | apply below_drew1 | refine below_set ?_ GB28.out) | exact HB.out)⟩⟩
                      · rw [if_neg c26] at H
                        exact absurd H (by simp)
                    · rw [if_neg c24] at H
                      exact absurd H (by simp)
                  · rw [if_neg c23] at H
                    exact absurd H (by simp)
              · rw [if_neg c10] at H
                exact absurd H (by simp)
            · rw [if_neg c9] at H
              exact absurd H (by simp)
          · rw [if_neg c8] at H
            have c8b0 : decide (x13_1 < (l1.length : Int)) = false := decide_eq_false c8
            clear c8
            replace H := Option.bind_eq_some_iff.mp H
            obtain ⟨t169, A320, H⟩ := H
            replace H : (some t169) = some r := H
            have A32 := Aside0.mk A320
            clear A320
            obtain rfl := Option.some.inj H
            obtain ⟨Ao33, co33, eo33⟩ := Kd.R_slice HO_5.out
            subst eo33
            go_wp2_with (first | ((with_reducible refine gate_callee (f := 18) rfl ?_); refine goesL_ (some 51) rfl rfl Tryd.func18 (by kernel_rfl) rfl #[.slice Ao33 x5_1.length co33, .string (⟨#[0]⟩ : ByteArray)] rfl (by (try simp only [List.map_toArray, List.map_cons, List.map_nil]); first | done | rfl | (simp only [List.length_drop, List.length_take]; rfl)) ?_; (with_reducible refine (bytes_TrimLeft.calls k1 (fun k_ => some k_ = (.slice Ao33 x5_1.length co33 : Value).ownBlock) (.slice Ao33 x5_1.length co33) x5_1 (⟨#[0]⟩ : ByteArray) t169 w _ ?side1 ?side2 A32.out).mono ?_); (case side1 => repeat (first | (with_reducible first | exact HB.out | apply below_alloc | apply pw_below_drewN | apply below_drew1) | exact HB.out)); (case side2 => exact Kd.R_tight rfl HO_5.out); rintro e w34 ⟨v170, rfl, ho0, hb, hkp⟩; refine ⟨_, rfl, ?_⟩; have n0_ := Aside0.mk (Kd.V_mono (ok' := fun k_ => (w.heap.size ≤ k_)) ho0 (fun k_ hk_ => Or.elim hk_ (fun hs_ => (HO_5.out.1 k_ (hs_).symm)) (fun hn_ => (Nat.le_trans (below_size (by repeat (first | (with_reducible first | exact HB.out | apply below_alloc | apply pw_below_drewN | apply below_drew1) | exact HB.out))) hn_)))); have n1_ := Aside0.mk (hb); clear HB; clear HO_5; have HO171 := n0_; have HB := n1_; clear n0_ n1_; (try clear hb); (try clear hkp); (try clear ho0)))
            go_ret
            exact ⟨_, by first | rfl | (simp [errV_none, errV_some] <;> rfl) | (simp only [← hji3]; first | rfl | (simp [errV_none, errV_some] <;> rfl)) | (simp [*, errV_none, errV_some] <;> rfl), by (with_reducible repeat (first | apply Kd.V_alloc | apply Kd.V_drewN | apply Kd.V_drew)); exact HO171.out, by repeat (first | (with_reducible first | exact HB.out | apply below_alloc | apply pw_below_drewN | apply below_drew1) | exact HB.out)⟩
    · rw [if_neg c5] at H
      exact absurd H (by simp)
  · rw [if_neg c4] at H
    exact absurd H (by simp)

end Go.Proofs.YtbmeegkgcipmoaaDoor.PFnBitsSet
