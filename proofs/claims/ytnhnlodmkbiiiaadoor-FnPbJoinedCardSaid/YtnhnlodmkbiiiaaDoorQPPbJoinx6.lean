/- Printed by a program of this session (it drives the print of the kit, with contracts proved by hand beside): the Go functions of one law as Lean functions, and that the Go code comes to what they say. -/
import Derived.Test.YtnhnlodmkbiiiaaDoorQPPbJoinx0
namespace Go.Proofs.YtnhnlodmkbiiiaaDoor.PPbJoin
open Go.RowKit Go.Proofs.YtnhnlodmkbiiiaaDoorL Go.Proofs.YtnhnlodmkbiiiaaDoorW.PrintWords Go.Proofs.YtnhnlodmkbiiiaaDoorW.PrintLast Go.Proofs.YtnhnlodmkbiiiaaDoorW.PrintMore
attribute [local go_sem] max2_int min2_int max_two min_two max_three min_three max_four min_four   -- for this text's walks alone
set_option linter.unusedVariables false
set_option linter.unusedSimpArgs false

-- NOT PRINTED: function 50 (pb_PBLink_Unmarshal)

-- NOT PRINTED: function 60 (pb_PBNode_Unmarshal)

-- NOT PRINTED: function 93 (pb_PBLink_GetName)

-- NOT PRINTED: function 94 (pb_PBLink_GetTsize)

-- NOT PRINTED: function 52 (impl_plainPbLink)

-- NOT PRINTED: function 61 (impl_plainPbNode)

/-! ### impl_PbDecoded: function 22 -/
/-! ### spec_Uvarint: function 97 -/
def spec_Uvarint.l0 : Nat → Int → List Int → Option (List Int)
 | 0, _, _ => none
 | k + 1, x0, x3 => if x0 ≥ 128 then (if x3.length < 140737488355328 then (spec_Uvarint.l0 k (x0 / 128) (x3 ++ [Go.bits .or .u8 ((x0) % 256) 128])) else (none)) else (if x3.length < 140737488355328 then (some (x3 ++ [(x0) % 256])) else (none))
def spec_Uvarint.f (k : Nat) (a0 : Int) : Option (List Int) := spec_Uvarint.l0 k a0 (([] : List Int))
set_option maxHeartbeats 8000000 in
set_option maxRecDepth 100000 in
theorem spec_Uvarint.calls (k : Nat) (a0 : Int) (r : List Int) (w : World) (h : spec_Uvarint.f k a0 = some r) :
  Calls Tryd.prog 97 #[.int .u64 a0] w fun e w' => ∃ v0_ : Value, e = .returned (v0_) ∧ Kd.R (Kd.int .u8) 5 w' w.heap.size (fun _ => True) v0_ r ∧ Below w.heap.size w w' := by
 have HB := Aside0.mk (Below.refl w.heap.size w)
 have H : (spec_Uvarint.l0 k a0 (([] : List Int))) = some r := h
 clear h
 obtain ⟨y123, hy123⟩ : ∃ y_ : List Int, y_ = (([] : List Int)) := ⟨_, rfl⟩
 replace H : (spec_Uvarint.l0 k a0 y123) = some r := by first | (rw [hy123]; with_reducible exact H) | (have H2_ := (Option.bind_some _ _).symm.trans H; rw [hy123]; with_reducible exact H2_) | (have H2_ := (Option.bind_some _ _).symm.trans H; with_reducible exact H2_) | with_reducible exact H | (rw [hy123]; exact H) | exact H
 have Ny123 := Aside0.mk hy123
 clear hy123
 have H' := Aside0.mk H
 clear H
 go_enter Tryd.func97, Tryd.ntmps97
 go_wp2_with (first | ((with_reducible refine gate_dst (N := 4) rfl ?_); refine Kd.R_lit (Kd.int .u8) _ 5 ?hg (N := 4) ?hd (xs := ([] : List Int)) (inner := []) (ok := fun _ => True) (okp := fun _ => True) ?hr ?hp (fun _ hk => hk) trivial (Below.refl _ _) (Nat.le_refl _) (by simp) ?_; (case hd => rfl); (case hg => rfl); (case hr => first | (go_simp; done) | (go_simp; rfl)); (case hp => exact (Reps.none _ _)); intro v124 w2 ho3 hb hg_ hnew_; clear hg_ hnew_; (first | rw [← Ny123.out] at ho3 | (simp only [Int.reduceToNat] at ho3; rw [← Ny123.out] at ho3)); have n0_ := Aside0.mk (Kd.R_lower ho3 (below_size (by repeat (first | (with_reducible first | exact HB.out | apply below_alloc | apply pw_below_drewN | apply below_drew1) | exact HB.out)))); have n1_ := Aside0.mk (below_step (by repeat (first | (with_reducible first | exact HB.out | apply below_alloc | apply pw_below_drewN | apply below_drew1) | exact HB.out)) hb); clear HB; have HO125 := n0_; have HB := n1_; clear n0_ n1_; clear hb ho3))
 (try simp only [Act.put, List.setIfInBounds_toArray, List.set_cons_zero, List.set_cons_succ])
 go_loopg [0, 3] k (fun kq v0 v3 w' => ∃ (x0_1 : Int) (x3_1 : List Int), v0 = .int .u64 x0_1 ∧ Aside0 (spec_Uvarint.l0 kq x0_1 x3_1 = some r) ∧ Aside0 (kq ≤ k) ∧ Aside0 (Kd.R (Kd.int .u8) 5 w' w.heap.size (fun _ => True) v3 x3_1) ∧ Aside0 (Below w.heap.size w w'))
 case atStart => exact ⟨(a0), (y123), (by first | rfl | (simp; done) | (simp [*]; done)), H', ⟨Nat.le_refl _⟩, ⟨by (with_reducible repeat (first | apply Kd.R_alloc | apply Kd.R_drewN | apply Kd.R_drew)); exact HO125.out⟩, ⟨by repeat (first | (with_reducible first | exact HB.out | apply below_alloc | apply pw_below_drewN | apply below_drew1) | exact HB.out)⟩⟩
 case round =>
  clear H'
  try clear p2
  obtain ⟨x0_1, x3_1, rfl, HA, HK1, HO_3, HB⟩ := hrel
  cases gk with
  | zero => exact absurd HA.out (by simp [spec_Uvarint.l0])
  | succ k1 =>
   have H := HA.out
   clear HA
   simp only [spec_Uvarint.l0] at H
   by_cases c4 : x0_1 ≥ 128
   ·rw [if_pos c4] at H
    have c4b0 : decide (128 ≤ x0_1) = true := decide_eq_true c4
    clear c4
    by_cases c5 : x3_1.length < 140737488355328
    ·rw [if_pos c5] at H
     have LMc5 := Aside0.mk c5
     clear c5
     obtain ⟨y126, hy126⟩ : ∃ y_ : List Int, y_ = (x3_1 ++ [Go.bits .or .u8 ((x0_1) % 256) 128]) := ⟨_, rfl⟩
     replace H : (spec_Uvarint.l0 k1 (x0_1 / 128) y126) = some r := by first | (rw [hy126]; with_reducible exact H) | (have H2_ := (Option.bind_some _ _).symm.trans H; rw [hy126]; with_reducible exact H2_) | (have H2_ := (Option.bind_some _ _).symm.trans H; with_reducible exact H2_) | with_reducible exact H | (rw [hy126]; exact H) | exact H
     have Ny126 := Aside0.mk hy126
     clear hy126
     have H' := Aside0.mk H
     clear H
     go_wp2_with (first | ((with_reducible refine gate_builtin (b := .append) (xs := #[.tmp 7, .tmp 11]) rfl ?_); at_builtin; refine Kd.R_append (Kd.int .u8) (w0 := w) w.heap.size rfl (.tmp 7) (.tmp 11) 22 5 (.int .u8 0) 1 rfl Tryd.underlying22 info5 rfl (by decide) (by omega) u3 x3_1 (Go.bits .or .u8 ((x0_1) % 256) 128) [.int .u8 (Go.bits .or .u8 ((x0_1) % 256) 128)] (fun _ => True) (fun _ => False) rfl rfl ?aP (fun _ hk => hk.elim) ?aF ?aO ?aB ?aS ?aL ?_; (case aP => exact rfl); (case aB => exact (by repeat (first | (with_reducible first | exact HB.out | apply below_alloc | apply pw_below_drewN | apply below_drew1) | exact HB.out))); (case aF => exact (fun _ _ => trivial)); (case aO => exact (by (with_reducible repeat (first | apply Kd.R_alloc | apply Kd.R_drewN | apply Kd.R_drew)); exact HO_3.out)); (case aS => exact (below_size (by repeat (first | (with_reducible first | exact HB.out | apply below_alloc | apply pw_below_drewN | apply below_drew1) | exact HB.out)))); (case aL => have := LMc5.out; omega); intro v127 w6 ho hb hg hat; rw [← Ny126.out] at ho; have n0_ := Aside0.mk (hb); have n1_ := Aside0.mk (ho); clear HB; clear HO_3; have HB := n0_; have HO128 := n1_; clear n0_ n1_; clear ho hb hg hat))
     go_roundg k1
     case measure => have := HK1.out; omega
     case rel => exact ⟨(x0_1 / 128), (y126), (by first | rfl | (simp; done) | (simp [*]; done)), H', ⟨by have := HK1.out; omega⟩, ⟨by (with_reducible repeat (first | apply Kd.R_alloc | apply Kd.R_drewN | apply Kd.R_drew)); exact HO128.out⟩, ⟨by repeat (first | (with_reducible first | exact HB.out | apply below_alloc | apply pw_below_drewN | apply below_drew1) | exact HB.out)⟩⟩
    ·rw [if_neg c5] at H
     exact absurd H (by simp)
   ·rw [if_neg c4] at H
    have c4b0 : decide (128 ≤ x0_1) = false := decide_eq_false c4
    clear c4
    by_cases c7 : x3_1.length < 140737488355328
    ·rw [if_pos c7] at H
     have LMc7 := Aside0.mk c7
     clear c7
     obtain ⟨y129, hy129⟩ : ∃ y_ : List Int, y_ = (x3_1 ++ [(x0_1) % 256]) := ⟨_, rfl⟩
     replace H : (some y129) = some r := by first | (rw [hy129]; with_reducible exact H) | (have H2_ := (Option.bind_some _ _).symm.trans H; rw [hy129]; with_reducible exact H2_) | (have H2_ := (Option.bind_some _ _).symm.trans H; with_reducible exact H2_) | with_reducible exact H | (rw [hy129]; exact H) | exact H
     have Ny129 := Aside0.mk hy129
     clear hy129
     obtain rfl := Option.some.inj H
     go_wp2_with (first | ((with_reducible refine gate_builtin (b := .append) (xs := #[.tmp 15, .tmp 18]) rfl ?_); at_builtin; refine Kd.R_append (Kd.int .u8) (w0 := w) w.heap.size rfl (.tmp 15) (.tmp 18) 22 5 (.int .u8 0) 1 rfl Tryd.underlying22 info5 rfl (by decide) (by omega) u3 x3_1 ((x0_1) % 256) [.int .u8 ((x0_1) % 256)] (fun _ => True) (fun _ => False) rfl rfl ?aP (fun _ hk => hk.elim) ?aF ?aO ?aB ?aS ?aL ?_; (case aP => exact rfl); (case aB => exact (by repeat (first | (with_reducible first | exact HB.out | apply below_alloc | apply pw_below_drewN | apply below_drew1) | exact HB.out))); (case aF => exact (fun _ _ => trivial)); (case aO => exact (by (with_reducible repeat (first | apply Kd.R_alloc | apply Kd.R_drewN | apply Kd.R_drew)); exact HO_3.out)); (case aS => exact (below_size (by repeat (first | (with_reducible first | exact HB.out | apply below_alloc | apply pw_below_drewN | apply below_drew1) | exact HB.out)))); (case aL => have := LMc7.out; omega); intro v130 w8 ho hb hg hat; rw [← Ny129.out] at ho; have n0_ := Aside0.mk (hb); have n1_ := Aside0.mk (ho); clear HB; clear HO_3; have HB := n0_; have HO131 := n1_; clear n0_ n1_; clear ho hb hg hat))
     go_ret
     exact ⟨_, by first | rfl | (simp [errV_none, errV_some] <;> rfl) | (simp [*, errV_none, errV_some] <;> rfl), by (with_reducible repeat (first | apply Kd.R_alloc | apply Kd.R_drewN | apply Kd.R_drew)); exact HO131.out, by repeat (first | (with_reducible first | exact HB.out | apply below_alloc | apply pw_below_drewN | apply below_drew1) | exact HB.out)⟩
    ·rw [if_neg c7] at H
     exact absurd H (by simp)

/-! ### spec_pbField: function 57 -/
def spec_pbField.f (k : Nat) (a0 : Int) (l1 : List Int) : Option (List Int) := (some (([Go.bits .or .u8 ((a0 * 8) % 256) 2] : List Int) : List Int)).bind fun y132 => ((spec_Uvarint.f k (IntKind.u64.wrap ((l1.length : Int)))).bind fun t135 => (if y132.length + t135.length < 140737488355328 then ((some (y132 ++ t135 : List Int)).bind fun y138 => (if y138.length + l1.length < 140737488355328 then (some (y138 ++ l1)) else (none))) else (none)))
set_option maxHeartbeats 8000000 in
set_option maxRecDepth 100000 in
theorem spec_pbField.calls (k : Nat) (a0 : Int) (A1 : Option Addr) (c1 : Nat) (l1 : List Int) (r : List Int) (w : World) (hr1 : Kd.C (Kd.int .u8) w A1 l1.length l1) (hc1 : l1.length ≤ c1) (h : spec_pbField.f k a0 l1 = some r) :
  Calls Tryd.prog 57 #[.int .u8 a0, .slice A1 l1.length c1] w fun e w' => ∃ v0_ : Value, e = .returned (v0_) ∧ Kd.R (Kd.int .u8) 5 w' w.heap.size (fun _ => True) v0_ r ∧ Below w.heap.size w w' := by
 have HR1 := Aside0.mk hr1
 have HC1 := Aside0.mk hc1
 clear hr1 hc1
 have HB := Aside0.mk (Below.refl w.heap.size w)
 have H : ((some (([Go.bits .or .u8 ((a0 * 8) % 256) 2] : List Int) : List Int)).bind fun y132 => ((spec_Uvarint.f k (IntKind.u64.wrap ((l1.length : Int)))).bind fun t135 => (if y132.length + t135.length < 140737488355328 then ((some (y132 ++ t135 : List Int)).bind fun y138 => (if y138.length + l1.length < 140737488355328 then (some (y138 ++ l1)) else (none))) else (none)))) = some r := h
 clear h
 obtain ⟨y132, hy132⟩ : ∃ y_ : List Int, y_ = (([Go.bits .or .u8 ((a0 * 8) % 256) 2] : List Int)) := ⟨_, rfl⟩
 replace H : ((spec_Uvarint.f k (IntKind.u64.wrap ((l1.length : Int)))).bind fun t135 => (if y132.length + t135.length < 140737488355328 then ((some (y132 ++ t135 : List Int)).bind fun y138 => (if y138.length + l1.length < 140737488355328 then (some (y138 ++ l1)) else (none))) else (none))) = some r := by first | (rw [hy132]; with_reducible exact H) | (have H2_ := (Option.bind_some _ _).symm.trans H; rw [hy132]; with_reducible exact H2_) | (have H2_ := (Option.bind_some _ _).symm.trans H; with_reducible exact H2_) | with_reducible exact H | (rw [hy132]; exact H) | exact H
 have Ny132 := Aside0.mk hy132
 clear hy132
 replace H := Option.bind_eq_some_iff.mp H
 obtain ⟨t135, A30, H⟩ := H
 replace H : (if y132.length + t135.length < 140737488355328 then ((some (y132 ++ t135 : List Int)).bind fun y138 => (if y138.length + l1.length < 140737488355328 then (some (y138 ++ l1)) else (none))) else (none)) = some r := H
 have A3 := Aside0.mk A30
 clear A30
 by_cases c4 : y132.length + t135.length < 140737488355328
 ·rw [if_pos c4] at H
  have LMc4 := Aside0.mk c4
  clear c4
  obtain ⟨y138, hy138⟩ : ∃ y_ : List Int, y_ = (y132 ++ t135) := ⟨_, rfl⟩
  replace H : (if y138.length + l1.length < 140737488355328 then (some (y138 ++ l1)) else (none)) = some r := by first | (rw [hy138]; with_reducible exact H) | (have H2_ := (Option.bind_some _ _).symm.trans H; rw [hy138]; with_reducible exact H2_) | (have H2_ := (Option.bind_some _ _).symm.trans H; with_reducible exact H2_) | with_reducible exact H | (rw [hy138]; exact H) | exact H
  have Ny138 := Aside0.mk hy138
  clear hy138
  by_cases c5 : y138.length + l1.length < 140737488355328
  ·rw [if_pos c5] at H
   have LMc5 := Aside0.mk c5
   clear c5
   obtain ⟨y141, hy141⟩ : ∃ y_ : List Int, y_ = (y138 ++ l1) := ⟨_, rfl⟩
   replace H : (some y141) = some r := by first | (rw [hy141]; with_reducible exact H) | (have H2_ := (Option.bind_some _ _).symm.trans H; rw [hy141]; with_reducible exact H2_) | (have H2_ := (Option.bind_some _ _).symm.trans H; with_reducible exact H2_) | with_reducible exact H | (rw [hy141]; exact H) | exact H
   have Ny141 := Aside0.mk hy141
   clear hy141
   obtain rfl := Option.some.inj H
   go_enter Tryd.func57, Tryd.ntmps57
   go_wp2_with (first | ((with_reducible refine gate_dst (N := 8) rfl ?_); refine Kd.R_lit (Kd.int .u8) _ 5 ?hg (N := 8) ?hd (xs := ([Go.bits .or .u8 ((a0 * 8) % 256) 2] : List Int)) (inner := [.int .u8 (Go.bits .or .u8 ((a0 * 8) % 256) 2)]) (ok := fun _ => True) (okp := fun _ => True) ?hr ?hp (fun _ hk => hk) trivial (Below.refl _ _) (Nat.le_refl _) (by simp) ?_; (case hd => rfl); (case hg => rfl); (case hr => first | (go_simp; done) | (go_simp; rfl)); (case hp => exact (Reps.one (show Kd.M (Kd.int .u8) _ _ _ (Go.bits .or .u8 ((a0 * 8) % 256) 2) [.int .u8 (Go.bits .or .u8 ((a0 * 8) % 256) 2)] from rfl) (Reps.none _ _))); intro v133 w6 ho7 hb hg_ hnew_; clear hg_ hnew_; (first | rw [← Ny132.out] at ho7 | (simp only [Int.reduceToNat] at ho7; rw [← Ny132.out] at ho7)); have n0_ := Aside0.mk (Kd.R_lower ho7 (below_size (by repeat (first | (with_reducible first | exact HB.out | apply below_alloc | apply pw_below_drewN | apply below_drew1) | exact HB.out)))); have n1_ := Aside0.mk (below_step (by repeat (first | (with_reducible first | exact HB.out | apply below_alloc | apply pw_below_drewN | apply below_drew1) | exact HB.out)) hb); clear HB; have HO134 := n0_; have HB := n1_; clear n0_ n1_; clear hb ho7) | ((with_reducible refine gate_callee (f := 97) rfl ?_); refine goesL_ (some 12) rfl rfl Tryd.func97 (by kernel_rfl) rfl #[.int .u64 (IntKind.u64.wrap ((l1.length : Int)))] rfl (by (try simp only [List.map_toArray, List.map_cons, List.map_nil]); first | done | rfl | (simp only [List.length_drop, List.length_take]; rfl)) ?_; (with_reducible refine (spec_Uvarint.calls k (IntKind.u64.wrap ((l1.length : Int))) t135 _ A3.out).mono ?_); rintro e w8 ⟨v136, rfl, ho0, hb⟩; refine ⟨_, rfl, ?_⟩; have n0_ := Aside0.mk (Kd.R_elder' (by (with_reducible repeat (first | apply Kd.R_alloc | apply Kd.R_drewN | apply Kd.R_drew)); exact HO134.out) (Kd.R_base ho0) hb); have n1_ := Aside0.mk (Kd.R_lower (Kd.R_new' ho0 (Kd.R_lt (by (with_reducible repeat (first | apply Kd.R_alloc | apply Kd.R_drewN | apply Kd.R_drew)); exact HO134.out))) (below_size (by repeat (first | (with_reducible first | exact HB.out | apply below_alloc | apply pw_below_drewN | apply below_drew1) | exact HB.out)))); have n2_ := Aside0.mk (below_step (by repeat (first | (with_reducible first | exact HB.out | apply below_alloc | apply pw_below_drewN | apply below_drew1) | exact HB.out)) hb); clear HO134; clear HB; have HO134 := n0_; have HO137 := n1_; have HB := n2_; clear n0_ n1_ n2_; (try clear hb); (try clear hb2); (try clear hk); (try clear hi); (try clear ho0); obtain ⟨Ao10, co10, eo10⟩ := Kd.R_slice HO137.out; subst eo10) | ((with_reducible refine gate_builtin (b := .append) (xs := #[.tmp 8, .tmp 12]) rfl ?_); at_builtin; refine Kd.R_append_rows (Kd.int .u8) (w0 := w) w.heap.size rfl (.tmp 8) (.tmp 12) 22 5 (.int .u8 0) 1 rfl Tryd.underlying22 info5 rfl (by decide) (by omega) v133 y132 t135 _ _ _ (fun k_ => some k_ ≠ (.slice Ao10 t135.length co10 : Value).ownBlock) (fun _ => False) rfl rfl ?aO ?aR (fun _ _ h => h) (fun _ h => h.elim) ?aF ?aB ?aS ?aL ?_; (case aR => repeat (first | exact (Kd.R_reads' HO137.out).2.2 | (with_reducible refine Kd.C_alloc ?_ _) | (with_reducible refine Kd.C_drewN ?_ _) | (with_reducible refine Kd.C_drew ?_))); (case aB => exact (by repeat (first | (with_reducible first | exact HB.out | apply below_alloc | apply pw_below_drewN | apply below_drew1) | exact HB.out))); (case aF => exact (fun k_ hk => Kd.fresh' (Kd.R_lt (by (with_reducible repeat (first | apply Kd.R_alloc | apply Kd.R_drewN | apply Kd.R_drew)); exact HO137.out)) k_ hk)); (case aO => exact (by (with_reducible repeat (first | apply Kd.R_alloc | apply Kd.R_drewN | apply Kd.R_drew)); exact Kd.R_mono HO134.out (fun _ hk => hk.2))); (case aS => exact (below_size (by repeat (first | (with_reducible first | exact HB.out | apply below_alloc | apply pw_below_drewN | apply below_drew1) | exact HB.out)))); (case aL => have := LMc4.out; omega); intro v139 w9 ho hb hg hat; rw [← Ny138.out] at ho; have n0_ := Aside0.mk (Kd.R_after (ok := (fun _ => True)) (by (with_reducible repeat (first | apply Kd.R_alloc | apply Kd.R_drewN | apply Kd.R_drew)); exact HO137.out) hg hat); have n1_ := Aside0.mk (hb); have n2_ := Aside0.mk (ho); clear HO137; clear HB; clear HO134; have HO137 := n0_; have HB := n1_; have HO140 := n2_; clear n0_ n1_ n2_; clear ho hb hg hat) | ((with_reducible refine gate_builtin (b := .append) (xs := #[.tmp 13, .tmp 14]) rfl ?_); at_builtin; refine Kd.R_append_rows (Kd.int .u8) (w0 := w) w.heap.size rfl (.tmp 13) (.tmp 14) 22 5 (.int .u8 0) 1 rfl Tryd.underlying22 info5 rfl (by decide) (by omega) v139 y138 l1 _ _ _ (fun k_ => some k_ ≠ (.slice Ao10 t135.length co10 : Value).ownBlock) (fun _ => False) rfl rfl ?aO ?aR (fun _ _ h => h) (fun _ h => h.elim) ?aF ?aB ?aS ?aL ?_; (case aR => repeat (first | exact (Kd.C_below HR1.out HB.out) | (with_reducible refine Kd.C_alloc ?_ _) | (with_reducible refine Kd.C_drewN ?_ _) | (with_reducible refine Kd.C_drew ?_))); (case aB => exact (by repeat (first | (with_reducible first | exact HB.out | apply below_alloc | apply pw_below_drewN | apply below_drew1) | exact HB.out))); (case aF => exact (fun k_ hk => Kd.fresh' (Kd.R_lt (by (with_reducible repeat (first | apply Kd.R_alloc | apply Kd.R_drewN | apply Kd.R_drew)); exact HO137.out)) k_ hk)); (case aO => exact (by (with_reducible repeat (first | apply Kd.R_alloc | apply Kd.R_drewN | apply Kd.R_drew)); exact HO140.out)); (case aS => exact (below_size (by repeat (first | (with_reducible first | exact HB.out | apply below_alloc | apply pw_below_drewN | apply below_drew1) | exact HB.out)))); (case aL => have := LMc5.out; omega); intro v142 w11 ho hb hg hat; rw [← Ny141.out] at ho; have n0_ := Aside0.mk (Kd.R_after (ok := (fun _ => True)) (by (with_reducible repeat (first | apply Kd.R_alloc | apply Kd.R_drewN | apply Kd.R_drew)); exact HO137.out) hg hat); have n1_ := Aside0.mk (hb); have n2_ := Aside0.mk (ho); clear HO137; clear HB; clear HO140; have HO137 := n0_; have HB := n1_; have HO143 := n2_; clear n0_ n1_ n2_; clear ho hb hg hat))
   go_ret
   exact ⟨_, by first | rfl | (simp [errV_none, errV_some] <;> rfl) | (simp [*, errV_none, errV_some] <;> rfl), by (with_reducible repeat (first | apply Kd.R_alloc | apply Kd.R_drewN | apply Kd.R_drew)); exact Kd.R_mono HO143.out (fun _ hk => trivial), by repeat (first | (with_reducible first | exact HB.out | apply below_alloc | apply pw_below_drewN | apply below_drew1) | exact HB.out)⟩
  ·rw [if_neg c5] at H
   exact absurd H (by simp)
 ·rw [if_neg c4] at H
  exact absurd H (by simp)

/-! ### spec_pbNumber: function 58 -/
/-! ### spec_PbLinkBytes: function 19, by hand -/
-- HAND pub-tholos/spec.PbLinkBytes
-- making: yes
/-- The bytes of a link. -/
def spec_PbLinkBytes.f (a0_0 : Bool) (a0_1 : Bool) (a0_2 : Bool) (l0_3 : List Int) (a0_4 : ByteArray) (a0_5 : Int) : Option (List Int) := if l0_3.length ≤ 1000000 ∧ a0_4.size ≤ 1000000 ∧ 0 ≤ a0_5 ∧ a0_5 < 18446744073709551616 then some (Go.Proofs.YtnhnlodmkbiiiaaDoor.HandPb.mlink (Go.Proofs.YtnhnlodmkbiiiaaDoor.HandPb.mkL a0_0 a0_1 a0_2 l0_3 a0_4 a0_5.toNat)) else none
theorem spec_PbLinkBytes.calls (a0_0 : Bool) (a0_1 : Bool) (a0_2 : Bool) (A0_3 : Option Addr) (c0_3 : Nat) (l0_3 : List Int) (a0_4 : ByteArray) (a0_5 : Int) (r : List Int) (w : World) (hr0_3 : Kd.C (Kd.int .u8) w A0_3 l0_3.length l0_3) (hc0_3 : l0_3.length ≤ c0_3) (h : spec_PbLinkBytes.f a0_0 a0_1 a0_2 l0_3 a0_4 a0_5 = some r) :
  Calls Tryd.prog 19 #[.agg #[.bool a0_0, .bool a0_1, .bool a0_2, .slice A0_3 l0_3.length c0_3, .string a0_4, .int .u64 a0_5]] w fun e w' => ∃ v0_ : Value, e = .returned (v0_) ∧ Kd.R (Kd.int .u8) 5 w' w.heap.size (fun _ => True) v0_ r ∧ Below w.heap.size w w' := by
 unfold spec_PbLinkBytes.f at h
 by_cases hg : l0_3.length ≤ 1000000 ∧ a0_4.size ≤ 1000000 ∧ 0 ≤ a0_5 ∧ a0_5 < 18446744073709551616
 case neg => rw [if_neg hg] at h; cases h
 rw [if_pos hg] at h
 obtain rfl := Option.some.inj h
 obtain ⟨g0, g1, g2, g3⟩ := hg
 obtain ⟨m, rfl⟩ := Int.eq_ofNat_of_zero_le g2
 have hm : m < 2 ^ 64 := by omega
 rw [Int.toNat_natCast]
 exact Go.Proofs.YtnhnlodmkbiiiaaDoor.HandPb.PbLinkBytes_calls w a0_0 a0_1 a0_2 A0_3 c0_3 l0_3 a0_4 m hr0_3 hc0_3 g0 g1 hm

end Go.Proofs.YtnhnlodmkbiiiaaDoor.PPbJoin
