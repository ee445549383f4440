/- Printed by a program of this session (it drives the print of the kit, with contracts proved by hand beside): the Go functions of one law as Lean functions, and that the Go code comes to what they say. -/
import Derived.Test.YtnhnlodmkbiiiaaDoorRPScrx0
import Derived.Test.YtnhnlodmkbiiiaaDoorRPScrx7
import Derived.Test.YtnhnlodmkbiiiaaDoorRPScrx8
namespace Go.Proofs.YtnhnlodmkbiiiaaDoor.PScr
open Go.RowKit Go.Proofs.YtnhnlodmkbiiiaaDoorL Go.Proofs.YtnhnlodmkbiiiaaDoorW.PrintWords Go.Proofs.YtnhnlodmkbiiiaaDoorW.PrintLast Go.Proofs.YtnhnlodmkbiiiaaDoorW.PrintMore
attribute [local go_sem] max2_int min2_int max_two min_two max_three min_three max_four min_four   -- for this text's walks alone
set_option linter.unusedVariables false
set_option linter.unusedSimpArgs false

/-! ### spec_Message: function 37 -/
mutual
def spec_Message.l0 : Nat → List Int → Bool → Int → List Int → Int → List Int → Int → Int → Option (Int × List Int × Int × List Int × Int × Int × Bool)
 | 0, _, _, _, _, _, _, _, _ => none
 | k + 1, x0, x5, x139000, x139001, x139002, x139003, x139004, x139005 => if (x0.length : Int) > 0 then ((spec_pbTake.f k x0).bind fun bt139 => (if bt139.2.2.2.2 = 0 then (spec_Message.j1 k x0 x5 bt139.1 bt139.2.1 bt139.2.2.1 bt139.2.2.2.1 bt139.2.2.2.2 true x139000 x139001 x139002 x139003 x139004 x139005) else (if bt139.2.1 = 2 then (if bt139.1 = 2 then (if bt139.2.1 = 0 then (spec_Message.j1 k x0 x5 bt139.1 bt139.2.1 bt139.2.2.1 bt139.2.2.2.1 bt139.2.2.2.2 (bt139.1 == 2) x139000 x139001 x139002 x139003 x139004 x139005) else (spec_Message.j1 k x0 x5 bt139.1 bt139.2.1 bt139.2.2.1 bt139.2.2.2.1 bt139.2.2.2.2 false x139000 x139001 x139002 x139003 x139004 x139005)) else (if bt139.1 = 4 then (if bt139.2.1 = 0 then (spec_Message.j1 k x0 x5 bt139.1 bt139.2.1 bt139.2.2.1 bt139.2.2.2.1 bt139.2.2.2.2 (bt139.1 == 2) x139000 x139001 x139002 x139003 x139004 x139005) else (spec_Message.j1 k x0 x5 bt139.1 bt139.2.1 bt139.2.2.1 bt139.2.2.2.1 bt139.2.2.2.2 false x139000 x139001 x139002 x139003 x139004 x139005)) else (spec_Message.j1 k x0 x5 bt139.1 bt139.2.1 bt139.2.2.1 bt139.2.2.2.1 bt139.2.2.2.2 true x139000 x139001 x139002 x139003 x139004 x139005))) else (if bt139.2.1 = 0 then (spec_Message.j1 k x0 x5 bt139.1 bt139.2.1 bt139.2.2.1 bt139.2.2.2.1 bt139.2.2.2.2 (bt139.1 == 2) x139000 x139001 x139002 x139003 x139004 x139005) else (spec_Message.j1 k x0 x5 bt139.1 bt139.2.1 bt139.2.2.1 bt139.2.2.2.1 bt139.2.2.2.2 false x139000 x139001 x139002 x139003 x139004 x139005))))) else (if x5 = true then (some (x139000, x139001, x139002, x139003, x139004, x139005, true)) else (some (0, ([] : List Int), 0, ([] : List Int), 0, 0, false)))
def spec_Message.j1 : Nat → List Int → Bool → Int → Int → Int → List Int → Int → Bool → Int → List Int → Int → List Int → Int → Int → Option (Int × List Int × Int × List Int × Int × Int × Bool)
 | 0, _, _, _, _, _, _, _, _, _, _, _, _, _, _ => none
 | k + 1, x0, x5, x6, x7, x8, x9, x10, x45, x139000, x139001, x139002, x139003, x139004, x139005 => if x45 = true then (some (0, ([] : List Int), 0, ([] : List Int), 0, 0, false)) else (if x6 = 1 then (if 0 ≤ x10 then (if x10 ≤ (x0.length : Int) then (spec_Message.l0 k (x0.drop (x10 : Int).toNat) true (wrap64 (wrap32 (x8))) x139001 x139002 x139003 x139004 x139005) else (none)) else (none)) else (if x6 = 2 then ((some (([] : List Int) : List Int)).bind fun y151 => (if y151.length + x9.length < 140737488355328 then (if 0 ≤ x10 then (if x10 ≤ (x0.length : Int) then (spec_Message.l0 k (x0.drop (x10 : Int).toNat) x5 x139000 (y151 ++ x9) x139002 x139003 x139004 x139005) else (none)) else (none)) else (none))) else (if x6 = 3 then (if 0 ≤ x10 then (if x10 ≤ (x0.length : Int) then (spec_Message.l0 k (x0.drop (x10 : Int).toNat) x5 x139000 x139001 x8 x139003 x139004 x139005) else (none)) else (none)) else (if x6 = 4 then (spec_Message.j2 k x0 x5 x6 x8 x9 x10 (x7 == 0) x139000 x139001 x139002 x139003 x139004 x139005) else (spec_Message.j2 k x0 x5 x6 x8 x9 x10 false x139000 x139001 x139002 x139003 x139004 x139005)))))
def spec_Message.j2 : Nat → List Int → Bool → Int → Int → List Int → Int → Bool → Int → List Int → Int → List Int → Int → Int → Option (Int × List Int × Int × List Int × Int × Int × Bool)
 | 0, _, _, _, _, _, _, _, _, _, _, _, _, _ => none
 | k + 1, x0, x5, x6, x8, x9, x10, x66, x139000, x139001, x139002, x139003, x139004, x139005 => if x66 = true then (if x139003.length < 17592186044416 then (if 0 ≤ x10 then (if x10 ≤ (x0.length : Int) then (spec_Message.l0 k (x0.drop (x10 : Int).toNat) x5 x139000 x139001 x139002 (x139003 ++ [x8]) x139004 x139005) else (none)) else (none)) else (none)) else (if x6 = 4 then (spec_Message.l1 k x0 x5 x9 x10 x139000 x139001 x139002 x139003 x139004 x139005) else (if x6 = 5 then (if 0 ≤ x10 then (if x10 ≤ (x0.length : Int) then (spec_Message.l0 k (x0.drop (x10 : Int).toNat) x5 x139000 x139001 x139002 x139003 x8 x139005) else (none)) else (none)) else (if x6 = 6 then (if 0 ≤ x10 then (if x10 ≤ (x0.length : Int) then (spec_Message.l0 k (x0.drop (x10 : Int).toNat) x5 x139000 x139001 x139002 x139003 x139004 x8) else (none)) else (none)) else (if 0 ≤ x10 then (if x10 ≤ (x0.length : Int) then (spec_Message.l0 k (x0.drop (x10 : Int).toNat) x5 x139000 x139001 x139002 x139003 x139004 x139005) else (none)) else (none)))))
def spec_Message.l1 : Nat → List Int → Bool → List Int → Int → Int → List Int → Int → List Int → Int → Int → Option (Int × List Int × Int × List Int × Int × Int × Bool)
 | 0, _, _, _, _, _, _, _, _, _, _ => none
 | k + 1, x0, x5, x9, x10, x139000, x139001, x139002, x139003, x139004, x139005 => if (x9.length : Int) > 0 then ((spec_ReadUvarint.f k x9).bind fun bt175 => (if bt175.2 = 0 then (some (0, ([] : List Int), 0, ([] : List Int), 0, 0, false)) else (if x139003.length < 17592186044416 then (if 0 ≤ bt175.2 then (if bt175.2 ≤ (x9.length : Int) then (spec_Message.l1 k x0 x5 (x9.drop (bt175.2 : Int).toNat) x10 x139000 x139001 x139002 (x139003 ++ [bt175.1]) x139004 x139005) else (none)) else (none)) else (none)))) else (if 0 ≤ x10 then (if x10 ≤ (x0.length : Int) then (spec_Message.l0 k (x0.drop (x10 : Int).toNat) x5 x139000 x139001 x139002 x139003 x139004 x139005) else (none)) else (none))
end
def spec_Message.f (k : Nat) (l0 : List Int) : Option (Int × List Int × Int × List Int × Int × Int × Bool) := spec_Message.l0 k l0 false 0 ([] : List Int) 0 ([] : List Int) 0 0
set_option maxHeartbeats 8000000 in
set_option maxRecDepth 100000 in
theorem spec_Message.calls (k : Nat) (P0_ : Nat → Prop) (A0 : Option Addr) (c0 : Nat) (l0 : List Int) (r1 : Int) (r2 : List Int) (r3 : Int) (r4 : List Int) (r5 : Int) (r6 : Int) (r7 : Bool) (w : World) (hs0 : Kd.V (Kd.int .u8) 5 w w.heap.size (fun k_ => P0_ k_) (.slice A0 l0.length c0) l0) (h : spec_Message.f k l0 = some (r1, r2, r3, r4, r5, r6, r7)) :
  Calls Tryd.prog 37 #[.slice A0 l0.length c0] w fun e w' => ∃ v1_ v3_ : Value, e = .returned (.tuple #[.agg #[.int .i64 r1, v1_, .int .u64 r3, v3_, .int .u64 r5, .int .u64 r6], .bool r7]) ∧ Kd.R (Kd.int .u8) 5 w' w.heap.size (fun k_ => (w.heap.size ≤ k_)) v1_ r2 ∧ Kd.R (Kd.int .u64) 24 w' w.heap.size (fun k_ => (w.heap.size ≤ k_)) v3_ r4 ∧ Below w.heap.size w w' := by
 have hu56 := Tryd.underlying56
 have HO0 := Aside0.mk (show Kd.V (Kd.int .u8) 5 w w.heap.size (fun k_ => (P0_ k_ ∨ w.heap.size ≤ k_)) (.slice A0 l0.length c0) l0 from Kd.V_mono hs0 (fun k_ hk => .inl hk))
 have HB := Aside0.mk (Below.refl w.heap.size w)
 have H : (spec_Message.l0 k l0 false 0 ([] : List Int) 0 ([] : List Int) 0 0) = some (r1, r2, r3, r4, r5, r6, r7) := h
 clear h
 have H' := Aside0.mk H
 clear H
 go_enter Tryd.func37, Tryd.ntmps37
 go_wp2_with (first | ((with_reducible refine gate_dst (N := 2) rfl ?_); refine box_event ?hg (N := 2) ?hd (cs := #[.int .i64 0, .slice none 0 0, .int .u64 0, .slice none 0 0, .int .u64 0, .int .u64 0]) (t := 56) ?hr ?_; (case hd => rfl); (case hg => rfl); (case hr => first | (go_simp; done) | (go_simp; rfl)); intro gb137 hg w2 hbox hb; have n0_ := Aside0.mk (Kd.V_below (Kd.V_elderB (by (with_reducible repeat (first | apply Kd.V_alloc | apply Kd.V_drewN | apply Kd.V_drew)); exact HO0.out) gb137 (Nat.le_of_eq hg.symm)) hb); have n1_ := Aside0.mk (below_step (by repeat (first | (with_reducible first | exact HB.out | apply below_alloc | apply pw_below_drewN | apply below_drew1) | exact HB.out)) hb); have n2_ := Aside0.mk (hbox); have n3_ := Aside0.mk ((by rw [hg]; exact (below_size (by repeat (first | (with_reducible first | exact HB.out | apply below_alloc | apply pw_below_drewN | apply below_drew1) | exact HB.out))) : w.heap.size ≤ gb137)); have n4_ := Aside0.mk ((by rw [hg]; exact (below_size (by repeat (first | (with_reducible first | exact HB.out | apply below_alloc | apply pw_below_drewN | apply below_drew1) | exact HB.out))) : w.heap.size ≤ gb137)); clear HO0; clear HB; have HO0 := n0_; have HB := n1_; have BK137 := n2_; have GW137 := n3_; have GE137 := n4_; clear n0_ n1_ n2_ n3_ n4_; clear hb hbox hg) | ((with_reducible refine gate_dst (N := 4) rfl ?_); refine box_event ?hg (N := 4) ?hd (cs := #[.int .i64 0, .slice none 0 0, .int .u64 0, .slice none 0 0, .int .u64 0, .int .u64 0]) (t := 56) ?hr ?_; (case hd => rfl); (case hg => rfl); (case hr => first | (go_simp; done) | (go_simp; rfl)); intro gb138 hg w3 hbox hb; have n0_ := Aside0.mk (Kd.V_below (Kd.V_elderB (by (with_reducible repeat (first | apply Kd.V_alloc | apply Kd.V_drewN | apply Kd.V_drew)); exact HO0.out) gb138 (Nat.le_of_eq hg.symm)) hb); have n1_ := Aside0.mk (blk_below (g := gb137) (o := .cells #[.int .i64 0, .slice none 0 0, .int .u64 0, .slice none 0 0, .int .u64 0, .int .u64 0] 56 (0, 0)) (by (with_reducible repeat (first | refine blk_drewN ?_ _ | refine blk_drew ?_ | refine blk_alloc ?_ _)); exact BK137.out) hb); have n2_ := Aside0.mk (below_step (by repeat (first | (with_reducible first | exact HB.out | apply below_alloc | apply pw_below_drewN | apply below_drew1 | refine below_set ?_ GE137.out) | exact HB.out)) hb); have n3_ := Aside0.mk (hbox); have n4_ := Aside0.mk ((by rw [hg]; exact (below_size (by repeat (first | (with_reducible first | exact HB.out | apply below_alloc | apply pw_below_drewN | apply below_drew1 | refine below_set ?_ GE137.out) | exact HB.out))) : w.heap.size ≤ gb138)); have n5_ := Aside0.mk ((by rw [hg]; exact (below_size (by repeat (first | (with_reducible first | exact HB.out | apply below_alloc | apply pw_below_drewN | apply below_drew1 | refine below_set ?_ GE137.out) | exact HB.out))) : w.heap.size ≤ gb138)); have n6_ := Aside0.mk ((by rw [hg]; exact Nat.ne_of_lt (blk_lt (g := gb137) (o := .cells #[.int .i64 0, .slice none 0 0, .int .u64 0, .slice none 0 0, .int .u64 0, .int .u64 0] 56 (0, 0)) (by (with_reducible repeat (first | refine blk_drewN ?_ _ | refine blk_drew ?_ | refine blk_alloc ?_ _)); exact BK137.out)) : gb137 ≠ gb138)); have n7_ := Aside0.mk ((by rw [hg]; exact Nat.ne_of_gt (blk_lt (g := gb137) (o := .cells #[.int .i64 0, .slice none 0 0, .int .u64 0, .slice none 0 0, .int .u64 0, .int .u64 0] 56 (0, 0)) (by (with_reducible repeat (first | refine blk_drewN ?_ _ | refine blk_drew ?_ | refine blk_alloc ?_ _)); exact BK137.out)) : gb138 ≠ gb137)); clear HO0; clear BK137; clear HB; have HO0 := n0_; have BK137 := n1_; have HB := n2_; have BK138 := n3_; have GW138 := n4_; have GE138 := n5_; have NB137_138 := n6_; have NB138_137 := n7_; clear n0_ n1_ n2_ n3_ n4_ n5_ n6_ n7_; clear hb hbox hg))
 (try simp only [Act.put, List.setIfInBounds_toArray, List.set_cons_zero, List.set_cons_succ])
 go_loopg [0, 5] k (fun kq v0 v5 w' => ∃ (x0_1 : List Int) (x5_1 : Bool) (x138000_1 : Int) (x138002_1 : Int) (x138004_1 : Int) (x138005_1 : Int) (x139000_1 : Int) (x139001_1 : List Int) (x139002_1 : Int) (x139003_1 : List Int) (x139004_1 : Int) (x139005_1 : Int) (u139001 : Value) (u139003 : Value), v5 = .bool x5_1 ∧ Aside0 (spec_Message.l0 kq x0_1 x5_1 x139000_1 x139001_1 x139002_1 x139003_1 x139004_1 x139005_1 = some (r1, r2, r3, r4, r5, r6, r7)) ∧ Aside0 (kq ≤ k) ∧ Aside0 (Kd.V (Kd.int .u8) 5 w' w.heap.size (fun k_ => (P0_ k_ ∨ w.heap.size ≤ k_) ∧ some k_ ≠ (u139001 : Value).ownBlock ∧ some k_ ≠ (u139003 : Value).ownBlock ∧ k_ ≠ gb137 ∧ k_ ≠ gb138) v0 x0_1) ∧ Aside0 (Kd.R (Kd.int .u8) 5 w' w.heap.size (fun k_ => (w.heap.size ≤ k_)) u139001 x139001_1) ∧ Aside0 (Kd.R (Kd.int .u64) 24 w' w.heap.size (fun k_ => (w.heap.size ≤ k_)) u139003 x139003_1) ∧ Aside0 (w'.heap[gb137]? = some (.cells #[.int .i64 x138000_1, (.slice none 0 0), .int .u64 x138002_1, (.slice none 0 0), .int .u64 x138004_1, .int .u64 x138005_1] 56 (0, 0))) ∧ Aside0 (w'.heap[gb138]? = some (.cells #[.int .i64 x139000_1, u139001, .int .u64 x139002_1, u139003, .int .u64 x139004_1, .int .u64 x139005_1] 56 (0, 0))) ∧ Aside0 (Below w.heap.size w w'))
 case atStart => exact ⟨(l0), (false), (0), (0), (0), (0), (0), (([] : List Int)), (0), (([] : List Int)), (0), (0), (.slice none 0 0), (.slice none 0 0), (by first | rfl | (simp; done) | (simp [*]; done)), H', ⟨Nat.le_refl _⟩, ⟨by (with_reducible repeat (first | apply Kd.V_alloc | apply Kd.V_drewN | apply Kd.V_drew)); exact Kd.V_mono HO0.out (fun _ hk => ⟨hk.1.1, ⟨(by simp [Value.ownBlock]), ⟨(by simp [Value.ownBlock]), ⟨hk.1.2, hk.2⟩⟩⟩⟩)⟩, ⟨by first | exact Kd.R_nil _ _ _ _ _ | exact Kd.N_nil _ _ _ _ _ | exact Kd.V_nil _ _ _ _ _ | exact Kd.Q_nil _ _ _ _ _ | exact Kd.S_nil _ _ _ _ _⟩, ⟨by first | exact Kd.R_nil _ _ _ _ _ | exact Kd.N_nil _ _ _ _ _ | exact Kd.V_nil _ _ _ _ _ | exact Kd.Q_nil _ _ _ _ _ | exact Kd.S_nil _ _ _ _ _⟩, ⟨by (with_reducible repeat (first | refine blk_drewN ?_ _ | refine blk_drew ?_ | refine blk_alloc ?_ _)); exact BK137.out⟩, ⟨by (with_reducible repeat (first | refine blk_drewN ?_ _ | refine blk_drew ?_ | refine blk_alloc ?_ _)); exact BK138.out⟩, ⟨by repeat (first | (with_reducible first | exact HB.out | apply below_alloc | apply pw_below_drewN | apply below_drew1 | refine below_set ?_ GE137.out | refine below_set ?_ GE138.out) | exact HB.out)⟩⟩
 case round =>
  clear H'
  try clear p2
  try clear c3
  obtain ⟨x0_1, x5_1, x138000_1, x138002_1, x138004_1, x138005_1, x139000_1, x139001_1, x139002_1, x139003_1, x139004_1, x139005_1, u139001, u139003, rfl, HA, HK1, HO_0, HO_139001, HO_139003, BK137, BK138, HB⟩ := hrel
  cases gk with
  | zero => exact absurd HA.out (by simp [spec_Message.l0])
  | succ k1 =>
   have H := HA.out
   clear HA
   simp only [spec_Message.l0] at H
   by_cases c4 : (x0_1.length : Int) > 0
   ·rw [if_pos c4] at H
    have c4b0 : decide (0 < (x0_1.length : Int)) = true := decide_eq_true c4
    have c4b1 : decide (0 < x0_1.length) = true := decide_eq_true (by omega)
    clear c4
    replace H := Option.bind_eq_some_iff.mp H
    obtain ⟨⟨t139, t140, t141, t142, t145⟩, A50, H⟩ := H
    replace H : (if t145 = 0 then (spec_Message.j1 k1 x0_1 x5_1 t139 t140 t141 t142 t145 true x139000_1 x139001_1 x139002_1 x139003_1 x139004_1 x139005_1) else (if t140 = 2 then (if t139 = 2 then (if t140 = 0 then (spec_Message.j1 k1 x0_1 x5_1 t139 t140 t141 t142 t145 (t139 == 2) x139000_1 x139001_1 x139002_1 x139003_1 x139004_1 x139005_1) else (spec_Message.j1 k1 x0_1 x5_1 t139 t140 t141 t142 t145 false x139000_1 x139001_1 x139002_1 x139003_1 x139004_1 x139005_1)) else (if t139 = 4 then (if t140 = 0 then (spec_Message.j1 k1 x0_1 x5_1 t139 t140 t141 t142 t145 (t139 == 2) x139000_1 x139001_1 x139002_1 x139003_1 x139004_1 x139005_1) else (spec_Message.j1 k1 x0_1 x5_1 t139 t140 t141 t142 t145 false x139000_1 x139001_1 x139002_1 x139003_1 x139004_1 x139005_1)) else (spec_Message.j1 k1 x0_1 x5_1 t139 t140 t141 t142 t145 true x139000_1 x139001_1 x139002_1 x139003_1 x139004_1 x139005_1))) else (if t140 = 0 then (spec_Message.j1 k1 x0_1 x5_1 t139 t140 t141 t142 t145 (t139 == 2) x139000_1 x139001_1 x139002_1 x139003_1 x139004_1 x139005_1) else (spec_Message.j1 k1 x0_1 x5_1 t139 t140 t141 t142 t145 false x139000_1 x139001_1 x139002_1 x139003_1 x139004_1 x139005_1)))) = some (r1, r2, r3, r4, r5, r6, r7) := H
    have A5 := Aside0.mk A50
    clear A50
    have HC6 := Aside0.mk H
    clear H
    obtain ⟨Ao7, co7, eo7⟩ := Kd.V_slice HO_0.out
    subst eo7
    go_upto_region 5 with (first | ((with_reducible refine gate_callee (f := 48) rfl ?_); refine goesL_ (some 18) rfl rfl Tryd.func48 (by kernel_rfl) rfl #[.slice Ao7 x0_1.length co7] rfl (by (try simp only [List.map_toArray, List.map_cons, List.map_nil]); first | done | rfl | (simp only [List.length_drop, List.length_take]; rfl)) ?_; (with_reducible refine (spec_pbTake.calls k1 (fun k_ => ((P0_ k_ ∨ w.heap.size ≤ k_) ∧ (some k_ ≠ (u139001 : Value).ownBlock ∧ (some k_ ≠ (u139003 : Value).ownBlock ∧ (k_ ≠ gb137 ∧ k_ ≠ gb138))))) _ _ x0_1 t139 t140 t141 t142 t145 _ ?side1 A5.out).mono ?_); (case side1 => exact HO_0.out); rintro e w8 ⟨v143, rfl, ho0, hb⟩; refine ⟨_, rfl, ?_⟩; have n0_ := Aside0.mk (Kd.V_below (by (with_reducible repeat (first | apply Kd.V_alloc | apply Kd.V_drewN | apply Kd.V_drew)); exact HO_0.out) hb); have n1_ := Aside0.mk (Kd.R_below (by (with_reducible repeat (first | apply Kd.R_alloc | apply Kd.R_drewN | apply Kd.R_drew)); exact HO_139001.out) hb); have n2_ := Aside0.mk (Kd.R_below (by (with_reducible repeat (first | apply Kd.R_alloc | apply Kd.R_drewN | apply Kd.R_drew)); exact HO_139003.out) hb); have n3_ := Aside0.mk (Kd.V_lower (Kd.V_mono (ok' := fun k_ => (P0_ k_ ∨ w.heap.size ≤ k_) ∧ some k_ ≠ (u139001 : Value).ownBlock ∧ some k_ ≠ (u139003 : Value).ownBlock ∧ k_ ≠ gb137 ∧ k_ ≠ gb138) ho0 (fun k_ hk_ => ⟨Or.elim hk_ (fun hs_ => hs_.1) (fun hn_ => (.inr (Nat.le_trans (below_size (by repeat (first | (with_reducible first | exact HB.out | apply below_alloc | apply pw_below_drewN | apply below_drew1 | refine below_set ?_ GE137.out | refine below_set ?_ GE138.out) | exact HB.out))) hn_))), Or.elim hk_ (fun hs_ => hs_.2.1) (fun hn_ => (Kd.fresh' (Kd.R_lt (by (with_reducible repeat (first | apply Kd.R_alloc | apply Kd.R_drewN | apply Kd.R_drew)); exact HO_139001.out)) k_ hn_)), Or.elim hk_ (fun hs_ => hs_.2.2.1) (fun hn_ => (Kd.fresh' (Kd.R_lt (by (with_reducible repeat (first | apply Kd.R_alloc | apply Kd.R_drewN | apply Kd.R_drew)); exact HO_139003.out)) k_ hn_)), Or.elim hk_ (fun hs_ => hs_.2.2.2.1) (fun hn_ => (Kd.freshB (g := gb137) (o := .cells #[.int .i64 x138000_1, .slice none 0 0, .int .u64 x138002_1, .slice none 0 0, .int .u64 x138004_1, .int .u64 x138005_1] 56 (0, 0)) (by (with_reducible repeat (first | refine blk_drewN ?_ _ | refine blk_drew ?_ | refine blk_alloc ?_ _)); exact BK137.out) k_ hn_)), Or.elim hk_ (fun hs_ => hs_.2.2.2.2) (fun hn_ => (Kd.freshB (g := gb138) (o := .cells #[.int .i64 x139000_1, u139001, .int .u64 x139002_1, u139003, .int .u64 x139004_1, .int .u64 x139005_1] 56 (0, 0)) (by (with_reducible repeat (first | refine blk_drewN ?_ _ | refine blk_drew ?_ | refine blk_alloc ?_ _)); exact BK138.out) k_ hn_))⟩)) (below_size (by repeat (first | (with_reducible first | exact HB.out | apply below_alloc | apply pw_below_drewN | apply below_drew1 | refine below_set ?_ GE137.out | refine below_set ?_ GE138.out) | exact HB.out)))); have n4_ := Aside0.mk (blk_below (g := gb137) (o := .cells #[.int .i64 x138000_1, .slice none 0 0, .int .u64 x138002_1, .slice none 0 0, .int .u64 x138004_1, .int .u64 x138005_1] 56 (0, 0)) (by (with_reducible repeat (first | refine blk_drewN ?_ _ | refine blk_drew ?_ | refine blk_alloc ?_ _)); exact BK137.out) hb); have n5_ := Aside0.mk (blk_below (g := gb138) (o := .cells #[.int .i64 x139000_1, u139001, .int .u64 x139002_1, u139003, .int .u64 x139004_1, .int .u64 x139005_1] 56 (0, 0)) (by (with_reducible repeat (first | refine blk_drewN ?_ _ | refine blk_drew ?_ | refine blk_alloc ?_ _)); exact BK138.out) hb); have n6_ := Aside0.mk (below_step (by repeat (first | (with_reducible first | exact HB.out | apply below_alloc | apply pw_below_drewN | apply below_drew1 | refine below_set ?_ GE137.out | refine below_set ?_ GE138.out) | exact HB.out)) hb); clear HO_0; clear HO_139001; clear HO_139003; clear BK137; clear BK138; clear HB; have HO_0 := n0_; have HO_139001 := n1_; have HO_139003 := n2_; have HO144 := n3_; have BK137 := n4_; have BK138 := n5_; have HB := n6_; clear n0_ n1_ n2_ n3_ n4_ n5_ n6_; (try clear hb); (try clear hb2); (try clear hk); (try clear hi); (try clear ho0)))
    (try simp only [Act.put, List.setIfInBounds_toArray, List.set_cons_zero, List.set_cons_succ])
    go_cut [45] (fun v45 wc => ∃ (kq : Nat) (x45_5 : Bool), v45 = .bool x45_5 ∧ Aside0 (spec_Message.j1 kq x0_1 x5_1 t139 t140 t141 t142 t145 x45_5 x139000_1 x139001_1 x139002_1 x139003_1 x139004_1 x139005_1 = some (r1, r2, r3, r4, r5, r6, r7)) ∧ Aside0 (kq ≤ k1) ∧ Aside0 (Kd.V (Kd.int .u8) 5 wc w.heap.size (fun k_ => (P0_ k_ ∨ w.heap.size ≤ k_) ∧ some k_ ≠ (u139001 : Value).ownBlock ∧ some k_ ≠ (u139003 : Value).ownBlock ∧ k_ ≠ gb137 ∧ k_ ≠ gb138) (.slice Ao7 x0_1.length co7) x0_1) ∧ Aside0 (Kd.V (Kd.int .u8) 5 wc w.heap.size (fun k_ => (P0_ k_ ∨ w.heap.size ≤ k_) ∧ some k_ ≠ (u139001 : Value).ownBlock ∧ some k_ ≠ (u139003 : Value).ownBlock ∧ k_ ≠ gb137 ∧ k_ ≠ gb138) v143 t142) ∧ Aside0 (Kd.R (Kd.int .u8) 5 wc w.heap.size (fun k_ => (w.heap.size ≤ k_)) u139001 x139001_1) ∧ Aside0 (Kd.R (Kd.int .u64) 24 wc w.heap.size (fun k_ => (w.heap.size ≤ k_)) u139003 x139003_1) ∧ Aside0 (wc.heap[gb137]? = some (.cells #[.int .i64 x138000_1, (.slice none 0 0), .int .u64 x138002_1, (.slice none 0 0), .int .u64 x138004_1, .int .u64 x138005_1] 56 (0, 0))) ∧ Aside0 (wc.heap[gb138]? = some (.cells #[.int .i64 x139000_1, u139001, .int .u64 x139002_1, u139003, .int .u64 x139004_1, .int .u64 x139005_1] 56 (0, 0))) ∧ Aside0 (Below w.heap.size w wc))
    case first =>
     have H := HC6.out
     clear HC6
     by_cases c9 : t145 = 0
     ·rw [if_pos c9] at H
      have c9b0 : (t145 == 0) = true := beq_iff_eq.mpr c9
      have c9b1 : (t145 != 0) = false := bne_eq_false_iff_eq.mpr c9
      clear c9
      (first | rw [c9b0] | (simp only [i64_w, i32_w]; rw [c9b0]) | skip)
      have H' := Aside0.mk H
      clear H
      go_wp2
      go_meet
      case rel => exact ⟨_, (true), (by first | rfl | (simp; done) | (simp [*]; done)), H', ⟨by have := HK1.out; first | omega | exact Nat.le_refl _⟩, ⟨by (with_reducible repeat (first | apply Kd.V_alloc | apply Kd.V_drewN | apply Kd.V_drew)); exact HO_0.out⟩, ⟨by (with_reducible repeat (first | apply Kd.V_alloc | apply Kd.V_drewN | apply Kd.V_drew)); exact HO144.out⟩, ⟨by (with_reducible repeat (first | apply Kd.R_alloc | apply Kd.R_drewN | apply Kd.R_drew)); exact HO_139001.out⟩, ⟨by (with_reducible repeat (first | apply Kd.R_alloc | apply Kd.R_drewN | apply Kd.R_drew)); exact HO_139003.out⟩, ⟨by (with_reducible repeat (first | refine blk_drewN ?_ _ | refine blk_drew ?_ | refine blk_alloc ?_ _)); exact BK137.out⟩, ⟨by (with_reducible repeat (first | refine blk_drewN ?_ _ | refine blk_drew ?_ | refine blk_alloc ?_ _)); exact BK138.out⟩, ⟨by repeat (first | (with_reducible first | exact HB.out | apply below_alloc | apply pw_below_drewN | apply below_drew1 | refine below_set ?_ GE137.out | refine below_set ?_ GE138.out) | exact HB.out)⟩⟩
     ·rw [if_neg c9] at H
      have c9b0 : (t145 == 0) = false := beq_eq_false_iff_ne.mpr c9
      have c9b1 : (t145 != 0) = true := bne_iff_ne.mpr c9
      (first | rw [c9b0] | (simp only [i64_w, i32_w]; rw [c9b0]) | skip)
      by_cases c10 : t140 = 2
      ·rw [if_pos c10] at H
       have c10b0 : (t140 == 2) = true := beq_iff_eq.mpr c10
       have c10b1 : (t140 != 2) = false := bne_eq_false_iff_eq.mpr c10
       clear c10
       by_cases c11 : t139 = 2
       ·rw [if_pos c11] at H
        have c11b0 : (t139 == 2) = true := beq_iff_eq.mpr c11
        have c11b1 : (t139 != 2) = false := bne_eq_false_iff_eq.mpr c11
        clear c11
        by_cases c12 : t140 = 0
        ·rw [if_pos c12] at H
         have c12b0 : (t140 == 0) = true := beq_iff_eq.mpr c12
         have c12b1 : (t140 != 0) = false := bne_eq_false_iff_eq.mpr c12
         clear c12
         have H' := Aside0.mk H
         clear H
         go_wp2
         go_meet
         case rel => exact ⟨_, ((t139 == 2)), (by first | rfl | (simp; done) | (simp [*]; done)), H', ⟨by have := HK1.out; first | omega | exact Nat.le_refl _⟩, ⟨by (with_reducible repeat (first | apply Kd.V_alloc | apply Kd.V_drewN | apply Kd.V_drew)); exact HO_0.out⟩, ⟨by (with_reducible repeat (first | apply Kd.V_alloc | apply Kd.V_drewN | apply Kd.V_drew)); exact HO144.out⟩, ⟨by (with_reducible repeat (first | apply Kd.R_alloc | apply Kd.R_drewN | apply Kd.R_drew)); exact HO_139001.out⟩, ⟨by (with_reducible repeat (first | apply Kd.R_alloc | apply Kd.R_drewN | apply Kd.R_drew)); exact HO_139003.out⟩, ⟨by (with_reducible repeat (first | refine blk_drewN ?_ _ | refine blk_drew ?_ | refine blk_alloc ?_ _)); exact BK137.out⟩, ⟨by (with_reducible repeat (first | refine blk_drewN ?_ _ | refine blk_drew ?_ | refine blk_alloc ?_ _)); exact BK138.out⟩, ⟨by repeat (first | (with_reducible first | exact HB.out | apply below_alloc | apply pw_below_drewN | apply below_drew1 | refine below_set ?_ GE137.out | refine below_set ?_ GE138.out) | exact HB.out)⟩⟩
        ·rw [if_neg c12] at H
         have c12b0 : (t140 == 0) = false := beq_eq_false_iff_ne.mpr c12
         have c12b1 : (t140 != 0) = true := bne_iff_ne.mpr c12
         have H' := Aside0.mk H
         clear H
         go_wp2
         go_meet
         case rel => exact ⟨_, (false), (by first | rfl | (simp; done) | (simp [*]; done)), H', ⟨by have := HK1.out; first | omega | exact Nat.le_refl _⟩, ⟨by (with_reducible repeat (first | apply Kd.V_alloc | apply Kd.V_drewN | apply Kd.V_drew)); exact HO_0.out⟩, ⟨by (with_reducible repeat (first | apply Kd.V_alloc | apply Kd.V_drewN | apply Kd.V_drew)); exact HO144.out⟩, ⟨by (with_reducible repeat (first | apply Kd.R_alloc | apply Kd.R_drewN | apply Kd.R_drew)); exact HO_139001.out⟩, ⟨by (with_reducible repeat (first | apply Kd.R_alloc | apply Kd.R_drewN | apply Kd.R_drew)); exact HO_139003.out⟩, ⟨by (with_reducible repeat (first | refine blk_drewN ?_ _ | refine blk_drew ?_ | refine blk_alloc ?_ _)); exact BK137.out⟩, ⟨by (with_reducible repeat (first | refine blk_drewN ?_ _ | refine blk_drew ?_ | refine blk_alloc ?_ _)); exact BK138.out⟩, ⟨by repeat (first | (with_reducible first | exact HB.out | apply below_alloc | apply pw_below_drewN | apply below_drew1 | refine below_set ?_ GE137.out | refine below_set ?_ GE138.out) | exact HB.out)⟩⟩
       ·rw [if_neg c11] at H
        have c11b0 : (t139 == 2) = false := beq_eq_false_iff_ne.mpr c11
        have c11b1 : (t139 != 2) = true := bne_iff_ne.mpr c11
        by_cases c13 : t139 = 4
        ·rw [if_pos c13] at H
         have c13b0 : (t139 == 4) = true := beq_iff_eq.mpr c13
         have c13b1 : (t139 != 4) = false := bne_eq_false_iff_eq.mpr c13
         clear c13
         by_cases c14 : t140 = 0
         ·rw [if_pos c14] at H
          have c14b0 : (t140 == 0) = true := beq_iff_eq.mpr c14
          have c14b1 : (t140 != 0) = false := bne_eq_false_iff_eq.mpr c14
          clear c14
          have H' := Aside0.mk H
          clear H
          go_wp2
          go_meet
          case rel => exact ⟨_, ((t139 == 2)), (by first | rfl | (simp; done) | (simp [*]; done)), H', ⟨by have := HK1.out; first | omega | exact Nat.le_refl _⟩, ⟨by (with_reducible repeat (first | apply Kd.V_alloc | apply Kd.V_drewN | apply Kd.V_drew)); exact HO_0.out⟩, ⟨by (with_reducible repeat (first | apply Kd.V_alloc | apply Kd.V_drewN | apply Kd.V_drew)); exact HO144.out⟩, ⟨by (with_reducible repeat (first | apply Kd.R_alloc | apply Kd.R_drewN | apply Kd.R_drew)); exact HO_139001.out⟩, ⟨by (with_reducible repeat (first | apply Kd.R_alloc | apply Kd.R_drewN | apply Kd.R_drew)); exact HO_139003.out⟩, ⟨by (with_reducible repeat (first | refine blk_drewN ?_ _ | refine blk_drew ?_ | refine blk_alloc ?_ _)); exact BK137.out⟩, ⟨by (with_reducible repeat (first | refine blk_drewN ?_ _ | refine blk_drew ?_ | refine blk_alloc ?_ _)); exact BK138.out⟩, ⟨by repeat (first | (with_reducible first | exact HB.out | apply below_alloc | apply pw_below_drewN | apply below_drew1 | refine below_set ?_ GE137.out | refine below_set ?_ GE138.out) | exact HB.out)⟩⟩
         ·rw [if_neg c14] at H
          have c14b0 : (t140 == 0) = false := beq_eq_false_iff_ne.mpr c14
          have c14b1 : (t140 != 0) = true := bne_iff_ne.mpr c14
          have H' := Aside0.mk H
          clear H
          go_wp2
          go_meet
          case rel => exact ⟨_, (false), (by first | rfl | (simp; done) | (simp [*]; done)), H', ⟨by have := HK1.out; first | omega | exact Nat.le_refl _⟩, ⟨by (with_reducible repeat (first | apply Kd.V_alloc | apply Kd.V_drewN | apply Kd.V_drew)); exact HO_0.out⟩, ⟨by (with_reducible repeat (first | apply Kd.V_alloc | apply Kd.V_drewN | apply Kd.V_drew)); exact HO144.out⟩, ⟨by (with_reducible repeat (first | apply Kd.R_alloc | apply Kd.R_drewN | apply Kd.R_drew)); exact HO_139001.out⟩, ⟨by (with_reducible repeat (first | apply Kd.R_alloc | apply Kd.R_drewN | apply Kd.R_drew)); exact HO_139003.out⟩, ⟨by (with_reducible repeat (first | refine blk_drewN ?_ _ | refine blk_drew ?_ | refine blk_alloc ?_ _)); exact BK137.out⟩, ⟨by (with_reducible repeat (first | refine blk_drewN ?_ _ | refine blk_drew ?_ | refine blk_alloc ?_ _)); exact BK138.out⟩, ⟨by repeat (first | (with_reducible first | exact HB.out | apply below_alloc | apply pw_below_drewN | apply below_drew1 | refine below_set ?_ GE137.out | refine below_set ?_ GE138.out) | exact HB.out)⟩⟩
        ·rw [if_neg c13] at H
         have c13b0 : (t139 == 4) = false := beq_eq_false_iff_ne.mpr c13
         have c13b1 : (t139 != 4) = true := bne_iff_ne.mpr c13
         have H' := Aside0.mk H
         clear H
         go_wp2
         go_meet
         case rel => exact ⟨_, (true), (by first | rfl | (simp; done) | (simp [*]; done)), H', ⟨by have := HK1.out; first | omega | exact Nat.le_refl _⟩, ⟨by (with_reducible repeat (first | apply Kd.V_alloc | apply Kd.V_drewN | apply Kd.V_drew)); exact HO_0.out⟩, ⟨by (with_reducible repeat (first | apply Kd.V_alloc | apply Kd.V_drewN | apply Kd.V_drew)); exact HO144.out⟩, ⟨by (with_reducible repeat (first | apply Kd.R_alloc | apply Kd.R_drewN | apply Kd.R_drew)); exact HO_139001.out⟩, ⟨by (with_reducible repeat (first | apply Kd.R_alloc | apply Kd.R_drewN | apply Kd.R_drew)); exact HO_139003.out⟩, ⟨by (with_reducible repeat (first | refine blk_drewN ?_ _ | refine blk_drew ?_ | refine blk_alloc ?_ _)); exact BK137.out⟩, ⟨by (with_reducible repeat (first | refine blk_drewN ?_ _ | refine blk_drew ?_ | refine blk_alloc ?_ _)); exact BK138.out⟩, ⟨by repeat (first | (with_reducible first | exact HB.out | apply below_alloc | apply pw_below_drewN | apply below_drew1 | refine below_set ?_ GE137.out | refine below_set ?_ GE138.out) | exact HB.out)⟩⟩
      ·rw [if_neg c10] at H
       have c10b0 : (t140 == 2) = false := beq_eq_false_iff_ne.mpr c10
       have c10b1 : (t140 != 2) = true := bne_iff_ne.mpr c10
       by_cases c15 : t140 = 0
       ·rw [if_pos c15] at H
        have c15b0 : (t140 == 0) = true := beq_iff_eq.mpr c15
        have c15b1 : (t140 != 0) = false := bne_eq_false_iff_eq.mpr c15
        clear c15
        have H' := Aside0.mk H
        clear H
        go_wp2
        go_meet
        case rel => exact ⟨_, ((t139 == 2)), (by first | rfl | (simp; done) | (simp [*]; done)), H', ⟨by have := HK1.out; first | omega | exact Nat.le_refl _⟩, ⟨by (with_reducible repeat (first | apply Kd.V_alloc | apply Kd.V_drewN | apply Kd.V_drew)); exact HO_0.out⟩, ⟨by (with_reducible repeat (first | apply Kd.V_alloc | apply Kd.V_drewN | apply Kd.V_drew)); exact HO144.out⟩, ⟨by (with_reducible repeat (first | apply Kd.R_alloc | apply Kd.R_drewN | apply Kd.R_drew)); exact HO_139001.out⟩, ⟨by (with_reducible repeat (first | apply Kd.R_alloc | apply Kd.R_drewN | apply Kd.R_drew)); exact HO_139003.out⟩, ⟨by (with_reducible repeat (first | refine blk_drewN ?_ _ | refine blk_drew ?_ | refine blk_alloc ?_ _)); exact BK137.out⟩, ⟨by (with_reducible repeat (first | refine blk_drewN ?_ _ | refine blk_drew ?_ | refine blk_alloc ?_ _)); exact BK138.out⟩, ⟨by repeat (first | (with_reducible first | exact HB.out | apply below_alloc | apply pw_below_drewN | apply below_drew1 | refine below_set ?_ GE137.out | refine below_set ?_ GE138.out) | exact HB.out)⟩⟩
       ·rw [if_neg c15] at H
        have c15b0 : (t140 == 0) = false := beq_eq_false_iff_ne.mpr c15
        have c15b1 : (t140 != 0) = true := bne_iff_ne.mpr c15
        have H' := Aside0.mk H
        clear H
        go_wp2
        go_meet
        case rel => exact ⟨_, (false), (by first | rfl | (simp; done) | (simp [*]; done)), H', ⟨by have := HK1.out; first | omega | exact Nat.le_refl _⟩, ⟨by (with_reducible repeat (first | apply Kd.V_alloc | apply Kd.V_drewN | apply Kd.V_drew)); exact HO_0.out⟩, ⟨by (with_reducible repeat (first | apply Kd.V_alloc | apply Kd.V_drewN | apply Kd.V_drew)); exact HO144.out⟩, ⟨by (with_reducible repeat (first | apply Kd.R_alloc | apply Kd.R_drewN | apply Kd.R_drew)); exact HO_139001.out⟩, ⟨by (with_reducible repeat (first | apply Kd.R_alloc | apply Kd.R_drewN | apply Kd.R_drew)); exact HO_139003.out⟩, ⟨by (with_reducible repeat (first | refine blk_drewN ?_ _ | refine blk_drew ?_ | refine blk_alloc ?_ _)); exact BK137.out⟩, ⟨by (with_reducible repeat (first | refine blk_drewN ?_ _ | refine blk_drew ?_ | refine blk_alloc ?_ _)); exact BK138.out⟩, ⟨by repeat (first | (with_reducible first | exact HB.out | apply below_alloc | apply pw_below_drewN | apply below_drew1 | refine below_set ?_ GE137.out | refine below_set ?_ GE138.out) | exact HB.out)⟩⟩
    case rest =>
     clear HC6
     try clear c1
     try clear p2
     try clear c3
     try clear c4
     try clear c4b0
     try clear c4b1
     try clear c9
     try clear c9b0
     try clear c9b1
     try clear c10
     try clear c10b0
     try clear c10b1
     try clear c11
     try clear c11b0
     try clear c11b1
     try clear c12
     try clear c12b0
     try clear c12b1
     try clear c13
     try clear c13b0
     try clear c13b1
     try clear c14
     try clear c14b0
     try clear c14b1
     try clear c15
     try clear c15b0
     try clear c15b1
     try clear p2
     obtain ⟨kq, x45_5, rfl, HA, HJ5, HO_0, HO_9, HO_139001, HO_139003, BK137, BK138, HB⟩ := hcut
     cases kq with
     | zero => exact absurd HA.out (by simp [spec_Message.j1])
     | succ kj5 =>
      have H := HA.out
      clear HA
      simp only [spec_Message.j1] at H
      by_cases c16 : x45_5 = true
      ·subst c16
       have H1 : (some (0, ([] : List Int), 0, ([] : List Int), 0, 0, false)) = some (r1, r2, r3, r4, r5, r6, r7) := by rw [if_pos rfl] at H; exact H
       clear H
       have H := H1
       clear H1
       simp only [Option.some.injEq, Prod.mk.injEq] at H
       obtain ⟨rfl, rfl, rfl, rfl, rfl, rfl, rfl⟩ := H
       have hnb17 := NB137_138.out
       have hnc17 := NB138_137.out
       have hcz18_0 : wc.cell? ⟨gb137, 0, none⟩ = some (.int .i64 x138000_1) := (blk_cell BK137.out 0).trans rfl
       have hcz18_1 : wc.cell? ⟨gb137, 1, none⟩ = some (.slice none 0 0) := (blk_cell BK137.out 1).trans rfl
       have hcz18_2 : wc.cell? ⟨gb137, 2, none⟩ = some (.int .u64 x138002_1) := (blk_cell BK137.out 2).trans rfl
       have hcz18_3 : wc.cell? ⟨gb137, 3, none⟩ = some (.slice none 0 0) := (blk_cell BK137.out 3).trans rfl
       have hcz18_4 : wc.cell? ⟨gb137, 4, none⟩ = some (.int .u64 x138004_1) := (blk_cell BK137.out 4).trans rfl
       have hcz18_5 : wc.cell? ⟨gb137, 5, none⟩ = some (.int .u64 x138005_1) := (blk_cell BK137.out 5).trans rfl
       have hfz18_0 := blk_frozen BK137.out 0
       have hfz18_1 := blk_frozen BK137.out 1
       have hfz18_2 := blk_frozen BK137.out 2
       have hfz18_3 := blk_frozen BK137.out 3
       have hfz18_4 := blk_frozen BK137.out 4
       have hfz18_5 := blk_frozen BK137.out 5
       go_wp2
       refine bodyPost_ret (results_ct rfl _ _ gb137 56 #[.int .i64 0, .slice none 0 0, .int .u64 0, .slice none 0 0, .int .u64 0, .int .u64 0] (0, 0) _ rfl (by (with_reducible repeat (first | refine blk_drewN ?_ _ | refine blk_drew ?_ | refine blk_alloc ?_ _)); refine blk_put (cs := #[.int .i64 0, .slice none 0 0, .int .u64 0, .slice none 0 0, .int .u64 0, .int .u64 x138005_1]) ?_ 5 _ rfl; (with_reducible repeat (first | refine blk_drewN ?_ _ | refine blk_drew ?_ | refine blk_alloc ?_ _)); refine blk_put (cs := #[.int .i64 0, .slice none 0 0, .int .u64 0, .slice none 0 0, .int .u64 x138004_1, .int .u64 x138005_1]) ?_ 4 _ rfl; (with_reducible repeat (first | refine blk_drewN ?_ _ | refine blk_drew ?_ | refine blk_alloc ?_ _)); refine blk_put (cs := #[.int .i64 0, .slice none 0 0, .int .u64 0, .slice none 0 0, .int .u64 x138004_1, .int .u64 x138005_1]) ?_ 3 _ rfl; (with_reducible repeat (first | refine blk_drewN ?_ _ | refine blk_drew ?_ | refine blk_alloc ?_ _)); refine blk_put (cs := #[.int .i64 0, .slice none 0 0, .int .u64 x138002_1, .slice none 0 0, .int .u64 x138004_1, .int .u64 x138005_1]) ?_ 2 _ rfl; (with_reducible repeat (first | refine blk_drewN ?_ _ | refine blk_drew ?_ | refine blk_alloc ?_ _)); refine blk_put (cs := #[.int .i64 0, .slice none 0 0, .int .u64 x138002_1, .slice none 0 0, .int .u64 x138004_1, .int .u64 x138005_1]) ?_ 1 _ rfl; (with_reducible repeat (first | refine blk_drewN ?_ _ | refine blk_drew ?_ | refine blk_alloc ?_ _)); refine blk_put (cs := #[.int .i64 x138000_1, .slice none 0 0, .int .u64 x138002_1, .slice none 0 0, .int .u64 x138004_1, .int .u64 x138005_1]) ?_ 0 _ rfl; (with_reducible repeat (first | refine blk_drewN ?_ _ | refine blk_drew ?_ | refine blk_alloc ?_ _)); exact BK137.out) Tryd.underlying56 rfl (by kernel_rfl)) rfl ?_
       exact ⟨_, _, by first | rfl | (simp [errV_none, errV_some] <;> rfl) | (simp [*, errV_none, errV_some] <;> rfl), by first | exact Kd.R_nil _ _ _ _ _ | exact Kd.N_nil _ _ _ _ _ | exact Kd.V_nil _ _ _ _ _ | exact Kd.Q_nil _ _ _ _ _ | exact Kd.S_nil _ _ _ _ _, by first | exact Kd.R_nil _ _ _ _ _ | exact Kd.N_nil _ _ _ _ _ | exact Kd.V_nil _ _ _ _ _ | exact Kd.Q_nil _ _ _ _ _ | exact Kd.S_nil _ _ _ _ _, by repeat (first | (with_reducible first | exact HB.out | apply below_alloc | apply pw_below_drewN | apply below_drew1 | refine below_set ?_ GE137.out | refine below_set ?_ GE138.out) | exact HB.out)⟩
      ·replace c16 := Bool.eq_false_iff.mpr c16
       subst c16
       have H1 : (if t139 = 1 then (if 0 ≤ t145 then (if t145 ≤ (x0_1.length : Int) then (spec_Message.l0 kj5 (x0_1.drop (t145 : Int).toNat) true (wrap64 (wrap32 (t141))) x139001_1 x139002_1 x139003_1 x139004_1 x139005_1) else (none)) else (none)) else (if t139 = 2 then ((some (([] : List Int) : List Int)).bind fun y151 => (if y151.length + t142.length < 140737488355328 then (if 0 ≤ t145 then (if t145 ≤ (x0_1.length : Int) then (spec_Message.l0 kj5 (x0_1.drop (t145 : Int).toNat) x5_1 x139000_1 (y151 ++ t142) x139002_1 x139003_1 x139004_1 x139005_1) else (none)) else (none)) else (none))) else (if t139 = 3 then (if 0 ≤ t145 then (if t145 ≤ (x0_1.length : Int) then (spec_Message.l0 kj5 (x0_1.drop (t145 : Int).toNat) x5_1 x139000_1 x139001_1 t141 x139003_1 x139004_1 x139005_1) else (none)) else (none)) else (if t139 = 4 then (spec_Message.j2 kj5 x0_1 x5_1 t139 t141 t142 t145 (t140 == 0) x139000_1 x139001_1 x139002_1 x139003_1 x139004_1 x139005_1) else (spec_Message.j2 kj5 x0_1 x5_1 t139 t141 t142 t145 false x139000_1 x139001_1 x139002_1 x139003_1 x139004_1 x139005_1))))) = some (r1, r2, r3, r4, r5, r6, r7) := by rw [if_neg (show ¬ (false = true) by decide)] at H; exact H
       clear H
       have H := H1
       clear H1
       by_cases c19 : t139 = 1
       ·rw [if_pos c19] at H
        have c19b0 : (t139 == 1) = true := beq_iff_eq.mpr c19
        have c19b1 : (t139 != 1) = false := bne_eq_false_iff_eq.mpr c19
        clear c19
        by_cases c20 : 0 ≤ t145
        ·rw [if_pos c20] at H
         have c20b0 := eq_true c20
         have c20b1 : decide (0 ≤ t145) = true := decide_eq_true c20
         clear c20
         by_cases c21 : t145 ≤ (x0_1.length : Int)
         ·rw [if_pos c21] at H
          have c21b0 := eq_true c21
          have c21b1 : decide (t145 ≤ (x0_1.length : Int)) = true := decide_eq_true c21
          clear c21
          obtain ⟨y146, hy146⟩ : ∃ y_ : List Int, y_ = (x0_1.drop (t145 : Int).toNat) := ⟨_, rfl⟩
          replace H : (spec_Message.l0 kj5 y146 true (wrap64 (wrap32 (t141))) x139001_1 x139002_1 x139003_1 x139004_1 x139005_1) = some (r1, r2, r3, r4, r5, r6, r7) := by first | (rw [hy146]; with_reducible exact H) | (have H2_ := (Option.bind_some _ _).symm.trans H; rw [hy146]; with_reducible exact H2_) | (have H2_ := (Option.bind_some _ _).symm.trans H; with_reducible exact H2_) | with_reducible exact H | (rw [hy146]; exact H) | exact H
          have Ny146 := Aside0.mk hy146
          clear hy146
          have H' := Aside0.mk H
          clear H
          have hnb22 := NB138_137.out
          have hnc22 := NB137_138.out
          have hcz23_0 : wc.cell? ⟨gb138, 0, none⟩ = some (.int .i64 x139000_1) := (blk_cell BK138.out 0).trans rfl
          have hcz23_1 : wc.cell? ⟨gb138, 1, none⟩ = some (u139001) := (blk_cell BK138.out 1).trans rfl
          have hcz23_2 : wc.cell? ⟨gb138, 2, none⟩ = some (.int .u64 x139002_1) := (blk_cell BK138.out 2).trans rfl
          have hcz23_3 : wc.cell? ⟨gb138, 3, none⟩ = some (u139003) := (blk_cell BK138.out 3).trans rfl
          have hcz23_4 : wc.cell? ⟨gb138, 4, none⟩ = some (.int .u64 x139004_1) := (blk_cell BK138.out 4).trans rfl
          have hcz23_5 : wc.cell? ⟨gb138, 5, none⟩ = some (.int .u64 x139005_1) := (blk_cell BK138.out 5).trans rfl
          have hfz23_0 := blk_frozen BK138.out 0
          have hfz23_1 := blk_frozen BK138.out 1
          have hfz23_2 := blk_frozen BK138.out 2
          have hfz23_3 := blk_frozen BK138.out 3
          have hfz23_4 := blk_frozen BK138.out 4
          have hfz23_5 := blk_frozen BK138.out 5
          go_wp2_with (first | ((with_reducible refine gate_store (t := 3) (p := 53) rfl ?_); refine store_event (t := 3) (p := 53) (v := ?vo_w24) (w1 := (wc.setCell ⟨gb138, 0, none⟩ (.int .i64 (wrap64 (wrap32 (t141)))))) ?hg ?ho ?hn ?hr ?_; (case ho => rfl); (case hg => rfl); (case hn => rfl); (case hr => first | (go_simp; done) | (go_simp; rfl)); intro w24 hw; have n0_ : Aside0 (Kd.V (Kd.int .u8) 5 w24 w.heap.size (fun k_ => (P0_ k_ ∨ w.heap.size ≤ k_) ∧ some k_ ≠ (u139001 : Value).ownBlock ∧ some k_ ≠ (u139003 : Value).ownBlock ∧ k_ ≠ gb137 ∧ k_ ≠ gb138) (.slice Ao7 x0_1.length co7) x0_1) := ⟨(by rw [hw]; exact (by (with_reducible repeat (first | apply Kd.V_alloc | apply Kd.V_drewN | apply Kd.V_drew)); exact Kd.V_mono (Kd.V_far (p := ⟨gb138, 0, none⟩) (Kd.V_mono HO_0.out (fun k_ hk => (⟨hk, hk.2.2.2.2⟩ : _ ∧ k_ ≠ gb138))) (fun _ hk => hk.2) (.int .i64 (wrap64 (wrap32 (t141))))) (fun _ hk => ⟨hk.1.1, ⟨hk.1.2.1, ⟨hk.1.2.2.1, ⟨hk.1.2.2.2.1, hk.1.2.2.2.2⟩⟩⟩⟩)))⟩; have n1_ : Aside0 (Kd.V (Kd.int .u8) 5 w24 w.heap.size (fun k_ => (P0_ k_ ∨ w.heap.size ≤ k_) ∧ some k_ ≠ (u139001 : Value).ownBlock ∧ some k_ ≠ (u139003 : Value).ownBlock ∧ k_ ≠ gb137 ∧ k_ ≠ gb138) v143 t142) := ⟨(by rw [hw]; exact (by (with_reducible repeat (first | apply Kd.V_alloc | apply Kd.V_drewN | apply Kd.V_drew)); exact Kd.V_mono (Kd.V_far (p := ⟨gb138, 0, none⟩) (Kd.V_mono HO_9.out (fun k_ hk => (⟨hk, hk.2.2.2.2⟩ : _ ∧ k_ ≠ gb138))) (fun _ hk => hk.2) (.int .i64 (wrap64 (wrap32 (t141))))) (fun _ hk => ⟨hk.1.1, ⟨hk.1.2.1, ⟨hk.1.2.2.1, ⟨hk.1.2.2.2.1, hk.1.2.2.2.2⟩⟩⟩⟩)))⟩; have n2_ : Aside0 (Kd.R (Kd.int .u8) 5 w24 w.heap.size (fun k_ => (w.heap.size ≤ k_)) u139001 x139001_1) := ⟨(by rw [hw]; exact (by (with_reducible repeat (first | apply Kd.R_alloc | apply Kd.R_drewN | apply Kd.R_drew)); exact Kd.R_mono (Kd.R_far (p := ⟨gb138, 0, none⟩) (Kd.R_types HO_139001.out BK138.out (by decide)) (fun _ hk => hk.2) (.int .i64 (wrap64 (wrap32 (t141))))) (fun _ hk => hk.1)))⟩; have n3_ : Aside0 (Kd.R (Kd.int .u64) 24 w24 w.heap.size (fun k_ => (w.heap.size ≤ k_)) u139003 x139003_1) := ⟨(by rw [hw]; exact (by (with_reducible repeat (first | apply Kd.R_alloc | apply Kd.R_drewN | apply Kd.R_drew)); exact Kd.R_mono (Kd.R_far (p := ⟨gb138, 0, none⟩) (Kd.R_types HO_139003.out BK138.out (by decide)) (fun _ hk => hk.2) (.int .i64 (wrap64 (wrap32 (t141))))) (fun _ hk => hk.1)))⟩; have n4_ : Aside0 (w24.heap[gb137]? = some (.cells #[.int .i64 x138000_1, .slice none 0 0, .int .u64 x138002_1, .slice none 0 0, .int .u64 x138004_1, .int .u64 x138005_1] 56 (0, 0))) := ⟨(by rw [hw]; exact (by (with_reducible repeat (first | refine blk_drewN ?_ _ | refine blk_drew ?_ | refine blk_alloc ?_ _)); refine blk_far ?_ NB137_138.out _; (with_reducible repeat (first | refine blk_drewN ?_ _ | refine blk_drew ?_ | refine blk_alloc ?_ _)); exact BK137.out))⟩; have n5_ : Aside0 (w24.heap[gb138]? = some (.cells #[.int .i64 (wrap64 (wrap32 (t141))), u139001, .int .u64 x139002_1, u139003, .int .u64 x139004_1, .int .u64 x139005_1] 56 (0, 0))) := ⟨(by rw [hw]; exact (by (with_reducible repeat (first | refine blk_drewN ?_ _ | refine blk_drew ?_ | refine blk_alloc ?_ _)); refine blk_put (cs := #[.int .i64 x139000_1, u139001, .int .u64 x139002_1, u139003, .int .u64 x139004_1, .int .u64 x139005_1]) ?_ 0 _ rfl; (with_reducible repeat (first | refine blk_drewN ?_ _ | refine blk_drew ?_ | refine blk_alloc ?_ _)); exact BK138.out))⟩; have n6_ : Aside0 (Below w.heap.size w w24) := ⟨(by rw [hw]; exact (by repeat (first | (with_reducible first | exact HB.out | apply below_alloc | apply pw_below_drewN | apply below_drew1 | refine below_set ?_ GE137.out | refine below_set ?_ GE138.out) | exact HB.out)))⟩; clear hw; clear HO_0; clear HO_9; clear HO_139001; clear HO_139003; clear BK137; clear BK138; clear HB; have HO_0 := n0_; have HO_9 := n1_; have HO_139001 := n2_; have HO_139003 := n3_; have BK137 := n4_; have BK138 := n5_; have HB := n6_; clear n0_ n1_ n2_ n3_ n4_ n5_ n6_; have q25 : (t145 : Int) ≤ ((x0_1.length : Int) : Int) := of_decide_eq_true (by first | (with_reducible assumption) | assumption); obtain ⟨i025, hi025, _, hsz25, _⟩ := info_parts info5; have hroom25 : x0_1.length ≤ co7 := (Kd.V_reads' HO_0.out).2.1; have hC25 : Kd.F (Kd.int .u8) _ _ Ao7 x0_1.length x0_1 := (Kd.V_at (base := w.heap.size) HO_0.out).2.2; have q025 : (0 : Int) ≤ (t145 : Int) := of_decide_eq_true (by first | (with_reducible assumption) | assumption); have hcut25 := cut_from (P := Tryd.prog) 22 5 .i64 Tryd.underlying22 hi025 1 hsz25 Ao7 x0_1.length co7 t145 q025 q25; have hr25 := Kd.F_cut (m := (t145 : Int).toNat) (c := co7) hC25 (by omega) hroom25; obtain ⟨A25, hA25⟩ : ∃ A1, A1 = (if co7 = (t145 : Int).toNat then Ao7 else (Ao7 : Option Addr).map (·.add ((t145 : Int).toNat * 1))) := ⟨_, rfl⟩; obtain ⟨c25, hc25⟩ : ∃ c1, c1 = co7 - (t145 : Int).toNat := ⟨_, rfl⟩; have hy25 : y146.length = x0_1.length - (t145 : Int).toNat := (by rw [Ny146.out, List.length_drop] <;> omega); rw [show (x0_1).drop (t145 : Int).toNat = y146 from Ny146.out.symm] at hr25; replace hr25 : Kd.F (Kd.int .u8) _ _ A25 y146.length y146 := (by rw [hA25]; exact hr25); rw [← hy25, ← hA25, ← hc25] at hcut25; have HO150 := Aside0.mk (show Kd.V (Kd.int .u8) 5 _ w.heap.size _ (.slice A25 y146.length c25) y146 from Kd.V_mk (by rw [hy25, hc25]; exact Nat.sub_le_sub_right hroom25 _) hr25); have HC150 := Aside0.mk (show y146.length ≤ c25 from by rw [hy25, hc25]; exact Nat.sub_le_sub_right hroom25 _); clear hr25 hC25 hroom25 hi025 hsz25 hc25; have KY25 := Aside0.mk hy25; have KA25 := Aside0.mk hA25; clear hy25 hA25; replace q25 := eq_true q25))
          go_roundg kj5
          case measure => have := HK1.out; have := HJ5.out; omega
          case rel => exact ⟨(y146), (true), (x138000_1), (x138002_1), (x138004_1), (x138005_1), (wrap64 (wrap32 (t141))), (x139001_1), (x139002_1), (x139003_1), (x139004_1), (x139005_1), (u139001), (u139003), (by first | rfl | (simp; done) | (simp [*]; done)), H', ⟨by have := HK1.out; have := HJ5.out; omega⟩, ⟨by (with_reducible repeat (first | apply Kd.V_alloc | apply Kd.V_drewN | apply Kd.V_drew)); exact HO150.out⟩, ⟨by (with_reducible repeat (first | apply Kd.R_alloc | apply Kd.R_drewN | apply Kd.R_drew)); exact HO_139001.out⟩, ⟨by (with_reducible repeat (first | apply Kd.R_alloc | apply Kd.R_drewN | apply Kd.R_drew)); exact HO_139003.out⟩, ⟨by (with_reducible repeat (first | refine blk_drewN ?_ _ | refine blk_drew ?_ | refine blk_alloc ?_ _)); exact BK137.out⟩, ⟨by (with_reducible repeat (first | refine blk_drewN ?_ _ | refine blk_drew ?_ | refine blk_alloc ?_ _)); exact BK138.out⟩, ⟨by repeat (first | (with_reducible first | exact HB.out | apply below_alloc | apply pw_below_drewN | apply below_drew1 | refine below_set ?_ GE137.out | refine below_set ?_ GE138.out) | exact HB.out)⟩⟩
         ·rw [if_neg c21] at H
          exact absurd H (by simp)
        ·rw [if_neg c20] at H
         exact absurd H (by simp)
       ·rw [if_neg c19] at H
        have c19b0 : (t139 == 1) = false := beq_eq_false_iff_ne.mpr c19
        have c19b1 : (t139 != 1) = true := bne_iff_ne.mpr c19
        by_cases c26 : t139 = 2
        ·rw [if_pos c26] at H
         have c26b0 : (t139 == 2) = true := beq_iff_eq.mpr c26
         have c26b1 : (t139 != 2) = false := bne_eq_false_iff_eq.mpr c26
         clear c26
         obtain ⟨y151, hy151⟩ : ∃ y_ : List Int, y_ = (([] : List Int)) := ⟨_, rfl⟩
         replace H : (if y151.length + t142.length < 140737488355328 then (if 0 ≤ t145 then (if t145 ≤ (x0_1.length : Int) then (spec_Message.l0 kj5 (x0_1.drop (t145 : Int).toNat) x5_1 x139000_1 (y151 ++ t142) x139002_1 x139003_1 x139004_1 x139005_1) else (none)) else (none)) else (none)) = some (r1, r2, r3, r4, r5, r6, r7) := by first | (rw [hy151]; with_reducible exact H) | (have H2_ := (Option.bind_some _ _).symm.trans H; rw [hy151]; with_reducible exact H2_) | (have H2_ := (Option.bind_some _ _).symm.trans H; with_reducible exact H2_) | with_reducible exact H | (rw [hy151]; exact H) | exact H
         have Ny151 := Aside0.mk hy151
         clear hy151
         by_cases c27 : y151.length + t142.length < 140737488355328
         ·rw [if_pos c27] at H
          have LMc27 := Aside0.mk c27
          clear c27
          obtain ⟨y154, hy154⟩ : ∃ y_ : List Int, y_ = (y151 ++ t142) := ⟨_, rfl⟩
          replace H : (if 0 ≤ t145 then (if t145 ≤ (x0_1.length : Int) then (spec_Message.l0 kj5 (x0_1.drop (t145 : Int).toNat) x5_1 x139000_1 y154 x139002_1 x139003_1 x139004_1 x139005_1) else (none)) else (none)) = some (r1, r2, r3, r4, r5, r6, r7) := by first | (rw [hy154]; with_reducible exact H) | (have H2_ := (Option.bind_some _ _).symm.trans H; rw [hy154]; with_reducible exact H2_) | (have H2_ := (Option.bind_some _ _).symm.trans H; with_reducible exact H2_) | with_reducible exact H | (rw [hy154]; exact H) | exact H
          have Ny154 := Aside0.mk hy154
          clear hy154
          by_cases c28 : 0 ≤ t145
          ·rw [if_pos c28] at H
           have c28b0 := eq_true c28
           have c28b1 : decide (0 ≤ t145) = true := decide_eq_true c28
           clear c28
           by_cases c29 : t145 ≤ (x0_1.length : Int)
           ·rw [if_pos c29] at H
            have c29b0 := eq_true c29
            have c29b1 : decide (t145 ≤ (x0_1.length : Int)) = true := decide_eq_true c29
            clear c29
            obtain ⟨y157, hy157⟩ : ∃ y_ : List Int, y_ = (x0_1.drop (t145 : Int).toNat) := ⟨_, rfl⟩
            replace H : (spec_Message.l0 kj5 y157 x5_1 x139000_1 y154 x139002_1 x139003_1 x139004_1 x139005_1) = some (r1, r2, r3, r4, r5, r6, r7) := by first | (rw [hy157]; with_reducible exact H) | (have H2_ := (Option.bind_some _ _).symm.trans H; rw [hy157]; with_reducible exact H2_) | (have H2_ := (Option.bind_some _ _).symm.trans H; with_reducible exact H2_) | with_reducible exact H | (rw [hy157]; exact H) | exact H
            have Ny157 := Aside0.mk hy157
            clear hy157
            have H' := Aside0.mk H
            clear H
            go_wp2_with (first | ((with_reducible refine gate_dst (N := 57) rfl ?_); refine Kd.R_lit (Kd.int .u8) _ 5 ?hg (N := 57) ?hd (xs := ([] : List Int)) (inner := []) (ok := fun _ => True) (okp := fun _ => True) ?hr ?hp (fun _ hk => hk) trivial (Below.refl _ _) (Nat.le_refl _) (by simp) ?_; (case hd => rfl); (case hg => rfl); (case hr => first | (go_simp; done) | (go_simp; rfl)); (case hp => exact (Reps.none _ _)); intro v152 w30 ho31 hb hg_ hnew_; clear hg_ hnew_; (first | rw [← Ny151.out] at ho31 | (simp only [Int.reduceToNat] at ho31; rw [← Ny151.out] at ho31)); have n0_ := Aside0.mk (Kd.V_elder' (by (with_reducible repeat (first | apply Kd.V_alloc | apply Kd.V_drewN | apply Kd.V_drew)); exact HO_0.out) (Kd.R_base ho31) hb); have n1_ := Aside0.mk (Kd.V_elder' (by (with_reducible repeat (first | apply Kd.V_alloc | apply Kd.V_drewN | apply Kd.V_drew)); exact HO_9.out) (Kd.R_base ho31) hb); have n2_ := Aside0.mk (Kd.R_elder' (by (with_reducible repeat (first | apply Kd.R_alloc | apply Kd.R_drewN | apply Kd.R_drew)); exact HO_139001.out) (Kd.R_base ho31) hb); have n3_ := Aside0.mk (Kd.R_below (by (with_reducible repeat (first | apply Kd.R_alloc | apply Kd.R_drewN | apply Kd.R_drew)); exact HO_139003.out) hb); have n4_ := Aside0.mk (Kd.R_lower (Kd.R_new' (Kd.R_newM (M := fun k_ => (w.heap.size ≤ k_)) ho31 (below_size (by repeat (first | (with_reducible first | exact HB.out | apply below_alloc | apply pw_below_drewN | apply below_drew1 | refine below_set ?_ GE137.out | refine below_set ?_ GE138.out) | exact HB.out))) (fun k_ h_ => h_)) (Kd.R_lt (by (with_reducible repeat (first | apply Kd.R_alloc | apply Kd.R_drewN | apply Kd.R_drew)); exact HO_139001.out))) (below_size (by repeat (first | (with_reducible first | exact HB.out | apply below_alloc | apply pw_below_drewN | apply below_drew1 | refine below_set ?_ GE137.out | refine below_set ?_ GE138.out) | exact HB.out)))); have n5_ := Aside0.mk (blk_below (g := gb137) (o := .cells #[.int .i64 x138000_1, .slice none 0 0, .int .u64 x138002_1, .slice none 0 0, .int .u64 x138004_1, .int .u64 x138005_1] 56 (0, 0)) (by (with_reducible repeat (first | refine blk_drewN ?_ _ | refine blk_drew ?_ | refine blk_alloc ?_ _)); exact BK137.out) hb); have n6_ := Aside0.mk (blk_below (g := gb138) (o := .cells #[.int .i64 x139000_1, u139001, .int .u64 x139002_1, u139003, .int .u64 x139004_1, .int .u64 x139005_1] 56 (0, 0)) (by (with_reducible repeat (first | refine blk_drewN ?_ _ | refine blk_drew ?_ | refine blk_alloc ?_ _)); exact BK138.out) hb); have n7_ := Aside0.mk (below_step (by repeat (first | (with_reducible first | exact HB.out | apply below_alloc | apply pw_below_drewN | apply below_drew1 | refine below_set ?_ GE137.out | refine below_set ?_ GE138.out) | exact HB.out)) hb); clear HO_0; clear HO_9; clear HO_139001; clear HO_139003; clear BK137; clear BK138; clear HB; have HO_0 := n0_; have HO_9 := n1_; have HO_139001 := n2_; have HO_139003 := n3_; have HO153 := n4_; have BK137 := n5_; have BK138 := n6_; have HB := n7_; clear n0_ n1_ n2_ n3_ n4_ n5_ n6_ n7_; clear hb ho31; obtain ⟨Ao33, co33, eo33⟩ := Kd.V_slice HO_9.out; subst eo33) | ((with_reducible refine gate_builtin (b := .append) (xs := #[.tmp 57, .tmp 58]) rfl ?_); at_builtin; refine Kd.R_append_rows (Kd.int .u8) (w0 := w) w.heap.size rfl (.tmp 57) (.tmp 58) 22 5 (.int .u8 0) 1 rfl Tryd.underlying22 info5 rfl (by decide) (by omega) v152 y151 t142 _ _ _ (fun k_ => (w.heap.size ≤ k_) ∧ some k_ ≠ (u139001 : Value).ownBlock) (fun _ => False) rfl rfl ?aO ?aR (fun _ _ h => h) (fun _ h => h.elim) ?aF ?aB ?aS ?aL ?_; (case aR => repeat (first | exact (Kd.V_reads' HO_9.out).2.2 | (with_reducible refine Kd.C_alloc ?_ _) | (with_reducible refine Kd.C_drewN ?_ _) | (with_reducible refine Kd.C_drew ?_))); (case aB => exact (by repeat (first | (with_reducible first | exact HB.out | apply below_alloc | apply pw_below_drewN | apply below_drew1 | refine below_set ?_ GE137.out | refine below_set ?_ GE138.out) | exact HB.out))); (case aF => exact (fun k_ hk => ⟨(Nat.le_trans (below_size (by repeat (first | (with_reducible first | exact HB.out | apply below_alloc | apply pw_below_drewN | apply below_drew1 | refine below_set ?_ GE137.out | refine below_set ?_ GE138.out) | exact HB.out))) hk), Kd.fresh' (Kd.R_lt (by (with_reducible repeat (first | apply Kd.R_alloc | apply Kd.R_drewN | apply Kd.R_drew)); exact HO_139001.out)) k_ hk⟩)); (case aO => exact (by (with_reducible repeat (first | apply Kd.R_alloc | apply Kd.R_drewN | apply Kd.R_drew)); exact Kd.R_mono HO153.out (fun _ hk => ⟨hk.1.1, hk.2⟩))); (case aS => exact (below_size (by repeat (first | (with_reducible first | exact HB.out | apply below_alloc | apply pw_below_drewN | apply below_drew1 | refine below_set ?_ GE137.out | refine below_set ?_ GE138.out) | exact HB.out)))); (case aL => have := LMc27.out; omega); intro v155 w32 ho hb hg hat; rw [← Ny154.out] at ho; have n0_ := Aside0.mk (Kd.V_afterv (ok := (fun k_ => (P0_ k_ ∨ w.heap.size ≤ k_) ∧ some k_ ≠ (u139001 : Value).ownBlock ∧ some k_ ≠ (u139003 : Value).ownBlock ∧ k_ ≠ gb137 ∧ k_ ≠ gb138)) (by (with_reducible repeat (first | apply Kd.V_alloc | apply Kd.V_drewN | apply Kd.V_drew)); exact HO_0.out) hg hat); have n1_ := Aside0.mk (Kd.V_afterv (ok := (fun k_ => (P0_ k_ ∨ w.heap.size ≤ k_) ∧ some k_ ≠ (u139001 : Value).ownBlock ∧ some k_ ≠ (u139003 : Value).ownBlock ∧ k_ ≠ gb137 ∧ k_ ≠ gb138)) (by (with_reducible repeat (first | apply Kd.V_alloc | apply Kd.V_drewN | apply Kd.V_drew)); exact HO_9.out) hg hat); have n2_ := Aside0.mk (Kd.R_after (ok := (fun k_ => (w.heap.size ≤ k_))) (by (with_reducible repeat (first | apply Kd.R_alloc | apply Kd.R_drewN | apply Kd.R_drew)); exact HO_139001.out) hg hat); have n3_ := Aside0.mk (Kd.R_over' (by (with_reducible repeat (first | apply Kd.R_alloc | apply Kd.R_drewN | apply Kd.R_drew)); exact HO_139003.out) (Kd.R_typed (by (with_reducible repeat (first | apply Kd.R_alloc | apply Kd.R_drewN | apply Kd.R_drew)); exact HO153.out)) (by decide) hg); have n4_ := Aside0.mk (blk_grown (g := gb137) (o := .cells #[.int .i64 x138000_1, .slice none 0 0, .int .u64 x138002_1, .slice none 0 0, .int .u64 x138004_1, .int .u64 x138005_1] 56 (0, 0)) (by (with_reducible repeat (first | refine blk_drewN ?_ _ | refine blk_drew ?_ | refine blk_alloc ?_ _)); exact BK137.out) hg (Kd.R_ne HO153.out BK137.out (by decide))); have n5_ := Aside0.mk (blk_grown (g := gb138) (o := .cells #[.int .i64 x139000_1, u139001, .int .u64 x139002_1, u139003, .int .u64 x139004_1, .int .u64 x139005_1] 56 (0, 0)) (by (with_reducible repeat (first | refine blk_drewN ?_ _ | refine blk_drew ?_ | refine blk_alloc ?_ _)); exact BK138.out) hg (Kd.R_ne HO153.out BK138.out (by decide))); have n6_ := Aside0.mk (hb); have n7_ := Aside0.mk (ho); clear HO_0; clear HO_9; clear HO_139001; clear HO_139003; clear BK137; clear BK138; clear HB; clear HO153; have HO_0 := n0_; have HO_9 := n1_; have HO_139001 := n2_; have HO_139003 := n3_; have BK137 := n4_; have BK138 := n5_; have HB := n6_; have HO156 := n7_; clear n0_ n1_ n2_ n3_ n4_ n5_ n6_ n7_; clear ho hb hg hat; obtain ⟨Ao34, co34, eo34⟩ := Kd.R_slice HO156.out; subst eo34; have hnb35 := NB138_137.out; have hnc35 := NB137_138.out; have hcz36_0 : w32.cell? ⟨gb138, 0, none⟩ = some (.int .i64 x139000_1) := (blk_cell BK138.out 0).trans rfl; have hcz36_1 : w32.cell? ⟨gb138, 1, none⟩ = some (u139001) := (blk_cell BK138.out 1).trans rfl; have hcz36_2 : w32.cell? ⟨gb138, 2, none⟩ = some (.int .u64 x139002_1) := (blk_cell BK138.out 2).trans rfl; have hcz36_3 : w32.cell? ⟨gb138, 3, none⟩ = some (u139003) := (blk_cell BK138.out 3).trans rfl; have hcz36_4 : w32.cell? ⟨gb138, 4, none⟩ = some (.int .u64 x139004_1) := (blk_cell BK138.out 4).trans rfl; have hcz36_5 : w32.cell? ⟨gb138, 5, none⟩ = some (.int .u64 x139005_1) := (blk_cell BK138.out 5).trans rfl; have hfz36_0 := blk_frozen BK138.out 0; have hfz36_1 := blk_frozen BK138.out 1; have hfz36_2 := blk_frozen BK138.out 2; have hfz36_3 := blk_frozen BK138.out 3; have hfz36_4 := blk_frozen BK138.out 4; have hfz36_5 := blk_frozen BK138.out 5) | ((with_reducible refine gate_store (t := 22) (p := 60) rfl ?_); refine store_event (t := 22) (p := 60) (v := ?vo_w37) (w1 := (w32.setCell ⟨gb138, 1, none⟩ (.slice Ao34 y154.length co34))) ?hg ?ho ?hn ?hr ?_; (case ho => rfl); (case hg => rfl); (case hn => rfl); (case hr => first | (go_simp; done) | (go_simp; rfl)); intro w37 hw; have n0_ : Aside0 (Kd.V (Kd.int .u8) 5 w37 w.heap.size (fun k_ => (P0_ k_ ∨ w.heap.size ≤ k_) ∧ some k_ ≠ (u139001 : Value).ownBlock ∧ some k_ ≠ (u139003 : Value).ownBlock ∧ some k_ ≠ (.slice Ao34 y154.length co34 : Value).ownBlock ∧ k_ ≠ gb137 ∧ k_ ≠ gb138) (.slice Ao7 x0_1.length co7) x0_1) := ⟨(by rw [hw]; exact (by (with_reducible repeat (first | apply Kd.V_alloc | apply Kd.V_drewN | apply Kd.V_drew)); exact Kd.V_mono (Kd.V_far (p := ⟨gb138, 1, none⟩) (Kd.V_mono HO_0.out (fun k_ hk => (⟨hk, hk.1.2.2.2.2⟩ : _ ∧ k_ ≠ gb138))) (fun _ hk => hk.2) (.slice Ao34 y154.length co34)) (fun _ hk => ⟨hk.1.1.1, ⟨hk.1.1.2.1, ⟨hk.1.1.2.2.1, ⟨hk.1.2, ⟨hk.1.1.2.2.2.1, hk.1.1.2.2.2.2⟩⟩⟩⟩⟩)))⟩; have n1_ : Aside0 (Kd.V (Kd.int .u8) 5 w37 w.heap.size (fun k_ => (P0_ k_ ∨ w.heap.size ≤ k_) ∧ some k_ ≠ (u139001 : Value).ownBlock ∧ some k_ ≠ (u139003 : Value).ownBlock ∧ some k_ ≠ (.slice Ao34 y154.length co34 : Value).ownBlock ∧ k_ ≠ gb137 ∧ k_ ≠ gb138) (.slice Ao33 t142.length co33) t142) := ⟨(by rw [hw]; exact (by (with_reducible repeat (first | apply Kd.V_alloc | apply Kd.V_drewN | apply Kd.V_drew)); exact Kd.V_mono (Kd.V_far (p := ⟨gb138, 1, none⟩) (Kd.V_mono HO_9.out (fun k_ hk => (⟨hk, hk.1.2.2.2.2⟩ : _ ∧ k_ ≠ gb138))) (fun _ hk => hk.2) (.slice Ao34 y154.length co34)) (fun _ hk => ⟨hk.1.1.1, ⟨hk.1.1.2.1, ⟨hk.1.1.2.2.1, ⟨hk.1.2, ⟨hk.1.1.2.2.2.1, hk.1.1.2.2.2.2⟩⟩⟩⟩⟩)))⟩; have n2_ : Aside0 (Kd.R (Kd.int .u8) 5 w37 w.heap.size (fun k_ => (w.heap.size ≤ k_) ∧ some k_ ≠ (.slice Ao34 y154.length co34 : Value).ownBlock) u139001 x139001_1) := ⟨(by rw [hw]; exact (by (with_reducible repeat (first | apply Kd.R_alloc | apply Kd.R_drewN | apply Kd.R_drew)); exact Kd.R_mono (Kd.R_far (p := ⟨gb138, 1, none⟩) (Kd.R_types HO_139001.out BK138.out (by decide)) (fun _ hk => hk.2) (.slice Ao34 y154.length co34)) (fun _ hk => ⟨hk.1.1, hk.1.2⟩)))⟩; have n3_ : Aside0 (Kd.R (Kd.int .u64) 24 w37 w.heap.size (fun k_ => (w.heap.size ≤ k_)) u139003 x139003_1) := ⟨(by rw [hw]; exact (by (with_reducible repeat (first | apply Kd.R_alloc | apply Kd.R_drewN | apply Kd.R_drew)); exact Kd.R_mono (Kd.R_far (p := ⟨gb138, 1, none⟩) (Kd.R_types HO_139003.out BK138.out (by decide)) (fun _ hk => hk.2) (.slice Ao34 y154.length co34)) (fun _ hk => hk.1)))⟩; have n4_ : Aside0 (Kd.R (Kd.int .u8) 5 w37 w.heap.size (fun k_ => (w.heap.size ≤ k_) ∧ some k_ ≠ (u139001 : Value).ownBlock) (.slice Ao34 y154.length co34) y154) := ⟨(by rw [hw]; exact (by (with_reducible repeat (first | apply Kd.R_alloc | apply Kd.R_drewN | apply Kd.R_drew)); exact Kd.R_mono (Kd.R_far (p := ⟨gb138, 1, none⟩) (Kd.R_types HO156.out BK138.out (by decide)) (fun _ hk => hk.2) (.slice Ao34 y154.length co34)) (fun _ hk => ⟨hk.1.1, hk.1.2⟩)))⟩; have n5_ : Aside0 (w37.heap[gb137]? = some (.cells #[.int .i64 x138000_1, .slice none 0 0, .int .u64 x138002_1, .slice none 0 0, .int .u64 x138004_1, .int .u64 x138005_1] 56 (0, 0))) := ⟨(by rw [hw]; exact (by (with_reducible repeat (first | refine blk_drewN ?_ _ | refine blk_drew ?_ | refine blk_alloc ?_ _)); refine blk_far ?_ NB137_138.out _; (with_reducible repeat (first | refine blk_drewN ?_ _ | refine blk_drew ?_ | refine blk_alloc ?_ _)); exact BK137.out))⟩; have n6_ : Aside0 (w37.heap[gb138]? = some (.cells #[.int .i64 x139000_1, .slice Ao34 y154.length co34, .int .u64 x139002_1, u139003, .int .u64 x139004_1, .int .u64 x139005_1] 56 (0, 0))) := ⟨(by rw [hw]; exact (by (with_reducible repeat (first | refine blk_drewN ?_ _ | refine blk_drew ?_ | refine blk_alloc ?_ _)); refine blk_put (cs := #[.int .i64 x139000_1, u139001, .int .u64 x139002_1, u139003, .int .u64 x139004_1, .int .u64 x139005_1]) ?_ 1 _ rfl; (with_reducible repeat (first | refine blk_drewN ?_ _ | refine blk_drew ?_ | refine blk_alloc ?_ _)); exact BK138.out))⟩; have n7_ : Aside0 (Below w.heap.size w w37) := ⟨(by rw [hw]; exact (by repeat (first | (with_reducible first | exact HB.out | apply below_alloc | apply pw_below_drewN | apply below_drew1 | refine below_set ?_ GE137.out | refine below_set ?_ GE138.out) | exact HB.out)))⟩; clear hw; clear HO_0; clear HO_9; clear HO_139001; clear HO_139003; clear HO156; clear BK137; clear BK138; clear HB; have HO_0 := n0_; have HO_9 := n1_; have HO_139001 := n2_; have HO_139003 := n3_; have HO156 := n4_; have BK137 := n5_; have BK138 := n6_; have HB := n7_; clear n0_ n1_ n2_ n3_ n4_ n5_ n6_ n7_; have q38 : (t145 : Int) ≤ ((x0_1.length : Int) : Int) := of_decide_eq_true (by first | (with_reducible assumption) | assumption); obtain ⟨i038, hi038, _, hsz38, _⟩ := info_parts info5; have hroom38 : x0_1.length ≤ co7 := (Kd.V_reads' HO_0.out).2.1; have hC38 : Kd.F (Kd.int .u8) _ _ Ao7 x0_1.length x0_1 := (Kd.V_at (base := w.heap.size) HO_0.out).2.2; have q038 : (0 : Int) ≤ (t145 : Int) := of_decide_eq_true (by first | (with_reducible assumption) | assumption); have hcut38 := cut_from (P := Tryd.prog) 22 5 .i64 Tryd.underlying22 hi038 1 hsz38 Ao7 x0_1.length co7 t145 q038 q38; have hr38 := Kd.F_cut (m := (t145 : Int).toNat) (c := co7) hC38 (by omega) hroom38; obtain ⟨A38, hA38⟩ : ∃ A1, A1 = (if co7 = (t145 : Int).toNat then Ao7 else (Ao7 : Option Addr).map (·.add ((t145 : Int).toNat * 1))) := ⟨_, rfl⟩; obtain ⟨c38, hc38⟩ : ∃ c1, c1 = co7 - (t145 : Int).toNat := ⟨_, rfl⟩; have hy38 : y157.length = x0_1.length - (t145 : Int).toNat := (by rw [Ny157.out, List.length_drop] <;> omega); rw [show (x0_1).drop (t145 : Int).toNat = y157 from Ny157.out.symm] at hr38; replace hr38 : Kd.F (Kd.int .u8) _ _ A38 y157.length y157 := (by rw [hA38]; exact hr38); rw [← hy38, ← hA38, ← hc38] at hcut38; have HO161 := Aside0.mk (show Kd.V (Kd.int .u8) 5 _ w.heap.size _ (.slice A38 y157.length c38) y157 from Kd.V_mk (by rw [hy38, hc38]; exact Nat.sub_le_sub_right hroom38 _) hr38); have HC161 := Aside0.mk (show y157.length ≤ c38 from by rw [hy38, hc38]; exact Nat.sub_le_sub_right hroom38 _); clear hr38 hC38 hroom38 hi038 hsz38 hc38; have KY38 := Aside0.mk hy38; have KA38 := Aside0.mk hA38; clear hy38 hA38; replace q38 := eq_true q38))
            go_roundg kj5
            case measure => have := HK1.out; have := HJ5.out; omega
            case rel => exact ⟨(y157), (x5_1), (x138000_1), (x138002_1), (x138004_1), (x138005_1), (x139000_1), (y154), (x139002_1), (x139003_1), (x139004_1), (x139005_1), (.slice Ao34 y154.length co34), (u139003), (by first | rfl | (simp; done) | (simp [*]; done)), H', ⟨by have := HK1.out; have := HJ5.out; omega⟩, ⟨by (with_reducible repeat (first | apply Kd.V_alloc | apply Kd.V_drewN | apply Kd.V_drew)); exact Kd.V_mono HO161.out (fun _ hk => ⟨hk.1, ⟨hk.2.2.2.1, ⟨hk.2.2.1, ⟨hk.2.2.2.2.1, hk.2.2.2.2.2⟩⟩⟩⟩)⟩, ⟨by (with_reducible repeat (first | apply Kd.R_alloc | apply Kd.R_drewN | apply Kd.R_drew)); exact Kd.R_mono HO156.out (fun _ hk => hk.1)⟩, ⟨by (with_reducible repeat (first | apply Kd.R_alloc | apply Kd.R_drewN | apply Kd.R_drew)); exact HO_139003.out⟩, ⟨by (with_reducible repeat (first | refine blk_drewN ?_ _ | refine blk_drew ?_ | refine blk_alloc ?_ _)); exact BK137.out⟩, ⟨by (with_reducible repeat (first | refine blk_drewN ?_ _ | refine blk_drew ?_ | refine blk_alloc ?_ _)); exact BK138.out⟩, ⟨by repeat (first | (with_reducible first | exact HB.out | apply below_alloc | apply pw_below_drewN | apply below_drew1 | refine below_set ?_ GE137.out | refine below_set ?_ GE138.out) | exact HB.out)⟩⟩
           ·rw [if_neg c29] at H
            exact absurd H (by simp)
          ·rw [if_neg c28] at H
           exact absurd H (by simp)
         ·rw [if_neg c27] at H
          exact absurd H (by simp)
        ·rw [if_neg c26] at H
         have c26b0 : (t139 == 2) = false := beq_eq_false_iff_ne.mpr c26
         have c26b1 : (t139 != 2) = true := bne_iff_ne.mpr c26
         by_cases c39 : t139 = 3
         ·rw [if_pos c39] at H
          have c39b0 : (t139 == 3) = true := beq_iff_eq.mpr c39
          have c39b1 : (t139 != 3) = false := bne_eq_false_iff_eq.mpr c39
          clear c39
          by_cases c40 : 0 ≤ t145
          ·rw [if_pos c40] at H
           have c40b0 := eq_true c40
           have c40b1 : decide (0 ≤ t145) = true := decide_eq_true c40
           clear c40
           by_cases c41 : t145 ≤ (x0_1.length : Int)
           ·rw [if_pos c41] at H
            have c41b0 := eq_true c41
            have c41b1 : decide (t145 ≤ (x0_1.length : Int)) = true := decide_eq_true c41
            clear c41
            obtain ⟨y162, hy162⟩ : ∃ y_ : List Int, y_ = (x0_1.drop (t145 : Int).toNat) := ⟨_, rfl⟩
            replace H : (spec_Message.l0 kj5 y162 x5_1 x139000_1 x139001_1 t141 x139003_1 x139004_1 x139005_1) = some (r1, r2, r3, r4, r5, r6, r7) := by first | (rw [hy162]; with_reducible exact H) | (have H2_ := (Option.bind_some _ _).symm.trans H; rw [hy162]; with_reducible exact H2_) | (have H2_ := (Option.bind_some _ _).symm.trans H; with_reducible exact H2_) | with_reducible exact H | (rw [hy162]; exact H) | exact H
            have Ny162 := Aside0.mk hy162
            clear hy162
            have H' := Aside0.mk H
            clear H
            have hnb42 := NB138_137.out
            have hnc42 := NB137_138.out
            have hcz43_0 : wc.cell? ⟨gb138, 0, none⟩ = some (.int .i64 x139000_1) := (blk_cell BK138.out 0).trans rfl
            have hcz43_1 : wc.cell? ⟨gb138, 1, none⟩ = some (u139001) := (blk_cell BK138.out 1).trans rfl
            have hcz43_2 : wc.cell? ⟨gb138, 2, none⟩ = some (.int .u64 x139002_1) := (blk_cell BK138.out 2).trans rfl
            have hcz43_3 : wc.cell? ⟨gb138, 3, none⟩ = some (u139003) := (blk_cell BK138.out 3).trans rfl
            have hcz43_4 : wc.cell? ⟨gb138, 4, none⟩ = some (.int .u64 x139004_1) := (blk_cell BK138.out 4).trans rfl
            have hcz43_5 : wc.cell? ⟨gb138, 5, none⟩ = some (.int .u64 x139005_1) := (blk_cell BK138.out 5).trans rfl
            have hfz43_0 := blk_frozen BK138.out 0
            have hfz43_1 := blk_frozen BK138.out 1
            have hfz43_2 := blk_frozen BK138.out 2
            have hfz43_3 := blk_frozen BK138.out 3
            have hfz43_4 := blk_frozen BK138.out 4
            have hfz43_5 := blk_frozen BK138.out 5
            go_wp2_with (first | ((with_reducible refine gate_store (t := 24) (p := 65) rfl ?_); refine store_event (t := 24) (p := 65) (v := ?vo_w44) (w1 := (wc.setCell ⟨gb138, 2, none⟩ (.int .u64 t141))) ?hg ?ho ?hn ?hr ?_; (case ho => rfl); (case hg => rfl); (case hn => rfl); (case hr => first | (go_simp; done) | (go_simp; rfl)); intro w44 hw; have n0_ : Aside0 (Kd.V (Kd.int .u8) 5 w44 w.heap.size (fun k_ => (P0_ k_ ∨ w.heap.size ≤ k_) ∧ some k_ ≠ (u139001 : Value).ownBlock ∧ some k_ ≠ (u139003 : Value).ownBlock ∧ k_ ≠ gb137 ∧ k_ ≠ gb138) (.slice Ao7 x0_1.length co7) x0_1) := ⟨(by rw [hw]; exact (by (with_reducible repeat (first | apply Kd.V_alloc | apply Kd.V_drewN | apply Kd.V_drew)); exact Kd.V_mono (Kd.V_far (p := ⟨gb138, 2, none⟩) (Kd.V_mono HO_0.out (fun k_ hk => (⟨hk, hk.2.2.2.2⟩ : _ ∧ k_ ≠ gb138))) (fun _ hk => hk.2) (.int .u64 t141)) (fun _ hk => ⟨hk.1.1, ⟨hk.1.2.1, ⟨hk.1.2.2.1, ⟨hk.1.2.2.2.1, hk.1.2.2.2.2⟩⟩⟩⟩)))⟩; have n1_ : Aside0 (Kd.V (Kd.int .u8) 5 w44 w.heap.size (fun k_ => (P0_ k_ ∨ w.heap.size ≤ k_) ∧ some k_ ≠ (u139001 : Value).ownBlock ∧ some k_ ≠ (u139003 : Value).ownBlock ∧ k_ ≠ gb137 ∧ k_ ≠ gb138) v143 t142) := ⟨(by rw [hw]; exact (by (with_reducible repeat (first | apply Kd.V_alloc | apply Kd.V_drewN | apply Kd.V_drew)); exact Kd.V_mono (Kd.V_far (p := ⟨gb138, 2, none⟩) (Kd.V_mono HO_9.out (fun k_ hk => (⟨hk, hk.2.2.2.2⟩ : _ ∧ k_ ≠ gb138))) (fun _ hk => hk.2) (.int .u64 t141)) (fun _ hk => ⟨hk.1.1, ⟨hk.1.2.1, ⟨hk.1.2.2.1, ⟨hk.1.2.2.2.1, hk.1.2.2.2.2⟩⟩⟩⟩)))⟩; have n2_ : Aside0 (Kd.R (Kd.int .u8) 5 w44 w.heap.size (fun k_ => (w.heap.size ≤ k_)) u139001 x139001_1) := ⟨(by rw [hw]; exact (by (with_reducible repeat (first | apply Kd.R_alloc | apply Kd.R_drewN | apply Kd.R_drew)); exact Kd.R_mono (Kd.R_far (p := ⟨gb138, 2, none⟩) (Kd.R_types HO_139001.out BK138.out (by decide)) (fun _ hk => hk.2) (.int .u64 t141)) (fun _ hk => hk.1)))⟩; have n3_ : Aside0 (Kd.R (Kd.int .u64) 24 w44 w.heap.size (fun k_ => (w.heap.size ≤ k_)) u139003 x139003_1) := ⟨(by rw [hw]; exact (by (with_reducible repeat (first | apply Kd.R_alloc | apply Kd.R_drewN | apply Kd.R_drew)); exact Kd.R_mono (Kd.R_far (p := ⟨gb138, 2, none⟩) (Kd.R_types HO_139003.out BK138.out (by decide)) (fun _ hk => hk.2) (.int .u64 t141)) (fun _ hk => hk.1)))⟩; have n4_ : Aside0 (w44.heap[gb137]? = some (.cells #[.int .i64 x138000_1, .slice none 0 0, .int .u64 x138002_1, .slice none 0 0, .int .u64 x138004_1, .int .u64 x138005_1] 56 (0, 0))) := ⟨(by rw [hw]; exact (by (with_reducible repeat (first | refine blk_drewN ?_ _ | refine blk_drew ?_ | refine blk_alloc ?_ _)); refine blk_far ?_ NB137_138.out _; (with_reducible repeat (first | refine blk_drewN ?_ _ | refine blk_drew ?_ | refine blk_alloc ?_ _)); exact BK137.out))⟩; have n5_ : Aside0 (w44.heap[gb138]? = some (.cells #[.int .i64 x139000_1, u139001, .int .u64 t141, u139003, .int .u64 x139004_1, .int .u64 x139005_1] 56 (0, 0))) := ⟨(by rw [hw]; exact (by (with_reducible repeat (first | refine blk_drewN ?_ _ | refine blk_drew ?_ | refine blk_alloc ?_ _)); refine blk_put (cs := #[.int .i64 x139000_1, u139001, .int .u64 x139002_1, u139003, .int .u64 x139004_1, .int .u64 x139005_1]) ?_ 2 _ rfl; (with_reducible repeat (first | refine blk_drewN ?_ _ | refine blk_drew ?_ | refine blk_alloc ?_ _)); exact BK138.out))⟩; have n6_ : Aside0 (Below w.heap.size w w44) := ⟨(by rw [hw]; exact (by repeat (first | (with_reducible first | exact HB.out | apply below_alloc | apply pw_below_drewN | apply below_drew1 | refine below_set ?_ GE137.out | refine below_set ?_ GE138.out) | exact HB.out)))⟩; clear hw; clear HO_0; clear HO_9; clear HO_139001; clear HO_139003; clear BK137; clear BK138; clear HB; have HO_0 := n0_; have HO_9 := n1_; have HO_139001 := n2_; have HO_139003 := n3_; have BK137 := n4_; have BK138 := n5_; have HB := n6_; clear n0_ n1_ n2_ n3_ n4_ n5_ n6_; have q45 : (t145 : Int) ≤ ((x0_1.length : Int) : Int) := of_decide_eq_true (by first | (with_reducible assumption) | assumption); obtain ⟨i045, hi045, _, hsz45, _⟩ := info_parts info5; have hroom45 : x0_1.length ≤ co7 := (Kd.V_reads' HO_0.out).2.1; have hC45 : Kd.F (Kd.int .u8) _ _ Ao7 x0_1.length x0_1 := (Kd.V_at (base := w.heap.size) HO_0.out).2.2; have q045 : (0 : Int) ≤ (t145 : Int) := of_decide_eq_true (by first | (with_reducible assumption) | assumption); have hcut45 := cut_from (P := Tryd.prog) 22 5 .i64 Tryd.underlying22 hi045 1 hsz45 Ao7 x0_1.length co7 t145 q045 q45; have hr45 := Kd.F_cut (m := (t145 : Int).toNat) (c := co7) hC45 (by omega) hroom45; obtain ⟨A45, hA45⟩ : ∃ A1, A1 = (if co7 = (t145 : Int).toNat then Ao7 else (Ao7 : Option Addr).map (·.add ((t145 : Int).toNat * 1))) := ⟨_, rfl⟩; obtain ⟨c45, hc45⟩ : ∃ c1, c1 = co7 - (t145 : Int).toNat := ⟨_, rfl⟩; have hy45 : y162.length = x0_1.length - (t145 : Int).toNat := (by rw [Ny162.out, List.length_drop] <;> omega); rw [show (x0_1).drop (t145 : Int).toNat = y162 from Ny162.out.symm] at hr45; replace hr45 : Kd.F (Kd.int .u8) _ _ A45 y162.length y162 := (by rw [hA45]; exact hr45); rw [← hy45, ← hA45, ← hc45] at hcut45; have HO166 := Aside0.mk (show Kd.V (Kd.int .u8) 5 _ w.heap.size _ (.slice A45 y162.length c45) y162 from Kd.V_mk (by rw [hy45, hc45]; exact Nat.sub_le_sub_right hroom45 _) hr45); have HC166 := Aside0.mk (show y162.length ≤ c45 from by rw [hy45, hc45]; exact Nat.sub_le_sub_right hroom45 _); clear hr45 hC45 hroom45 hi045 hsz45 hc45; have KY45 := Aside0.mk hy45; have KA45 := Aside0.mk hA45; clear hy45 hA45; replace q45 := eq_true q45))
            go_roundg kj5
            case measure => have := HK1.out; have := HJ5.out; omega
            case rel => exact ⟨(y162), (x5_1), (x138000_1), (x138002_1), (x138004_1), (x138005_1), (x139000_1), (x139001_1), (t141), (x139003_1), (x139004_1), (x139005_1), (u139001), (u139003), (by first | rfl | (simp; done) | (simp [*]; done)), H', ⟨by have := HK1.out; have := HJ5.out; omega⟩, ⟨by (with_reducible repeat (first | apply Kd.V_alloc | apply Kd.V_drewN | apply Kd.V_drew)); exact HO166.out⟩, ⟨by (with_reducible repeat (first | apply Kd.R_alloc | apply Kd.R_drewN | apply Kd.R_drew)); exact HO_139001.out⟩, ⟨by (with_reducible repeat (first | apply Kd.R_alloc | apply Kd.R_drewN | apply Kd.R_drew)); exact HO_139003.out⟩, ⟨by (with_reducible repeat (first | refine blk_drewN ?_ _ | refine blk_drew ?_ | refine blk_alloc ?_ _)); exact BK137.out⟩, ⟨by (with_reducible repeat (first | refine blk_drewN ?_ _ | refine blk_drew ?_ | refine blk_alloc ?_ _)); exact BK138.out⟩, ⟨by repeat (first | (with_reducible first | exact HB.out | apply below_alloc | apply pw_below_drewN | apply below_drew1 | refine below_set ?_ GE137.out | refine below_set ?_ GE138.out) | exact HB.out)⟩⟩
           ·rw [if_neg c41] at H
            exact absurd H (by simp)
          ·rw [if_neg c40] at H
           exact absurd H (by simp)
         ·rw [if_neg c39] at H
          have c39b0 : (t139 == 3) = false := beq_eq_false_iff_ne.mpr c39
          have c39b1 : (t139 != 3) = true := bne_iff_ne.mpr c39
          have HC46 := Aside0.mk H
          clear H
          go_upto_region 13 with (fail)
          go_cut [66] (fun v66 wc => ∃ (kq : Nat) (x66_45 : Bool), v66 = .bool x66_45 ∧ Aside0 (spec_Message.j2 kq x0_1 x5_1 t139 t141 t142 t145 x66_45 x139000_1 x139001_1 x139002_1 x139003_1 x139004_1 x139005_1 = some (r1, r2, r3, r4, r5, r6, r7)) ∧ Aside0 (kq ≤ kj5) ∧ Aside0 (Kd.V (Kd.int .u8) 5 wc w.heap.size (fun k_ => (P0_ k_ ∨ w.heap.size ≤ k_) ∧ some k_ ≠ (u139001 : Value).ownBlock ∧ some k_ ≠ (u139003 : Value).ownBlock ∧ k_ ≠ gb137 ∧ k_ ≠ gb138) (.slice Ao7 x0_1.length co7) x0_1) ∧ Aside0 (Kd.V (Kd.int .u8) 5 wc w.heap.size (fun k_ => (P0_ k_ ∨ w.heap.size ≤ k_) ∧ some k_ ≠ (u139001 : Value).ownBlock ∧ some k_ ≠ (u139003 : Value).ownBlock ∧ k_ ≠ gb137 ∧ k_ ≠ gb138) v143 t142) ∧ Aside0 (Kd.R (Kd.int .u8) 5 wc w.heap.size (fun k_ => (w.heap.size ≤ k_)) u139001 x139001_1) ∧ Aside0 (Kd.R (Kd.int .u64) 24 wc w.heap.size (fun k_ => (w.heap.size ≤ k_)) u139003 x139003_1) ∧ Aside0 (wc.heap[gb137]? = some (.cells #[.int .i64 x138000_1, (.slice none 0 0), .int .u64 x138002_1, (.slice none 0 0), .int .u64 x138004_1, .int .u64 x138005_1] 56 (0, 0))) ∧ Aside0 (wc.heap[gb138]? = some (.cells #[.int .i64 x139000_1, u139001, .int .u64 x139002_1, u139003, .int .u64 x139004_1, .int .u64 x139005_1] 56 (0, 0))) ∧ Aside0 (Below w.heap.size w wc))
          case first =>
           have H := HC46.out
           clear HC46
           by_cases c47 : t139 = 4
           ·rw [if_pos c47] at H
            have c47b0 : (t139 == 4) = true := beq_iff_eq.mpr c47
            have c47b1 : (t139 != 4) = false := bne_eq_false_iff_eq.mpr c47
            clear c47
            (first | rw [c47b0] | (simp only [i64_w, i32_w]; rw [c47b0]) | skip)
            have H' := Aside0.mk H
            clear H
            go_wp2
            go_meet
            case rel => exact ⟨_, ((t140 == 0)), (by first | rfl | (simp; done) | (simp [*]; done)), H', ⟨by have := HK1.out; have := HJ5.out; first | omega | exact Nat.le_refl _⟩, ⟨by (with_reducible repeat (first | apply Kd.V_alloc | apply Kd.V_drewN | apply Kd.V_drew)); exact HO_0.out⟩, ⟨by (with_reducible repeat (first | apply Kd.V_alloc | apply Kd.V_drewN | apply Kd.V_drew)); exact HO_9.out⟩, ⟨by (with_reducible repeat (first | apply Kd.R_alloc | apply Kd.R_drewN | apply Kd.R_drew)); exact HO_139001.out⟩, ⟨by (with_reducible repeat (first | apply Kd.R_alloc | apply Kd.R_drewN | apply Kd.R_drew)); exact HO_139003.out⟩, ⟨by (with_reducible repeat (first | refine blk_drewN ?_ _ | refine blk_drew ?_ | refine blk_alloc ?_ _)); exact BK137.out⟩, ⟨by (with_reducible repeat (first | refine blk_drewN ?_ _ | refine blk_drew ?_ | refine blk_alloc ?_ _)); exact BK138.out⟩, ⟨by repeat (first | (with_reducible first | exact HB.out | apply below_alloc | apply pw_below_drewN | apply below_drew1 | refine below_set ?_ GE137.out | refine below_set ?_ GE138.out) | exact HB.out)⟩⟩
           ·rw [if_neg c47] at H
            have c47b0 : (t139 == 4) = false := beq_eq_false_iff_ne.mpr c47
            have c47b1 : (t139 != 4) = true := bne_iff_ne.mpr c47
            (first | rw [c47b0] | (simp only [i64_w, i32_w]; rw [c47b0]) | skip)
            have H' := Aside0.mk H
            clear H
            go_wp2
            go_meet
            case rel => exact ⟨_, (false), (by first | rfl | (simp; done) | (simp [*]; done)), H', ⟨by have := HK1.out; have := HJ5.out; first | omega | exact Nat.le_refl _⟩, ⟨by (with_reducible repeat (first | apply Kd.V_alloc | apply Kd.V_drewN | apply Kd.V_drew)); exact HO_0.out⟩, ⟨by (with_reducible repeat (first | apply Kd.V_alloc | apply Kd.V_drewN | apply Kd.V_drew)); exact HO_9.out⟩, ⟨by (with_reducible repeat (first | apply Kd.R_alloc | apply Kd.R_drewN | apply Kd.R_drew)); exact HO_139001.out⟩, ⟨by (with_reducible repeat (first | apply Kd.R_alloc | apply Kd.R_drewN | apply Kd.R_drew)); exact HO_139003.out⟩, ⟨by (with_reducible repeat (first | refine blk_drewN ?_ _ | refine blk_drew ?_ | refine blk_alloc ?_ _)); exact BK137.out⟩, ⟨by (with_reducible repeat (first | refine blk_drewN ?_ _ | refine blk_drew ?_ | refine blk_alloc ?_ _)); exact BK138.out⟩, ⟨by repeat (first | (with_reducible first | exact HB.out | apply below_alloc | apply pw_below_drewN | apply below_drew1 | refine below_set ?_ GE137.out | refine below_set ?_ GE138.out) | exact HB.out)⟩⟩
          case rest =>
           clear HC46
           try clear c1
           try clear c2
           try clear p2
           try clear q2
           try clear c3
           try clear p3
           try clear q3
           try clear c4
           try clear c4b0
           try clear c4b1
           try clear q4
           try clear p6
           try clear c9
           try clear c9b0
           try clear c9b1
           try clear c10
           try clear c10b0
           try clear c10b1
           try clear c11
           try clear c11b0
           try clear c11b1
           try clear c12
           try clear c12b0
           try clear c12b1
           try clear c13
           try clear c13b0
           try clear c13b1
           try clear c14
           try clear c14b0
           try clear c14b1
           try clear c15
           try clear c15b0
           try clear c15b1
           try clear c16
           try clear c17
           try clear c19
           try clear c19b0
           try clear c19b1
           try clear c20
           try clear c20b0
           try clear c20b1
           try clear c21
           try clear c21b0
           try clear c21b1
           try clear c22
           try clear c25
           try clear q25
           try clear c26
           try clear c26b0
           try clear c26b1
           try clear c27
           try clear c28
           try clear c28b0
           try clear c28b1
           try clear c29
           try clear c29b0
           try clear c29b1
           try clear p32
           try clear c35
           try clear c37
           try clear c38
           try clear q38
           try clear c39
           try clear c39b0
           try clear c39b1
           try clear c40
           try clear c40b0
           try clear c40b1
           try clear c41
           try clear c41b0
           try clear c41b1
           try clear c42
           try clear c45
           try clear q45
           try clear c47
           try clear c47b0
           try clear c47b1
           try clear hcz18_0
           try clear hcz18_1
           try clear hcz18_2
           try clear hcz18_3
           try clear hcz18_4
           try clear hcz18_5
           try clear hcz23_0
           try clear hcz23_1
           try clear hcz23_2
           try clear hcz23_3
           try clear hcz23_4
           try clear hcz23_5
           try clear hcz36_0
           try clear hcz36_1
           try clear hcz36_2
           try clear hcz36_3
           try clear hcz36_4
           try clear hcz36_5
           try clear hcz43_0
           try clear hcz43_1
           try clear hcz43_2
           try clear hcz43_3
           try clear hcz43_4
           try clear hcz43_5
           try clear hfz18_0
           try clear hfz18_1
           try clear hfz18_2
           try clear hfz18_3
           try clear hfz18_4
           try clear hfz18_5
           try clear hfz23_0
           try clear hfz23_1
           try clear hfz23_2
           try clear hfz23_3
           try clear hfz23_4
           try clear hfz23_5
           try clear hfz36_0
           try clear hfz36_1
           try clear hfz36_2
           try clear hfz36_3
           try clear hfz36_4
           try clear hfz36_5
           try clear hfz43_0
           try clear hfz43_1
           try clear hfz43_2
           try clear hfz43_3
           try clear hfz43_4
           try clear hfz43_5
           try clear p2
           try clear q025
           try clear q038
           try clear q045
           try clear q25
           try clear q38
           try clear q45
           obtain ⟨kq, x66_45, rfl, HA, HJ45, HO_0, HO_9, HO_139001, HO_139003, BK137, BK138, HB⟩ := hcut
           cases kq with
           | zero => exact absurd HA.out (by simp [spec_Message.j2])
           | succ kj45 =>
            have H := HA.out
            clear HA
            simp only [spec_Message.j2] at H
            by_cases c48 : x66_45 = true
            ·subst c48
             have H1 : (if x139003_1.length < 17592186044416 then (if 0 ≤ t145 then (if t145 ≤ (x0_1.length : Int) then (spec_Message.l0 kj45 (x0_1.drop (t145 : Int).toNat) x5_1 x139000_1 x139001_1 x139002_1 (x139003_1 ++ [t141]) x139004_1 x139005_1) else (none)) else (none)) else (none)) = some (r1, r2, r3, r4, r5, r6, r7) := by rw [if_pos rfl] at H; exact H
             clear H
             have H := H1
             clear H1
             by_cases c49 : x139003_1.length < 17592186044416
             ·rw [if_pos c49] at H
              have LMc49 := Aside0.mk c49
              clear c49
              obtain ⟨y167, hy167⟩ : ∃ y_ : List Int, y_ = (x139003_1 ++ [t141]) := ⟨_, rfl⟩
              replace H : (if 0 ≤ t145 then (if t145 ≤ (x0_1.length : Int) then (spec_Message.l0 kj45 (x0_1.drop (t145 : Int).toNat) x5_1 x139000_1 x139001_1 x139002_1 y167 x139004_1 x139005_1) else (none)) else (none)) = some (r1, r2, r3, r4, r5, r6, r7) := by first | (rw [hy167]; with_reducible exact H) | (have H2_ := (Option.bind_some _ _).symm.trans H; rw [hy167]; with_reducible exact H2_) | (have H2_ := (Option.bind_some _ _).symm.trans H; with_reducible exact H2_) | with_reducible exact H | (rw [hy167]; exact H) | exact H
              have Ny167 := Aside0.mk hy167
              clear hy167
              by_cases c50 : 0 ≤ t145
              ·rw [if_pos c50] at H
               have c50b0 := eq_true c50
               have c50b1 : decide (0 ≤ t145) = true := decide_eq_true c50
               clear c50
               by_cases c51 : t145 ≤ (x0_1.length : Int)
               ·rw [if_pos c51] at H
                have c51b0 := eq_true c51
                have c51b1 : decide (t145 ≤ (x0_1.length : Int)) = true := decide_eq_true c51
                clear c51
                obtain ⟨y170, hy170⟩ : ∃ y_ : List Int, y_ = (x0_1.drop (t145 : Int).toNat) := ⟨_, rfl⟩
                replace H : (spec_Message.l0 kj45 y170 x5_1 x139000_1 x139001_1 x139002_1 y167 x139004_1 x139005_1) = some (r1, r2, r3, r4, r5, r6, r7) := by first | (rw [hy170]; with_reducible exact H) | (have H2_ := (Option.bind_some _ _).symm.trans H; rw [hy170]; with_reducible exact H2_) | (have H2_ := (Option.bind_some _ _).symm.trans H; with_reducible exact H2_) | with_reducible exact H | (rw [hy170]; exact H) | exact H
                have Ny170 := Aside0.mk hy170
                clear hy170
                have H' := Aside0.mk H
                clear H
                have hnb52 := NB138_137.out
                have hnc52 := NB137_138.out
                have hcz53_0 : wc.cell? ⟨gb138, 0, none⟩ = some (.int .i64 x139000_1) := (blk_cell BK138.out 0).trans rfl
                have hcz53_1 : wc.cell? ⟨gb138, 1, none⟩ = some (u139001) := (blk_cell BK138.out 1).trans rfl
                have hcz53_2 : wc.cell? ⟨gb138, 2, none⟩ = some (.int .u64 x139002_1) := (blk_cell BK138.out 2).trans rfl
                have hcz53_3 : wc.cell? ⟨gb138, 3, none⟩ = some (u139003) := (blk_cell BK138.out 3).trans rfl
                have hcz53_4 : wc.cell? ⟨gb138, 4, none⟩ = some (.int .u64 x139004_1) := (blk_cell BK138.out 4).trans rfl
                have hcz53_5 : wc.cell? ⟨gb138, 5, none⟩ = some (.int .u64 x139005_1) := (blk_cell BK138.out 5).trans rfl
                have hfz53_0 := blk_frozen BK138.out 0
                have hfz53_1 := blk_frozen BK138.out 1
                have hfz53_2 := blk_frozen BK138.out 2
                have hfz53_3 := blk_frozen BK138.out 3
                have hfz53_4 := blk_frozen BK138.out 4
                have hfz53_5 := blk_frozen BK138.out 5
                go_wp2_with (first | ((with_reducible refine gate_builtin (b := .append) (xs := #[.tmp 74, .tmp 76]) rfl ?_); at_builtin; refine Kd.R_append (Kd.int .u64) (w0 := w) w.heap.size rfl (.tmp 74) (.tmp 76) 50 24 (.int .u64 0) 8 rfl Tryd.underlying50 info24 rfl (by decide) (by omega) u139003 x139003_1 t141 [.int .u64 t141] (fun k_ => (w.heap.size ≤ k_)) (fun _ => False) rfl rfl ?aP (fun _ hk => hk.elim) ?aF ?aO ?aB ?aS ?aL ?_; (case aP => exact rfl); (case aB => exact (by repeat (first | (with_reducible first | exact HB.out | apply below_alloc | apply pw_below_drewN | apply below_drew1 | refine below_set ?_ GE137.out | refine below_set ?_ GE138.out) | exact HB.out))); (case aF => exact (fun k_ hk => (Nat.le_trans (below_size (by repeat (first | (with_reducible first | exact HB.out | apply below_alloc | apply pw_below_drewN | apply below_drew1 | refine below_set ?_ GE137.out | refine below_set ?_ GE138.out) | exact HB.out))) hk))); (case aO => exact (by (with_reducible repeat (first | apply Kd.R_alloc | apply Kd.R_drewN | apply Kd.R_drew)); exact HO_139003.out)); (case aS => exact (below_size (by repeat (first | (with_reducible first | exact HB.out | apply below_alloc | apply pw_below_drewN | apply below_drew1 | refine below_set ?_ GE137.out | refine below_set ?_ GE138.out) | exact HB.out)))); (case aL => have := LMc49.out; omega); intro v168 w54 ho hb hg hat; rw [← Ny167.out] at ho; have n0_ := Aside0.mk (Kd.V_afterv (ok := (fun k_ => (P0_ k_ ∨ w.heap.size ≤ k_) ∧ some k_ ≠ (u139001 : Value).ownBlock ∧ k_ ≠ gb137 ∧ k_ ≠ gb138)) (by (with_reducible repeat (first | apply Kd.V_alloc | apply Kd.V_drewN | apply Kd.V_drew)); exact Kd.V_mono HO_0.out (fun _ hk => ⟨⟨hk.1, ⟨hk.2.1, ⟨hk.2.2.2.1, hk.2.2.2.2⟩⟩⟩, hk.2.2.1⟩)) hg hat); have n1_ := Aside0.mk (Kd.V_afterv (ok := (fun k_ => (P0_ k_ ∨ w.heap.size ≤ k_) ∧ some k_ ≠ (u139001 : Value).ownBlock ∧ k_ ≠ gb137 ∧ k_ ≠ gb138)) (by (with_reducible repeat (first | apply Kd.V_alloc | apply Kd.V_drewN | apply Kd.V_drew)); exact Kd.V_mono HO_9.out (fun _ hk => ⟨⟨hk.1, ⟨hk.2.1, ⟨hk.2.2.2.1, hk.2.2.2.2⟩⟩⟩, hk.2.2.1⟩)) hg hat); have n2_ := Aside0.mk (Kd.R_over' (by (with_reducible repeat (first | apply Kd.R_alloc | apply Kd.R_drewN | apply Kd.R_drew)); exact HO_139001.out) (Kd.R_typed (by (with_reducible repeat (first | apply Kd.R_alloc | apply Kd.R_drewN | apply Kd.R_drew)); exact HO_139003.out)) (by decide) hg); have n3_ := Aside0.mk (blk_grown (g := gb137) (o := .cells #[.int .i64 x138000_1, .slice none 0 0, .int .u64 x138002_1, .slice none 0 0, .int .u64 x138004_1, .int .u64 x138005_1] 56 (0, 0)) (by (with_reducible repeat (first | refine blk_drewN ?_ _ | refine blk_drew ?_ | refine blk_alloc ?_ _)); exact BK137.out) hg (Kd.R_ne HO_139003.out BK137.out (by decide))); have n4_ := Aside0.mk (blk_grown (g := gb138) (o := .cells #[.int .i64 x139000_1, u139001, .int .u64 x139002_1, u139003, .int .u64 x139004_1, .int .u64 x139005_1] 56 (0, 0)) (by (with_reducible repeat (first | refine blk_drewN ?_ _ | refine blk_drew ?_ | refine blk_alloc ?_ _)); exact BK138.out) hg (Kd.R_ne HO_139003.out BK138.out (by decide))); have n5_ := Aside0.mk (hb); have n6_ := Aside0.mk (ho); clear HO_0; clear HO_9; clear HO_139001; clear BK137; clear BK138; clear HB; clear HO_139003; have HO_0 := n0_; have HO_9 := n1_; have HO_139001 := n2_; have BK137 := n3_; have BK138 := n4_; have HB := n5_; have HO169 := n6_; clear n0_ n1_ n2_ n3_ n4_ n5_ n6_; clear ho hb hg hat; obtain ⟨Ao55, co55, eo55⟩ := Kd.R_slice HO169.out; subst eo55; have hcz56_0 : w54.cell? ⟨gb138, 0, none⟩ = some (.int .i64 x139000_1) := (blk_cell BK138.out 0).trans rfl; have hcz56_1 : w54.cell? ⟨gb138, 1, none⟩ = some (u139001) := (blk_cell BK138.out 1).trans rfl; have hcz56_2 : w54.cell? ⟨gb138, 2, none⟩ = some (.int .u64 x139002_1) := (blk_cell BK138.out 2).trans rfl; have hcz56_3 : w54.cell? ⟨gb138, 3, none⟩ = some (u139003) := (blk_cell BK138.out 3).trans rfl; have hcz56_4 : w54.cell? ⟨gb138, 4, none⟩ = some (.int .u64 x139004_1) := (blk_cell BK138.out 4).trans rfl; have hcz56_5 : w54.cell? ⟨gb138, 5, none⟩ = some (.int .u64 x139005_1) := (blk_cell BK138.out 5).trans rfl; have hfz56_0 := blk_frozen BK138.out 0; have hfz56_1 := blk_frozen BK138.out 1; have hfz56_2 := blk_frozen BK138.out 2; have hfz56_3 := blk_frozen BK138.out 3; have hfz56_4 := blk_frozen BK138.out 4; have hfz56_5 := blk_frozen BK138.out 5) | ((with_reducible refine gate_store (t := 50) (p := 78) rfl ?_); refine store_event (t := 50) (p := 78) (v := ?vo_w57) (w1 := (w54.setCell ⟨gb138, 3, none⟩ (.slice Ao55 y167.length co55))) ?hg ?ho ?hn ?hr ?_; (case ho => rfl); (case hg => rfl); (case hn => rfl); (case hr => first | (go_simp; done) | (go_simp; rfl)); intro w57 hw; have n0_ : Aside0 (Kd.V (Kd.int .u8) 5 w57 w.heap.size (fun k_ => (P0_ k_ ∨ w.heap.size ≤ k_) ∧ some k_ ≠ (u139001 : Value).ownBlock ∧ some k_ ≠ (.slice Ao55 y167.length co55 : Value).ownBlock ∧ k_ ≠ gb137 ∧ k_ ≠ gb138) (.slice Ao7 x0_1.length co7) x0_1) := ⟨(by rw [hw]; exact (by (with_reducible repeat (first | apply Kd.V_alloc | apply Kd.V_drewN | apply Kd.V_drew)); exact Kd.V_mono (Kd.V_far (p := ⟨gb138, 3, none⟩) (Kd.V_mono HO_0.out (fun k_ hk => (⟨hk, hk.1.2.2.2⟩ : _ ∧ k_ ≠ gb138))) (fun _ hk => hk.2) (.slice Ao55 y167.length co55)) (fun _ hk => ⟨hk.1.1.1, ⟨hk.1.1.2.1, ⟨hk.1.2, ⟨hk.1.1.2.2.1, hk.1.1.2.2.2⟩⟩⟩⟩)))⟩; have n1_ : Aside0 (Kd.V (Kd.int .u8) 5 w57 w.heap.size (fun k_ => (P0_ k_ ∨ w.heap.size ≤ k_) ∧ some k_ ≠ (u139001 : Value).ownBlock ∧ some k_ ≠ (.slice Ao55 y167.length co55 : Value).ownBlock ∧ k_ ≠ gb137 ∧ k_ ≠ gb138) v143 t142) := ⟨(by rw [hw]; exact (by (with_reducible repeat (first | apply Kd.V_alloc | apply Kd.V_drewN | apply Kd.V_drew)); exact Kd.V_mono (Kd.V_far (p := ⟨gb138, 3, none⟩) (Kd.V_mono HO_9.out (fun k_ hk => (⟨hk, hk.1.2.2.2⟩ : _ ∧ k_ ≠ gb138))) (fun _ hk => hk.2) (.slice Ao55 y167.length co55)) (fun _ hk => ⟨hk.1.1.1, ⟨hk.1.1.2.1, ⟨hk.1.2, ⟨hk.1.1.2.2.1, hk.1.1.2.2.2⟩⟩⟩⟩)))⟩; have n2_ : Aside0 (Kd.R (Kd.int .u8) 5 w57 w.heap.size (fun k_ => (w.heap.size ≤ k_)) u139001 x139001_1) := ⟨(by rw [hw]; exact (by (with_reducible repeat (first | apply Kd.R_alloc | apply Kd.R_drewN | apply Kd.R_drew)); exact Kd.R_mono (Kd.R_far (p := ⟨gb138, 3, none⟩) (Kd.R_types HO_139001.out BK138.out (by decide)) (fun _ hk => hk.2) (.slice Ao55 y167.length co55)) (fun _ hk => hk.1)))⟩; have n3_ : Aside0 (Kd.R (Kd.int .u64) 24 w57 w.heap.size (fun k_ => (w.heap.size ≤ k_)) (.slice Ao55 y167.length co55) y167) := ⟨(by rw [hw]; exact (by (with_reducible repeat (first | apply Kd.R_alloc | apply Kd.R_drewN | apply Kd.R_drew)); exact Kd.R_mono (Kd.R_far (p := ⟨gb138, 3, none⟩) (Kd.R_types HO169.out BK138.out (by decide)) (fun _ hk => hk.2) (.slice Ao55 y167.length co55)) (fun _ hk => hk.1)))⟩; have n4_ : Aside0 (w57.heap[gb137]? = some (.cells #[.int .i64 x138000_1, .slice none 0 0, .int .u64 x138002_1, .slice none 0 0, .int .u64 x138004_1, .int .u64 x138005_1] 56 (0, 0))) := ⟨(by rw [hw]; exact (by (with_reducible repeat (first | refine blk_drewN ?_ _ | refine blk_drew ?_ | refine blk_alloc ?_ _)); refine blk_far ?_ NB137_138.out _; (with_reducible repeat (first | refine blk_drewN ?_ _ | refine blk_drew ?_ | refine blk_alloc ?_ _)); exact BK137.out))⟩; have n5_ : Aside0 (w57.heap[gb138]? = some (.cells #[.int .i64 x139000_1, u139001, .int .u64 x139002_1, .slice Ao55 y167.length co55, .int .u64 x139004_1, .int .u64 x139005_1] 56 (0, 0))) := ⟨(by rw [hw]; exact (by (with_reducible repeat (first | refine blk_drewN ?_ _ | refine blk_drew ?_ | refine blk_alloc ?_ _)); refine blk_put (cs := #[.int .i64 x139000_1, u139001, .int .u64 x139002_1, u139003, .int .u64 x139004_1, .int .u64 x139005_1]) ?_ 3 _ rfl; (with_reducible repeat (first | refine blk_drewN ?_ _ | refine blk_drew ?_ | refine blk_alloc ?_ _)); exact BK138.out))⟩; have n6_ : Aside0 (Below w.heap.size w w57) := ⟨(by rw [hw]; exact (by repeat (first | (with_reducible first | exact HB.out | apply below_alloc | apply pw_below_drewN | apply below_drew1 | refine below_set ?_ GE137.out | refine below_set ?_ GE138.out) | exact HB.out)))⟩; clear hw; clear HO_0; clear HO_9; clear HO_139001; clear HO169; clear BK137; clear BK138; clear HB; have HO_0 := n0_; have HO_9 := n1_; have HO_139001 := n2_; have HO169 := n3_; have BK137 := n4_; have BK138 := n5_; have HB := n6_; clear n0_ n1_ n2_ n3_ n4_ n5_ n6_; have q58 : (t145 : Int) ≤ ((x0_1.length : Int) : Int) := of_decide_eq_true (by first | (with_reducible assumption) | assumption); obtain ⟨i058, hi058, _, hsz58, _⟩ := info_parts info5; have hroom58 : x0_1.length ≤ co7 := (Kd.V_reads' HO_0.out).2.1; have hC58 : Kd.F (Kd.int .u8) _ _ Ao7 x0_1.length x0_1 := (Kd.V_at (base := w.heap.size) HO_0.out).2.2; have q058 : (0 : Int) ≤ (t145 : Int) := of_decide_eq_true (by first | (with_reducible assumption) | assumption); have hcut58 := cut_from (P := Tryd.prog) 22 5 .i64 Tryd.underlying22 hi058 1 hsz58 Ao7 x0_1.length co7 t145 q058 q58; have hr58 := Kd.F_cut (m := (t145 : Int).toNat) (c := co7) hC58 (by omega) hroom58; obtain ⟨A58, hA58⟩ : ∃ A1, A1 = (if co7 = (t145 : Int).toNat then Ao7 else (Ao7 : Option Addr).map (·.add ((t145 : Int).toNat * 1))) := ⟨_, rfl⟩; obtain ⟨c58, hc58⟩ : ∃ c1, c1 = co7 - (t145 : Int).toNat := ⟨_, rfl⟩; have hy58 : y170.length = x0_1.length - (t145 : Int).toNat := (by rw [Ny170.out, List.length_drop] <;> omega); rw [show (x0_1).drop (t145 : Int).toNat = y170 from Ny170.out.symm] at hr58; replace hr58 : Kd.F (Kd.int .u8) _ _ A58 y170.length y170 := (by rw [hA58]; exact hr58); rw [← hy58, ← hA58, ← hc58] at hcut58; have HO174 := Aside0.mk (show Kd.V (Kd.int .u8) 5 _ w.heap.size _ (.slice A58 y170.length c58) y170 from Kd.V_mk (by rw [hy58, hc58]; exact Nat.sub_le_sub_right hroom58 _) hr58); have HC174 := Aside0.mk (show y170.length ≤ c58 from by rw [hy58, hc58]; exact Nat.sub_le_sub_right hroom58 _); clear hr58 hC58 hroom58 hi058 hsz58 hc58; have KY58 := Aside0.mk hy58; have KA58 := Aside0.mk hA58; clear hy58 hA58; replace q58 := eq_true q58))
                go_roundg kj45
                case measure => have := HK1.out; have := HJ5.out; have := HJ45.out; omega
                case rel => exact ⟨(y170), (x5_1), (x138000_1), (x138002_1), (x138004_1), (x138005_1), (x139000_1), (x139001_1), (x139002_1), (y167), (x139004_1), (x139005_1), (u139001), (.slice Ao55 y167.length co55), (by first | rfl | (simp; done) | (simp [*]; done)), H', ⟨by have := HK1.out; have := HJ5.out; have := HJ45.out; omega⟩, ⟨by (with_reducible repeat (first | apply Kd.V_alloc | apply Kd.V_drewN | apply Kd.V_drew)); exact HO174.out⟩, ⟨by (with_reducible repeat (first | apply Kd.R_alloc | apply Kd.R_drewN | apply Kd.R_drew)); exact HO_139001.out⟩, ⟨by (with_reducible repeat (first | apply Kd.R_alloc | apply Kd.R_drewN | apply Kd.R_drew)); exact HO169.out⟩, ⟨by (with_reducible repeat (first | refine blk_drewN ?_ _ | refine blk_drew ?_ | refine blk_alloc ?_ _)); exact BK137.out⟩, ⟨by (with_reducible repeat (first | refine blk_drewN ?_ _ | refine blk_drew ?_ | refine blk_alloc ?_ _)); exact BK138.out⟩, ⟨by repeat (first | (with_reducible first | exact HB.out | apply below_alloc | apply pw_below_drewN | apply below_drew1 | refine below_set ?_ GE137.out | refine below_set ?_ GE138.out) | exact HB.out)⟩⟩
               ·rw [if_neg c51] at H
                exact absurd H (by simp)
              ·rw [if_neg c50] at H
               exact absurd H (by simp)
             ·rw [if_neg c49] at H
              exact absurd H (by simp)
            ·replace c48 := Bool.eq_false_iff.mpr c48
             subst c48
             have H1 : (if t139 = 4 then (spec_Message.l1 kj45 x0_1 x5_1 t142 t145 x139000_1 x139001_1 x139002_1 x139003_1 x139004_1 x139005_1) else (if t139 = 5 then (if 0 ≤ t145 then (if t145 ≤ (x0_1.length : Int) then (spec_Message.l0 kj45 (x0_1.drop (t145 : Int).toNat) x5_1 x139000_1 x139001_1 x139002_1 x139003_1 t141 x139005_1) else (none)) else (none)) else (if t139 = 6 then (if 0 ≤ t145 then (if t145 ≤ (x0_1.length : Int) then (spec_Message.l0 kj45 (x0_1.drop (t145 : Int).toNat) x5_1 x139000_1 x139001_1 x139002_1 x139003_1 x139004_1 t141) else (none)) else (none)) else (if 0 ≤ t145 then (if t145 ≤ (x0_1.length : Int) then (spec_Message.l0 kj45 (x0_1.drop (t145 : Int).toNat) x5_1 x139000_1 x139001_1 x139002_1 x139003_1 x139004_1 x139005_1) else (none)) else (none))))) = some (r1, r2, r3, r4, r5, r6, r7) := by rw [if_neg (show ¬ (false = true) by decide)] at H; exact H
             clear H
             have H := H1
             clear H1
             by_cases c59 : t139 = 4
             ·rw [if_pos c59] at H
              have c59b0 : (t139 == 4) = true := beq_iff_eq.mpr c59
              have c59b1 : (t139 != 4) = false := bne_eq_false_iff_eq.mpr c59
              clear c59
              have H' := Aside0.mk H
              clear H
              go_wp2
              (try simp only [Act.put, List.setIfInBounds_toArray, List.set_cons_zero, List.set_cons_succ])
              go_loopg [9] kj45 (fun kq v9 w' => ∃ (x9_4 : List Int) (x138000_4 : Int) (x138002_4 : Int) (x138004_4 : Int) (x138005_4 : Int) (x139003_4 : List Int) (u139003 : Value), Aside0 (spec_Message.l1 kq x0_1 x5_1 x9_4 t145 x139000_1 x139001_1 x139002_1 x139003_4 x139004_1 x139005_1 = some (r1, r2, r3, r4, r5, r6, r7)) ∧ Aside0 (kq ≤ kj45) ∧ Aside0 (Kd.V (Kd.int .u8) 5 w' w.heap.size (fun k_ => (P0_ k_ ∨ w.heap.size ≤ k_) ∧ some k_ ≠ (u139001 : Value).ownBlock ∧ some k_ ≠ (u139003 : Value).ownBlock ∧ k_ ≠ gb137 ∧ k_ ≠ gb138) (.slice Ao7 x0_1.length co7) x0_1) ∧ Aside0 (Kd.V (Kd.int .u8) 5 w' w.heap.size (fun k_ => (P0_ k_ ∨ w.heap.size ≤ k_) ∧ some k_ ≠ (u139001 : Value).ownBlock ∧ some k_ ≠ (u139003 : Value).ownBlock ∧ k_ ≠ gb137 ∧ k_ ≠ gb138) v9 x9_4) ∧ Aside0 (Kd.R (Kd.int .u8) 5 w' w.heap.size (fun k_ => (w.heap.size ≤ k_)) u139001 x139001_1) ∧ Aside0 (Kd.R (Kd.int .u64) 24 w' w.heap.size (fun k_ => (w.heap.size ≤ k_)) u139003 x139003_4) ∧ Aside0 (w'.heap[gb137]? = some (.cells #[.int .i64 x138000_4, (.slice none 0 0), .int .u64 x138002_4, (.slice none 0 0), .int .u64 x138004_4, .int .u64 x138005_4] 56 (0, 0))) ∧ Aside0 (w'.heap[gb138]? = some (.cells #[.int .i64 x139000_1, u139001, .int .u64 x139002_1, u139003, .int .u64 x139004_1, .int .u64 x139005_1] 56 (0, 0))) ∧ Aside0 (Below w.heap.size w w'))
              case atStart => exact ⟨(t142), (x138000_1), (x138002_1), (x138004_1), (x138005_1), (x139003_1), (u139003), H', ⟨Nat.le_refl _⟩, ⟨by (with_reducible repeat (first | apply Kd.V_alloc | apply Kd.V_drewN | apply Kd.V_drew)); exact HO_0.out⟩, ⟨by (with_reducible repeat (first | apply Kd.V_alloc | apply Kd.V_drewN | apply Kd.V_drew)); exact HO_9.out⟩, ⟨by (with_reducible repeat (first | apply Kd.R_alloc | apply Kd.R_drewN | apply Kd.R_drew)); exact HO_139001.out⟩, ⟨by (with_reducible repeat (first | apply Kd.R_alloc | apply Kd.R_drewN | apply Kd.R_drew)); exact HO_139003.out⟩, ⟨by (with_reducible repeat (first | refine blk_drewN ?_ _ | refine blk_drew ?_ | refine blk_alloc ?_ _)); exact BK137.out⟩, ⟨by (with_reducible repeat (first | refine blk_drewN ?_ _ | refine blk_drew ?_ | refine blk_alloc ?_ _)); exact BK138.out⟩, ⟨by repeat (first | (with_reducible first | exact HB.out | apply below_alloc | apply pw_below_drewN | apply below_drew1 | refine below_set ?_ GE137.out | refine below_set ?_ GE138.out) | exact HB.out)⟩⟩
              case round =>
               clear H'
               try clear c1
               try clear c2
               try clear p2
               try clear q2
               try clear c3
               try clear p3
               try clear q3
               try clear c4
               try clear c4b0
               try clear c4b1
               try clear q4
               try clear c5
               try clear q5
               try clear p6
               try clear c9
               try clear c9b0
               try clear c9b1
               try clear c10
               try clear c10b0
               try clear c10b1
               try clear c11
               try clear c11b0
               try clear c11b1
               try clear c12
               try clear c12b0
               try clear c12b1
               try clear c13
               try clear c13b0
               try clear c13b1
               try clear c14
               try clear c14b0
               try clear c14b1
               try clear c15
               try clear c15b0
               try clear c15b1
               try clear c16
               try clear c17
               try clear c19
               try clear c19b0
               try clear c19b1
               try clear c20
               try clear c20b0
               try clear c20b1
               try clear c21
               try clear c21b0
               try clear c21b1
               try clear c22
               try clear c25
               try clear q25
               try clear c26
               try clear c26b0
               try clear c26b1
               try clear c27
               try clear c28
               try clear c28b0
               try clear c28b1
               try clear c29
               try clear c29b0
               try clear c29b1
               try clear p32
               try clear c35
               try clear c37
               try clear c38
               try clear q38
               try clear c39
               try clear c39b0
               try clear c39b1
               try clear c40
               try clear c40b0
               try clear c40b1
               try clear c41
               try clear c41b0
               try clear c41b1
               try clear c42
               try clear c45
               try clear q45
               try clear c47
               try clear c47b0
               try clear c47b1
               try clear c48
               try clear c49
               try clear c50
               try clear c50b0
               try clear c50b1
               try clear c51
               try clear c51b0
               try clear c51b1
               try clear c52
               try clear c58
               try clear q58
               try clear c59
               try clear c59b0
               try clear c59b1
               try clear hcz18_0
               try clear hcz18_1
               try clear hcz18_2
               try clear hcz18_3
               try clear hcz18_4
               try clear hcz18_5
               try clear hcz23_0
               try clear hcz23_1
               try clear hcz23_2
               try clear hcz23_3
               try clear hcz23_4
               try clear hcz23_5
               try clear hcz36_0
               try clear hcz36_1
               try clear hcz36_2
               try clear hcz36_3
               try clear hcz36_4
               try clear hcz36_5
               try clear hcz43_0
               try clear hcz43_1
               try clear hcz43_2
               try clear hcz43_3
               try clear hcz43_4
               try clear hcz43_5
               try clear hcz53_0
               try clear hcz53_1
               try clear hcz53_2
               try clear hcz53_3
               try clear hcz53_4
               try clear hcz53_5
               try clear hcz56_0
               try clear hcz56_1
               try clear hcz56_2
               try clear hcz56_3
               try clear hcz56_4
               try clear hcz56_5
               try clear hfz18_0
               try clear hfz18_1
               try clear hfz18_2
               try clear hfz18_3
               try clear hfz18_4
               try clear hfz18_5
               try clear hfz23_0
               try clear hfz23_1
               try clear hfz23_2
               try clear hfz23_3
               try clear hfz23_4
               try clear hfz23_5
               try clear hfz36_0
               try clear hfz36_1
               try clear hfz36_2
               try clear hfz36_3
               try clear hfz36_4
               try clear hfz36_5
               try clear hfz43_0
               try clear hfz43_1
               try clear hfz43_2
               try clear hfz43_3
               try clear hfz43_4
               try clear hfz43_5
               try clear hfz53_0
               try clear hfz53_1
               try clear hfz53_2
               try clear hfz53_3
               try clear hfz53_4
               try clear hfz53_5
               try clear hfz56_0
               try clear hfz56_1
               try clear hfz56_2
               try clear hfz56_3
               try clear hfz56_4
               try clear hfz56_5
               try clear p2
               try clear p3
               try clear p32
               try clear p6
               try clear q025
               try clear q038
               try clear q045
               try clear q058
               try clear q2
               try clear q25
               try clear q3
               try clear q38
               try clear q4
               try clear q45
               try clear q58
               obtain ⟨x9_4, x138000_4, x138002_4, x138004_4, x138005_4, x139003_4, u139003, HA, HK4, HO_0, HO_9, HO_139001, HO_139003, BK137, BK138, HB⟩ := hrel
               cases gk with
               | zero => exact absurd HA.out (by simp [spec_Message.l1])
               | succ k4 =>
                have H := HA.out
                clear HA
                simp only [spec_Message.l1] at H
                by_cases c60 : (x9_4.length : Int) > 0
                ·rw [if_pos c60] at H
                 have c60b0 : decide (0 < (x9_4.length : Int)) = true := decide_eq_true c60
                 have c60b1 : decide (0 < x9_4.length) = true := decide_eq_true (by omega)
                 clear c60
                 replace H := Option.bind_eq_some_iff.mp H
                 obtain ⟨⟨t175, t176⟩, A610, H⟩ := H
                 replace H : (if t176 = 0 then (some (0, ([] : List Int), 0, ([] : List Int), 0, 0, false)) else (if x139003_4.length < 17592186044416 then (if 0 ≤ t176 then (if t176 ≤ (x9_4.length : Int) then (spec_Message.l1 k4 x0_1 x5_1 (x9_4.drop (t176 : Int).toNat) t145 x139000_1 x139001_1 x139002_1 (x139003_4 ++ [t175]) x139004_1 x139005_1) else (none)) else (none)) else (none))) = some (r1, r2, r3, r4, r5, r6, r7) := H
                 have A61 := Aside0.mk A610
                 clear A610
                 by_cases c62 : t176 = 0
                 ·rw [if_pos c62] at H
                  have c62b0 : (t176 == 0) = true := beq_iff_eq.mpr c62
                  have c62b1 : (t176 != 0) = false := bne_eq_false_iff_eq.mpr c62
                  clear c62
                  simp only [Option.some.injEq, Prod.mk.injEq] at H
                  obtain ⟨rfl, rfl, rfl, rfl, rfl, rfl, rfl⟩ := H
                  obtain ⟨Ao63, co63, eo63⟩ := Kd.V_slice HO_9.out
                  subst eo63
                  go_wp2_with (first | ((with_reducible refine gate_callee (f := 47) rfl ?_); refine goesL_ (some 87) rfl rfl Tryd.func47 (by kernel_rfl) rfl #[.slice Ao63 x9_4.length co63] rfl (by (try simp only [List.map_toArray, List.map_cons, List.map_nil]); first | done | rfl | (simp only [List.length_drop, List.length_take]; rfl)) ?_; (with_reducible refine (spec_ReadUvarint.calls k4 _ _ x9_4 t175 t176 _ ?side1 ?side2 A61.out).mono ?_); (case side1 => repeat (first | exact (Kd.V_reads' HO_9.out).2.2 | (with_reducible refine Kd.C_alloc ?_ _) | (with_reducible refine Kd.C_drewN ?_ _) | (with_reducible refine Kd.C_drew ?_))); (case side2 => exact (Kd.V_reads' HO_9.out).2.1); rintro e w' ⟨rfl, ⟨nd, rfl⟩⟩; refine ⟨_, rfl, ?_⟩; (try (rw [drewN_self wr]; generalize hq_ : World.drewN wr _ = wr; have n0_ : Aside0 (Kd.V (Kd.int .u8) 5 wr w.heap.size (fun k_ => (P0_ k_ ∨ w.heap.size ≤ k_) ∧ some k_ ≠ (u139001 : Value).ownBlock ∧ some k_ ≠ (u139003 : Value).ownBlock ∧ k_ ≠ gb137 ∧ k_ ≠ gb138) (.slice Ao7 x0_1.length co7) x0_1) := ⟨by rw [← hq_]; exact (by (with_reducible repeat (first | apply Kd.V_alloc | apply Kd.V_drewN | apply Kd.V_drew)); exact HO_0.out)⟩; have n1_ : Aside0 (Kd.R (Kd.int .u8) 5 wr w.heap.size (fun k_ => (w.heap.size ≤ k_)) u139001 x139001_1) := ⟨by rw [← hq_]; exact (by (with_reducible repeat (first | apply Kd.R_alloc | apply Kd.R_drewN | apply Kd.R_drew)); exact HO_139001.out)⟩; have n2_ : Aside0 (Kd.R (Kd.int .u64) 24 wr w.heap.size (fun k_ => (w.heap.size ≤ k_)) u139003 x139003_4) := ⟨by rw [← hq_]; exact (by (with_reducible repeat (first | apply Kd.R_alloc | apply Kd.R_drewN | apply Kd.R_drew)); exact HO_139003.out)⟩; have n3_ : Aside0 (Kd.V (Kd.int .u8) 5 wr w.heap.size (fun k_ => (P0_ k_ ∨ w.heap.size ≤ k_) ∧ some k_ ≠ (u139001 : Value).ownBlock ∧ some k_ ≠ (u139003 : Value).ownBlock ∧ k_ ≠ gb137 ∧ k_ ≠ gb138) (.slice Ao63 x9_4.length co63) x9_4) := ⟨by rw [← hq_]; exact (by (with_reducible repeat (first | apply Kd.V_alloc | apply Kd.V_drewN | apply Kd.V_drew)); exact HO_9.out)⟩; have n4_ : Aside0 (wr.heap[gb137]? = some (.cells #[.int .i64 x138000_4, .slice none 0 0, .int .u64 x138002_4, .slice none 0 0, .int .u64 x138004_4, .int .u64 x138005_4] 56 (0, 0))) := ⟨by rw [← hq_]; exact (by (with_reducible repeat (first | refine blk_drewN ?_ _ | refine blk_drew ?_ | refine blk_alloc ?_ _)); exact BK137.out)⟩; have n5_ : Aside0 (wr.heap[gb138]? = some (.cells #[.int .i64 x139000_1, u139001, .int .u64 x139002_1, u139003, .int .u64 x139004_1, .int .u64 x139005_1] 56 (0, 0))) := ⟨by rw [← hq_]; exact (by (with_reducible repeat (first | refine blk_drewN ?_ _ | refine blk_drew ?_ | refine blk_alloc ?_ _)); exact BK138.out)⟩; have n6_ : Aside0 (Below w.heap.size w wr) := ⟨by rw [← hq_]; exact (by repeat (first | (with_reducible first | exact HB.out | apply below_alloc | apply pw_below_drewN | apply below_drew1 | refine below_set ?_ GE137.out | refine below_set ?_ GE138.out) | exact HB.out))⟩; clear HO_0 HO_139001 HO_139003 HO_9 BK137 BK138 HB hq_; have HO_0 := n0_; have HO_139001 := n1_; have HO_139003 := n2_; have HO_9 := n3_; have BK137 := n4_; have BK138 := n5_; have HB := n6_; clear n0_ n1_ n2_ n3_ n4_ n5_ n6_)); have hnb64 := NB137_138.out; have hnc64 := NB138_137.out; have hcz65_0 : wr.cell? ⟨gb137, 0, none⟩ = some (.int .i64 x138000_4) := (blk_cell BK137.out 0).trans rfl; have hcz65_1 : wr.cell? ⟨gb137, 1, none⟩ = some (.slice none 0 0) := (blk_cell BK137.out 1).trans rfl; have hcz65_2 : wr.cell? ⟨gb137, 2, none⟩ = some (.int .u64 x138002_4) := (blk_cell BK137.out 2).trans rfl; have hcz65_3 : wr.cell? ⟨gb137, 3, none⟩ = some (.slice none 0 0) := (blk_cell BK137.out 3).trans rfl; have hcz65_4 : wr.cell? ⟨gb137, 4, none⟩ = some (.int .u64 x138004_4) := (blk_cell BK137.out 4).trans rfl; have hcz65_5 : wr.cell? ⟨gb137, 5, none⟩ = some (.int .u64 x138005_4) := (blk_cell BK137.out 5).trans rfl; have hfz65_0 := blk_frozen BK137.out 0; have hfz65_1 := blk_frozen BK137.out 1; have hfz65_2 := blk_frozen BK137.out 2; have hfz65_3 := blk_frozen BK137.out 3; have hfz65_4 := blk_frozen BK137.out 4; have hfz65_5 := blk_frozen BK137.out 5))
                  refine bodyPost_ret (results_ct rfl _ _ gb137 56 #[.int .i64 0, .slice none 0 0, .int .u64 0, .slice none 0 0, .int .u64 0, .int .u64 0] (0, 0) _ rfl (by (with_reducible repeat (first | refine blk_drewN ?_ _ | refine blk_drew ?_ | refine blk_alloc ?_ _)); refine blk_put (cs := #[.int .i64 0, .slice none 0 0, .int .u64 0, .slice none 0 0, .int .u64 0, .int .u64 x138005_4]) ?_ 5 _ rfl; (with_reducible repeat (first | refine blk_drewN ?_ _ | refine blk_drew ?_ | refine blk_alloc ?_ _)); refine blk_put (cs := #[.int .i64 0, .slice none 0 0, .int .u64 0, .slice none 0 0, .int .u64 x138004_4, .int .u64 x138005_4]) ?_ 4 _ rfl; (with_reducible repeat (first | refine blk_drewN ?_ _ | refine blk_drew ?_ | refine blk_alloc ?_ _)); refine blk_put (cs := #[.int .i64 0, .slice none 0 0, .int .u64 0, .slice none 0 0, .int .u64 x138004_4, .int .u64 x138005_4]) ?_ 3 _ rfl; (with_reducible repeat (first | refine blk_drewN ?_ _ | refine blk_drew ?_ | refine blk_alloc ?_ _)); refine blk_put (cs := #[.int .i64 0, .slice none 0 0, .int .u64 x138002_4, .slice none 0 0, .int .u64 x138004_4, .int .u64 x138005_4]) ?_ 2 _ rfl; (with_reducible repeat (first | refine blk_drewN ?_ _ | refine blk_drew ?_ | refine blk_alloc ?_ _)); refine blk_put (cs := #[.int .i64 0, .slice none 0 0, .int .u64 x138002_4, .slice none 0 0, .int .u64 x138004_4, .int .u64 x138005_4]) ?_ 1 _ rfl; (with_reducible repeat (first | refine blk_drewN ?_ _ | refine blk_drew ?_ | refine blk_alloc ?_ _)); refine blk_put (cs := #[.int .i64 x138000_4, .slice none 0 0, .int .u64 x138002_4, .slice none 0 0, .int .u64 x138004_4, .int .u64 x138005_4]) ?_ 0 _ rfl; (with_reducible repeat (first | refine blk_drewN ?_ _ | refine blk_drew ?_ | refine blk_alloc ?_ _)); exact BK137.out) Tryd.underlying56 rfl (by kernel_rfl)) rfl ?_
                  exact ⟨_, _, by first | rfl | (simp [errV_none, errV_some] <;> rfl) | (simp [*, errV_none, errV_some] <;> rfl), by first | exact Kd.R_nil _ _ _ _ _ | exact Kd.N_nil _ _ _ _ _ | exact Kd.V_nil _ _ _ _ _ | exact Kd.Q_nil _ _ _ _ _ | exact Kd.S_nil _ _ _ _ _, by first | exact Kd.R_nil _ _ _ _ _ | exact Kd.N_nil _ _ _ _ _ | exact Kd.V_nil _ _ _ _ _ | exact Kd.Q_nil _ _ _ _ _ | exact Kd.S_nil _ _ _ _ _, by repeat (first | (with_reducible first | exact HB.out | apply below_alloc | apply pw_below_drewN | apply below_drew1 | refine below_set ?_ GE137.out | refine below_set ?_ GE138.out) | exact HB.out)⟩
                 ·rw [if_neg c62] at H
                  have c62b0 : (t176 == 0) = false := beq_eq_false_iff_ne.mpr c62
                  have c62b1 : (t176 != 0) = true := bne_iff_ne.mpr c62
                  by_cases c66 : x139003_4.length < 17592186044416
                  ·rw [if_pos c66] at H
                   have LMc66 := Aside0.mk c66
                   clear c66
                   obtain ⟨y177, hy177⟩ : ∃ y_ : List Int, y_ = (x139003_4 ++ [t175]) := ⟨_, rfl⟩
                   replace H : (if 0 ≤ t176 then (if t176 ≤ (x9_4.length : Int) then (spec_Message.l1 k4 x0_1 x5_1 (x9_4.drop (t176 : Int).toNat) t145 x139000_1 x139001_1 x139002_1 y177 x139004_1 x139005_1) else (none)) else (none)) = some (r1, r2, r3, r4, r5, r6, r7) := by first | (rw [hy177]; with_reducible exact H) | (have H2_ := (Option.bind_some _ _).symm.trans H; rw [hy177]; with_reducible exact H2_) | (have H2_ := (Option.bind_some _ _).symm.trans H; with_reducible exact H2_) | with_reducible exact H | (rw [hy177]; exact H) | exact H
                   have Ny177 := Aside0.mk hy177
                   clear hy177
                   by_cases c67 : 0 ≤ t176
                   ·rw [if_pos c67] at H
                    have c67b0 := eq_true c67
                    have c67b1 : decide (0 ≤ t176) = true := decide_eq_true c67
                    clear c67
                    by_cases c68 : t176 ≤ (x9_4.length : Int)
                    ·rw [if_pos c68] at H
                     have c68b0 := eq_true c68
                     have c68b1 : decide (t176 ≤ (x9_4.length : Int)) = true := decide_eq_true c68
                     clear c68
                     obtain ⟨y180, hy180⟩ : ∃ y_ : List Int, y_ = (x9_4.drop (t176 : Int).toNat) := ⟨_, rfl⟩
                     replace H : (spec_Message.l1 k4 x0_1 x5_1 y180 t145 x139000_1 x139001_1 x139002_1 y177 x139004_1 x139005_1) = some (r1, r2, r3, r4, r5, r6, r7) := by first | (rw [hy180]; with_reducible exact H) | (have H2_ := (Option.bind_some _ _).symm.trans H; rw [hy180]; with_reducible exact H2_) | (have H2_ := (Option.bind_some _ _).symm.trans H; with_reducible exact H2_) | with_reducible exact H | (rw [hy180]; exact H) | exact H
                     have Ny180 := Aside0.mk hy180
                     clear hy180
                     have H' := Aside0.mk H
                     clear H
                     obtain ⟨Ao69, co69, eo69⟩ := Kd.V_slice HO_9.out
                     subst eo69
                     go_wp2_with (first | ((with_reducible refine gate_callee (f := 47) rfl ?_); refine goesL_ (some 87) rfl rfl Tryd.func47 (by kernel_rfl) rfl #[.slice Ao69 x9_4.length co69] rfl (by (try simp only [List.map_toArray, List.map_cons, List.map_nil]); first | done | rfl | (simp only [List.length_drop, List.length_take]; rfl)) ?_; (with_reducible refine (spec_ReadUvarint.calls k4 _ _ x9_4 t175 t176 _ ?side1 ?side2 A61.out).mono ?_); (case side1 => repeat (first | exact (Kd.V_reads' HO_9.out).2.2 | (with_reducible refine Kd.C_alloc ?_ _) | (with_reducible refine Kd.C_drewN ?_ _) | (with_reducible refine Kd.C_drew ?_))); (case side2 => exact (Kd.V_reads' HO_9.out).2.1); rintro e w' ⟨rfl, ⟨nd, rfl⟩⟩; refine ⟨_, rfl, ?_⟩; (try (rw [drewN_self wr]; generalize hq_ : World.drewN wr _ = wr; have n0_ : Aside0 (Kd.V (Kd.int .u8) 5 wr w.heap.size (fun k_ => (P0_ k_ ∨ w.heap.size ≤ k_) ∧ some k_ ≠ (u139001 : Value).ownBlock ∧ some k_ ≠ (u139003 : Value).ownBlock ∧ k_ ≠ gb137 ∧ k_ ≠ gb138) (.slice Ao7 x0_1.length co7) x0_1) := ⟨by rw [← hq_]; exact (by (with_reducible repeat (first | apply Kd.V_alloc | apply Kd.V_drewN | apply Kd.V_drew)); exact HO_0.out)⟩; have n1_ : Aside0 (Kd.R (Kd.int .u8) 5 wr w.heap.size (fun k_ => (w.heap.size ≤ k_)) u139001 x139001_1) := ⟨by rw [← hq_]; exact (by (with_reducible repeat (first | apply Kd.R_alloc | apply Kd.R_drewN | apply Kd.R_drew)); exact HO_139001.out)⟩; have n2_ : Aside0 (Kd.R (Kd.int .u64) 24 wr w.heap.size (fun k_ => (w.heap.size ≤ k_)) u139003 x139003_4) := ⟨by rw [← hq_]; exact (by (with_reducible repeat (first | apply Kd.R_alloc | apply Kd.R_drewN | apply Kd.R_drew)); exact HO_139003.out)⟩; have n3_ : Aside0 (Kd.V (Kd.int .u8) 5 wr w.heap.size (fun k_ => (P0_ k_ ∨ w.heap.size ≤ k_) ∧ some k_ ≠ (u139001 : Value).ownBlock ∧ some k_ ≠ (u139003 : Value).ownBlock ∧ k_ ≠ gb137 ∧ k_ ≠ gb138) (.slice Ao69 x9_4.length co69) x9_4) := ⟨by rw [← hq_]; exact (by (with_reducible repeat (first | apply Kd.V_alloc | apply Kd.V_drewN | apply Kd.V_drew)); exact HO_9.out)⟩; have n4_ : Aside0 (wr.heap[gb137]? = some (.cells #[.int .i64 x138000_4, .slice none 0 0, .int .u64 x138002_4, .slice none 0 0, .int .u64 x138004_4, .int .u64 x138005_4] 56 (0, 0))) := ⟨by rw [← hq_]; exact (by (with_reducible repeat (first | refine blk_drewN ?_ _ | refine blk_drew ?_ | refine blk_alloc ?_ _)); exact BK137.out)⟩; have n5_ : Aside0 (wr.heap[gb138]? = some (.cells #[.int .i64 x139000_1, u139001, .int .u64 x139002_1, u139003, .int .u64 x139004_1, .int .u64 x139005_1] 56 (0, 0))) := ⟨by rw [← hq_]; exact (by (with_reducible repeat (first | refine blk_drewN ?_ _ | refine blk_drew ?_ | refine blk_alloc ?_ _)); exact BK138.out)⟩; have n6_ : Aside0 (Below w.heap.size w wr) := ⟨by rw [← hq_]; exact (by repeat (first | (with_reducible first | exact HB.out | apply below_alloc | apply pw_below_drewN | apply below_drew1 | refine below_set ?_ GE137.out | refine below_set ?_ GE138.out) | exact HB.out))⟩; clear HO_0 HO_139001 HO_139003 HO_9 BK137 BK138 HB hq_; have HO_0 := n0_; have HO_139001 := n1_; have HO_139003 := n2_; have HO_9 := n3_; have BK137 := n4_; have BK138 := n5_; have HB := n6_; clear n0_ n1_ n2_ n3_ n4_ n5_ n6_)); have hnb70 := NB138_137.out; have hnc70 := NB137_138.out; have hcz71_0 : wr.cell? ⟨gb138, 0, none⟩ = some (.int .i64 x139000_1) := (blk_cell BK138.out 0).trans rfl; have hcz71_1 : wr.cell? ⟨gb138, 1, none⟩ = some (u139001) := (blk_cell BK138.out 1).trans rfl; have hcz71_2 : wr.cell? ⟨gb138, 2, none⟩ = some (.int .u64 x139002_1) := (blk_cell BK138.out 2).trans rfl; have hcz71_3 : wr.cell? ⟨gb138, 3, none⟩ = some (u139003) := (blk_cell BK138.out 3).trans rfl; have hcz71_4 : wr.cell? ⟨gb138, 4, none⟩ = some (.int .u64 x139004_1) := (blk_cell BK138.out 4).trans rfl; have hcz71_5 : wr.cell? ⟨gb138, 5, none⟩ = some (.int .u64 x139005_1) := (blk_cell BK138.out 5).trans rfl; have hfz71_0 := blk_frozen BK138.out 0; have hfz71_1 := blk_frozen BK138.out 1; have hfz71_2 := blk_frozen BK138.out 2; have hfz71_3 := blk_frozen BK138.out 3; have hfz71_4 := blk_frozen BK138.out 4; have hfz71_5 := blk_frozen BK138.out 5) | ((with_reducible refine gate_builtin (b := .append) (xs := #[.tmp 94, .tmp 96]) rfl ?_); at_builtin; refine Kd.R_append (Kd.int .u64) (w0 := w) w.heap.size rfl (.tmp 94) (.tmp 96) 50 24 (.int .u64 0) 8 rfl Tryd.underlying50 info24 rfl (by decide) (by omega) u139003 x139003_4 t175 [.int .u64 t175] (fun k_ => (w.heap.size ≤ k_)) (fun _ => False) rfl rfl ?aP (fun _ hk => hk.elim) ?aF ?aO ?aB ?aS ?aL ?_; (case aP => exact rfl); (case aB => exact (by repeat (first | (with_reducible first | exact HB.out | apply below_alloc | apply pw_below_drewN | apply below_drew1 | refine below_set ?_ GE137.out | refine below_set ?_ GE138.out) | exact HB.out))); (case aF => exact (fun k_ hk => (Nat.le_trans (below_size (by repeat (first | (with_reducible first | exact HB.out | apply below_alloc | apply pw_below_drewN | apply below_drew1 | refine below_set ?_ GE137.out | refine below_set ?_ GE138.out) | exact HB.out))) hk))); (case aO => exact (by (with_reducible repeat (first | apply Kd.R_alloc | apply Kd.R_drewN | apply Kd.R_drew)); exact HO_139003.out)); (case aS => exact (below_size (by repeat (first | (with_reducible first | exact HB.out | apply below_alloc | apply pw_below_drewN | apply below_drew1 | refine below_set ?_ GE137.out | refine below_set ?_ GE138.out) | exact HB.out)))); (case aL => have := LMc66.out; omega); intro v178 w72 ho hb hg hat; rw [← Ny177.out] at ho; have n0_ := Aside0.mk (Kd.V_afterv (ok := (fun k_ => (P0_ k_ ∨ w.heap.size ≤ k_) ∧ some k_ ≠ (u139001 : Value).ownBlock ∧ k_ ≠ gb137 ∧ k_ ≠ gb138)) (by (with_reducible repeat (first | apply Kd.V_alloc | apply Kd.V_drewN | apply Kd.V_drew)); exact Kd.V_mono HO_0.out (fun _ hk => ⟨⟨hk.1, ⟨hk.2.1, ⟨hk.2.2.2.1, hk.2.2.2.2⟩⟩⟩, hk.2.2.1⟩)) hg hat); have n1_ := Aside0.mk (Kd.V_afterv (ok := (fun k_ => (P0_ k_ ∨ w.heap.size ≤ k_) ∧ some k_ ≠ (u139001 : Value).ownBlock ∧ k_ ≠ gb137 ∧ k_ ≠ gb138)) (by (with_reducible repeat (first | apply Kd.V_alloc | apply Kd.V_drewN | apply Kd.V_drew)); exact Kd.V_mono HO_9.out (fun _ hk => ⟨⟨hk.1, ⟨hk.2.1, ⟨hk.2.2.2.1, hk.2.2.2.2⟩⟩⟩, hk.2.2.1⟩)) hg hat); have n2_ := Aside0.mk (Kd.R_over' (by (with_reducible repeat (first | apply Kd.R_alloc | apply Kd.R_drewN | apply Kd.R_drew)); exact HO_139001.out) (Kd.R_typed (by (with_reducible repeat (first | apply Kd.R_alloc | apply Kd.R_drewN | apply Kd.R_drew)); exact HO_139003.out)) (by decide) hg); have n3_ := Aside0.mk (blk_grown (g := gb137) (o := .cells #[.int .i64 x138000_4, .slice none 0 0, .int .u64 x138002_4, .slice none 0 0, .int .u64 x138004_4, .int .u64 x138005_4] 56 (0, 0)) (by (with_reducible repeat (first | refine blk_drewN ?_ _ | refine blk_drew ?_ | refine blk_alloc ?_ _)); exact BK137.out) hg (Kd.R_ne HO_139003.out BK137.out (by decide))); have n4_ := Aside0.mk (blk_grown (g := gb138) (o := .cells #[.int .i64 x139000_1, u139001, .int .u64 x139002_1, u139003, .int .u64 x139004_1, .int .u64 x139005_1] 56 (0, 0)) (by (with_reducible repeat (first | refine blk_drewN ?_ _ | refine blk_drew ?_ | refine blk_alloc ?_ _)); exact BK138.out) hg (Kd.R_ne HO_139003.out BK138.out (by decide))); have n5_ := Aside0.mk (hb); have n6_ := Aside0.mk (ho); clear HO_0; clear HO_9; clear HO_139001; clear BK137; clear BK138; clear HB; clear HO_139003; have HO_0 := n0_; have HO_9 := n1_; have HO_139001 := n2_; have BK137 := n3_; have BK138 := n4_; have HB := n5_; have HO179 := n6_; clear n0_ n1_ n2_ n3_ n4_ n5_ n6_; clear ho hb hg hat; obtain ⟨Ao73, co73, eo73⟩ := Kd.R_slice HO179.out; subst eo73; have hcz74_0 : w72.cell? ⟨gb138, 0, none⟩ = some (.int .i64 x139000_1) := (blk_cell BK138.out 0).trans rfl; have hcz74_1 : w72.cell? ⟨gb138, 1, none⟩ = some (u139001) := (blk_cell BK138.out 1).trans rfl; have hcz74_2 : w72.cell? ⟨gb138, 2, none⟩ = some (.int .u64 x139002_1) := (blk_cell BK138.out 2).trans rfl; have hcz74_3 : w72.cell? ⟨gb138, 3, none⟩ = some (u139003) := (blk_cell BK138.out 3).trans rfl; have hcz74_4 : w72.cell? ⟨gb138, 4, none⟩ = some (.int .u64 x139004_1) := (blk_cell BK138.out 4).trans rfl; have hcz74_5 : w72.cell? ⟨gb138, 5, none⟩ = some (.int .u64 x139005_1) := (blk_cell BK138.out 5).trans rfl; have hfz74_0 := blk_frozen BK138.out 0; have hfz74_1 := blk_frozen BK138.out 1; have hfz74_2 := blk_frozen BK138.out 2; have hfz74_3 := blk_frozen BK138.out 3; have hfz74_4 := blk_frozen BK138.out 4; have hfz74_5 := blk_frozen BK138.out 5) | ((with_reducible refine gate_store (t := 50) (p := 98) rfl ?_); refine store_event (t := 50) (p := 98) (v := ?vo_w75) (w1 := (w72.setCell ⟨gb138, 3, none⟩ (.slice Ao73 y177.length co73))) ?hg ?ho ?hn ?hr ?_; (case ho => rfl); (case hg => rfl); (case hn => rfl); (case hr => first | (go_simp; done) | (go_simp; rfl)); intro w75 hw; have n0_ : Aside0 (Kd.V (Kd.int .u8) 5 w75 w.heap.size (fun k_ => (P0_ k_ ∨ w.heap.size ≤ k_) ∧ some k_ ≠ (u139001 : Value).ownBlock ∧ some k_ ≠ (.slice Ao73 y177.length co73 : Value).ownBlock ∧ k_ ≠ gb137 ∧ k_ ≠ gb138) (.slice Ao7 x0_1.length co7) x0_1) := ⟨(by rw [hw]; exact (by (with_reducible repeat (first | apply Kd.V_alloc | apply Kd.V_drewN | apply Kd.V_drew)); exact Kd.V_mono (Kd.V_far (p := ⟨gb138, 3, none⟩) (Kd.V_mono HO_0.out (fun k_ hk => (⟨hk, hk.1.2.2.2⟩ : _ ∧ k_ ≠ gb138))) (fun _ hk => hk.2) (.slice Ao73 y177.length co73)) (fun _ hk => ⟨hk.1.1.1, ⟨hk.1.1.2.1, ⟨hk.1.2, ⟨hk.1.1.2.2.1, hk.1.1.2.2.2⟩⟩⟩⟩)))⟩; have n1_ : Aside0 (Kd.V (Kd.int .u8) 5 w75 w.heap.size (fun k_ => (P0_ k_ ∨ w.heap.size ≤ k_) ∧ some k_ ≠ (u139001 : Value).ownBlock ∧ some k_ ≠ (.slice Ao73 y177.length co73 : Value).ownBlock ∧ k_ ≠ gb137 ∧ k_ ≠ gb138) (.slice Ao69 x9_4.length co69) x9_4) := ⟨(by rw [hw]; exact (by (with_reducible repeat (first | apply Kd.V_alloc | apply Kd.V_drewN | apply Kd.V_drew)); exact Kd.V_mono (Kd.V_far (p := ⟨gb138, 3, none⟩) (Kd.V_mono HO_9.out (fun k_ hk => (⟨hk, hk.1.2.2.2⟩ : _ ∧ k_ ≠ gb138))) (fun _ hk => hk.2) (.slice Ao73 y177.length co73)) (fun _ hk => ⟨hk.1.1.1, ⟨hk.1.1.2.1, ⟨hk.1.2, ⟨hk.1.1.2.2.1, hk.1.1.2.2.2⟩⟩⟩⟩)))⟩; have n2_ : Aside0 (Kd.R (Kd.int .u8) 5 w75 w.heap.size (fun k_ => (w.heap.size ≤ k_)) u139001 x139001_1) := ⟨(by rw [hw]; exact (by (with_reducible repeat (first | apply Kd.R_alloc | apply Kd.R_drewN | apply Kd.R_drew)); exact Kd.R_mono (Kd.R_far (p := ⟨gb138, 3, none⟩) (Kd.R_types HO_139001.out BK138.out (by decide)) (fun _ hk => hk.2) (.slice Ao73 y177.length co73)) (fun _ hk => hk.1)))⟩; have n3_ : Aside0 (Kd.R (Kd.int .u64) 24 w75 w.heap.size (fun k_ => (w.heap.size ≤ k_)) (.slice Ao73 y177.length co73) y177) := ⟨(by rw [hw]; exact (by (with_reducible repeat (first | apply Kd.R_alloc | apply Kd.R_drewN | apply Kd.R_drew)); exact Kd.R_mono (Kd.R_far (p := ⟨gb138, 3, none⟩) (Kd.R_types HO179.out BK138.out (by decide)) (fun _ hk => hk.2) (.slice Ao73 y177.length co73)) (fun _ hk => hk.1)))⟩; have n4_ : Aside0 (w75.heap[gb137]? = some (.cells #[.int .i64 x138000_4, .slice none 0 0, .int .u64 x138002_4, .slice none 0 0, .int .u64 x138004_4, .int .u64 x138005_4] 56 (0, 0))) := ⟨(by rw [hw]; exact (by (with_reducible repeat (first | refine blk_drewN ?_ _ | refine blk_drew ?_ | refine blk_alloc ?_ _)); refine blk_far ?_ NB137_138.out _; (with_reducible repeat (first | refine blk_drewN ?_ _ | refine blk_drew ?_ | refine blk_alloc ?_ _)); exact BK137.out))⟩; have n5_ : Aside0 (w75.heap[gb138]? = some (.cells #[.int .i64 x139000_1, u139001, .int .u64 x139002_1, .slice Ao73 y177.length co73, .int .u64 x139004_1, .int .u64 x139005_1] 56 (0, 0))) := ⟨(by rw [hw]; exact (by (with_reducible repeat (first | refine blk_drewN ?_ _ | refine blk_drew ?_ | refine blk_alloc ?_ _)); refine blk_put (cs := #[.int .i64 x139000_1, u139001, .int .u64 x139002_1, u139003, .int .u64 x139004_1, .int .u64 x139005_1]) ?_ 3 _ rfl; (with_reducible repeat (first | refine blk_drewN ?_ _ | refine blk_drew ?_ | refine blk_alloc ?_ _)); exact BK138.out))⟩; have n6_ : Aside0 (Below w.heap.size w w75) := ⟨(by rw [hw]; exact (by repeat (first | (with_reducible first | exact HB.out | apply below_alloc | apply pw_below_drewN | apply below_drew1 | refine below_set ?_ GE137.out | refine below_set ?_ GE138.out) | exact HB.out)))⟩; clear hw; clear HO_0; clear HO_9; clear HO_139001; clear HO179; clear BK137; clear BK138; clear HB; have HO_0 := n0_; have HO_9 := n1_; have HO_139001 := n2_; have HO179 := n3_; have BK137 := n4_; have BK138 := n5_; have HB := n6_; clear n0_ n1_ n2_ n3_ n4_ n5_ n6_; have q76 : (t176 : Int) ≤ ((x9_4.length : Int) : Int) := of_decide_eq_true (by first | (with_reducible assumption) | assumption); obtain ⟨i076, hi076, _, hsz76, _⟩ := info_parts info5; have hroom76 : x9_4.length ≤ co69 := (Kd.V_reads' HO_9.out).2.1; have hC76 : Kd.F (Kd.int .u8) _ _ Ao69 x9_4.length x9_4 := (Kd.V_at (base := w.heap.size) HO_9.out).2.2; have q076 : (0 : Int) ≤ (t176 : Int) := of_decide_eq_true (by first | (with_reducible assumption) | assumption); have hcut76 := cut_from (P := Tryd.prog) 22 5 .i64 Tryd.underlying22 hi076 1 hsz76 Ao69 x9_4.length co69 t176 q076 q76; have hr76 := Kd.F_cut (m := (t176 : Int).toNat) (c := co69) hC76 (by omega) hroom76; obtain ⟨A76, hA76⟩ : ∃ A1, A1 = (if co69 = (t176 : Int).toNat then Ao69 else (Ao69 : Option Addr).map (·.add ((t176 : Int).toNat * 1))) := ⟨_, rfl⟩; obtain ⟨c76, hc76⟩ : ∃ c1, c1 = co69 - (t176 : Int).toNat := ⟨_, rfl⟩; have hy76 : y180.length = x9_4.length - (t176 : Int).toNat := (by rw [Ny180.out, List.length_drop] <;> omega); rw [show (x9_4).drop (t176 : Int).toNat = y180 from Ny180.out.symm] at hr76; replace hr76 : Kd.F (Kd.int .u8) _ _ A76 y180.length y180 := (by rw [hA76]; exact hr76); rw [← hy76, ← hA76, ← hc76] at hcut76; have HO184 := Aside0.mk (show Kd.V (Kd.int .u8) 5 _ w.heap.size _ (.slice A76 y180.length c76) y180 from Kd.V_mk (by rw [hy76, hc76]; exact Nat.sub_le_sub_right hroom76 _) hr76); have HC184 := Aside0.mk (show y180.length ≤ c76 from by rw [hy76, hc76]; exact Nat.sub_le_sub_right hroom76 _); clear hr76 hC76 hroom76 hi076 hsz76 hc76; have KY76 := Aside0.mk hy76; have KA76 := Aside0.mk hA76; clear hy76 hA76; replace q76 := eq_true q76))
                     go_roundg k4
                     case measure => have := HK1.out; have := HJ5.out; have := HJ45.out; have := HK4.out; omega
                     case rel => exact ⟨(y180), (x138000_4), (x138002_4), (x138004_4), (x138005_4), (y177), (.slice Ao73 y177.length co73), H', ⟨by have := HK1.out; have := HJ5.out; have := HJ45.out; have := HK4.out; omega⟩, ⟨by (with_reducible repeat (first | apply Kd.V_alloc | apply Kd.V_drewN | apply Kd.V_drew)); exact HO_0.out⟩, ⟨by (with_reducible repeat (first | apply Kd.V_alloc | apply Kd.V_drewN | apply Kd.V_drew)); exact HO184.out⟩, ⟨by (with_reducible repeat (first | apply Kd.R_alloc | apply Kd.R_drewN | apply Kd.R_drew)); exact HO_139001.out⟩, ⟨by (with_reducible repeat (first | apply Kd.R_alloc | apply Kd.R_drewN | apply Kd.R_drew)); exact HO179.out⟩, ⟨by (with_reducible repeat (first | refine blk_drewN ?_ _ | refine blk_drew ?_ | refine blk_alloc ?_ _)); exact BK137.out⟩, ⟨by (with_reducible repeat (first | refine blk_drewN ?_ _ | refine blk_drew ?_ | refine blk_alloc ?_ _)); exact BK138.out⟩, ⟨by repeat (first | (with_reducible first | exact HB.out | apply below_alloc | apply pw_below_drewN | apply below_drew1 | refine below_set ?_ GE137.out | refine below_set ?_ GE138.out) | exact HB.out)⟩⟩
                    ·rw [if_neg c68] at H
                     exact absurd H (by simp)
                   ·rw [if_neg c67] at H
                    exact absurd H (by simp)
                  ·rw [if_neg c66] at H
                   exact absurd H (by simp)
                ·rw [if_neg c60] at H
                 have c60b0 : decide (0 < (x9_4.length : Int)) = false := decide_eq_false c60
                 have c60b1 : decide (0 < x9_4.length) = false := decide_eq_false (by omega)
                 clear c60
                 by_cases c77 : 0 ≤ t145
                 ·rw [if_pos c77] at H
                  have c77b0 := eq_true c77
                  have c77b1 : decide (0 ≤ t145) = true := decide_eq_true c77
                  clear c77
                  by_cases c78 : t145 ≤ (x0_1.length : Int)
                  ·rw [if_pos c78] at H
                   have c78b0 := eq_true c78
                   have c78b1 : decide (t145 ≤ (x0_1.length : Int)) = true := decide_eq_true c78
                   clear c78
                   obtain ⟨y185, hy185⟩ : ∃ y_ : List Int, y_ = (x0_1.drop (t145 : Int).toNat) := ⟨_, rfl⟩
                   replace H : (spec_Message.l0 k4 y185 x5_1 x139000_1 x139001_1 x139002_1 x139003_4 x139004_1 x139005_1) = some (r1, r2, r3, r4, r5, r6, r7) := by first | (rw [hy185]; with_reducible exact H) | (have H2_ := (Option.bind_some _ _).symm.trans H; rw [hy185]; with_reducible exact H2_) | (have H2_ := (Option.bind_some _ _).symm.trans H; with_reducible exact H2_) | with_reducible exact H | (rw [hy185]; exact H) | exact H
                   have Ny185 := Aside0.mk hy185
                   clear hy185
                   have H' := Aside0.mk H
                   clear H
                   obtain ⟨Ao79, co79, eo79⟩ := Kd.V_slice HO_9.out
                   subst eo79
                   have q80 : (t145 : Int) ≤ ((x0_1.length : Int) : Int) := of_decide_eq_true (by first | (with_reducible assumption) | assumption)
                   obtain ⟨i080, hi080, _, hsz80, _⟩ := info_parts info5
                   have hroom80 : x0_1.length ≤ co7 := (Kd.V_reads' HO_0.out).2.1
                   have hC80 : Kd.F (Kd.int .u8) _ _ Ao7 x0_1.length x0_1 := (Kd.V_at (base := w.heap.size) HO_0.out).2.2
                   have q080 : (0 : Int) ≤ (t145 : Int) := of_decide_eq_true (by first | (with_reducible assumption) | assumption)
                   have hcut80 := cut_from (P := Tryd.prog) 22 5 .i64 Tryd.underlying22 hi080 1 hsz80 Ao7 x0_1.length co7 t145 q080 q80
                   have hr80 := Kd.F_cut (m := (t145 : Int).toNat) (c := co7) hC80 (by omega) hroom80
                   obtain ⟨A80, hA80⟩ : ∃ A1, A1 = (if co7 = (t145 : Int).toNat then Ao7 else (Ao7 : Option Addr).map (·.add ((t145 : Int).toNat * 1))) := ⟨_, rfl⟩
                   obtain ⟨c80, hc80⟩ : ∃ c1, c1 = co7 - (t145 : Int).toNat := ⟨_, rfl⟩
                   have hy80 : y185.length = x0_1.length - (t145 : Int).toNat := (by rw [Ny185.out, List.length_drop] <;> omega)
                   rw [show (x0_1).drop (t145 : Int).toNat = y185 from Ny185.out.symm] at hr80
                   replace hr80 : Kd.F (Kd.int .u8) _ _ A80 y185.length y185 := (by rw [hA80]; exact hr80)
                   rw [← hy80, ← hA80, ← hc80] at hcut80
                   have HO189 := Aside0.mk (show Kd.V (Kd.int .u8) 5 _ w.heap.size _ (.slice A80 y185.length c80) y185 from Kd.V_mk (by rw [hy80, hc80]; exact Nat.sub_le_sub_right hroom80 _) hr80)
                   have HC189 := Aside0.mk (show y185.length ≤ c80 from by rw [hy80, hc80]; exact Nat.sub_le_sub_right hroom80 _)
                   clear hr80 hC80 hroom80 hi080 hsz80 hc80
                   have KY80 := Aside0.mk hy80
                   have KA80 := Aside0.mk hA80
                   clear hy80 hA80
                   replace q80 := eq_true q80
                   go_wp2
                   go_roundg k4
                   case measure => have := HK1.out; have := HJ5.out; have := HJ45.out; have := HK4.out; omega
                   case rel => exact ⟨(y185), (x5_1), (x138000_4), (x138002_4), (x138004_4), (x138005_4), (x139000_1), (x139001_1), (x139002_1), (x139003_4), (x139004_1), (x139005_1), (u139001), (u139003), (by first | rfl | (simp; done) | (simp [*]; done)), H', ⟨by have := HK1.out; have := HJ5.out; have := HJ45.out; have := HK4.out; omega⟩, ⟨by (with_reducible repeat (first | apply Kd.V_alloc | apply Kd.V_drewN | apply Kd.V_drew)); exact HO189.out⟩, ⟨by (with_reducible repeat (first | apply Kd.R_alloc | apply Kd.R_drewN | apply Kd.R_drew)); exact HO_139001.out⟩, ⟨by (with_reducible repeat (first | apply Kd.R_alloc | apply Kd.R_drewN | apply Kd.R_drew)); exact HO_139003.out⟩, ⟨by (with_reducible repeat (first | refine blk_drewN ?_ _ | refine blk_drew ?_ | refine blk_alloc ?_ _)); exact BK137.out⟩, ⟨by (with_reducible repeat (first | refine blk_drewN ?_ _ | refine blk_drew ?_ | refine blk_alloc ?_ _)); exact BK138.out⟩, ⟨by repeat (first | (with_reducible first | exact HB.out | apply below_alloc | apply pw_below_drewN | apply below_drew1 | refine below_set ?_ GE137.out | refine below_set ?_ GE138.out) | exact HB.out)⟩⟩
                  ·rw [if_neg c78] at H
                   exact absurd H (by simp)
                 ·rw [if_neg c77] at H
                  exact absurd H (by simp)
             ·rw [if_neg c59] at H
              have c59b0 : (t139 == 4) = false := beq_eq_false_iff_ne.mpr c59
              have c59b1 : (t139 != 4) = true := bne_iff_ne.mpr c59
              by_cases c81 : t139 = 5
              ·rw [if_pos c81] at H
               have c81b0 : (t139 == 5) = true := beq_iff_eq.mpr c81
               have c81b1 : (t139 != 5) = false := bne_eq_false_iff_eq.mpr c81
               clear c81
               by_cases c82 : 0 ≤ t145
               ·rw [if_pos c82] at H
                have c82b0 := eq_true c82
                have c82b1 : decide (0 ≤ t145) = true := decide_eq_true c82
                clear c82
                by_cases c83 : t145 ≤ (x0_1.length : Int)
                ·rw [if_pos c83] at H
                 have c83b0 := eq_true c83
                 have c83b1 : decide (t145 ≤ (x0_1.length : Int)) = true := decide_eq_true c83
                 clear c83
                 obtain ⟨y190, hy190⟩ : ∃ y_ : List Int, y_ = (x0_1.drop (t145 : Int).toNat) := ⟨_, rfl⟩
                 replace H : (spec_Message.l0 kj45 y190 x5_1 x139000_1 x139001_1 x139002_1 x139003_1 t141 x139005_1) = some (r1, r2, r3, r4, r5, r6, r7) := by first | (rw [hy190]; with_reducible exact H) | (have H2_ := (Option.bind_some _ _).symm.trans H; rw [hy190]; with_reducible exact H2_) | (have H2_ := (Option.bind_some _ _).symm.trans H; with_reducible exact H2_) | with_reducible exact H | (rw [hy190]; exact H) | exact H
                 have Ny190 := Aside0.mk hy190
                 clear hy190
                 have H' := Aside0.mk H
                 clear H
                 have hnb84 := NB138_137.out
                 have hnc84 := NB137_138.out
                 have hcz85_0 : wc.cell? ⟨gb138, 0, none⟩ = some (.int .i64 x139000_1) := (blk_cell BK138.out 0).trans rfl
                 have hcz85_1 : wc.cell? ⟨gb138, 1, none⟩ = some (u139001) := (blk_cell BK138.out 1).trans rfl
                 have hcz85_2 : wc.cell? ⟨gb138, 2, none⟩ = some (.int .u64 x139002_1) := (blk_cell BK138.out 2).trans rfl
                 have hcz85_3 : wc.cell? ⟨gb138, 3, none⟩ = some (u139003) := (blk_cell BK138.out 3).trans rfl
                 have hcz85_4 : wc.cell? ⟨gb138, 4, none⟩ = some (.int .u64 x139004_1) := (blk_cell BK138.out 4).trans rfl
                 have hcz85_5 : wc.cell? ⟨gb138, 5, none⟩ = some (.int .u64 x139005_1) := (blk_cell BK138.out 5).trans rfl
                 have hfz85_0 := blk_frozen BK138.out 0
                 have hfz85_1 := blk_frozen BK138.out 1
                 have hfz85_2 := blk_frozen BK138.out 2
                 have hfz85_3 := blk_frozen BK138.out 3
                 have hfz85_4 := blk_frozen BK138.out 4
                 have hfz85_5 := blk_frozen BK138.out 5
                 go_wp2_with (first | ((with_reducible refine gate_store (t := 24) (p := 106) rfl ?_); refine store_event (t := 24) (p := 106) (v := ?vo_w86) (w1 := (wc.setCell ⟨gb138, 4, none⟩ (.int .u64 t141))) ?hg ?ho ?hn ?hr ?_; (case ho => rfl); (case hg => rfl); (case hn => rfl); (case hr => first | (go_simp; done) | (go_simp; rfl)); intro w86 hw; have n0_ : Aside0 (Kd.V (Kd.int .u8) 5 w86 w.heap.size (fun k_ => (P0_ k_ ∨ w.heap.size ≤ k_) ∧ some k_ ≠ (u139001 : Value).ownBlock ∧ some k_ ≠ (u139003 : Value).ownBlock ∧ k_ ≠ gb137 ∧ k_ ≠ gb138) (.slice Ao7 x0_1.length co7) x0_1) := ⟨(by rw [hw]; exact (by (with_reducible repeat (first | apply Kd.V_alloc | apply Kd.V_drewN | apply Kd.V_drew)); exact Kd.V_mono (Kd.V_far (p := ⟨gb138, 4, none⟩) (Kd.V_mono HO_0.out (fun k_ hk => (⟨hk, hk.2.2.2.2⟩ : _ ∧ k_ ≠ gb138))) (fun _ hk => hk.2) (.int .u64 t141)) (fun _ hk => ⟨hk.1.1, ⟨hk.1.2.1, ⟨hk.1.2.2.1, ⟨hk.1.2.2.2.1, hk.1.2.2.2.2⟩⟩⟩⟩)))⟩; have n1_ : Aside0 (Kd.V (Kd.int .u8) 5 w86 w.heap.size (fun k_ => (P0_ k_ ∨ w.heap.size ≤ k_) ∧ some k_ ≠ (u139001 : Value).ownBlock ∧ some k_ ≠ (u139003 : Value).ownBlock ∧ k_ ≠ gb137 ∧ k_ ≠ gb138) v143 t142) := ⟨(by rw [hw]; exact (by (with_reducible repeat (first | apply Kd.V_alloc | apply Kd.V_drewN | apply Kd.V_drew)); exact Kd.V_mono (Kd.V_far (p := ⟨gb138, 4, none⟩) (Kd.V_mono HO_9.out (fun k_ hk => (⟨hk, hk.2.2.2.2⟩ : _ ∧ k_ ≠ gb138))) (fun _ hk => hk.2) (.int .u64 t141)) (fun _ hk => ⟨hk.1.1, ⟨hk.1.2.1, ⟨hk.1.2.2.1, ⟨hk.1.2.2.2.1, hk.1.2.2.2.2⟩⟩⟩⟩)))⟩; have n2_ : Aside0 (Kd.R (Kd.int .u8) 5 w86 w.heap.size (fun k_ => (w.heap.size ≤ k_)) u139001 x139001_1) := ⟨(by rw [hw]; exact (by (with_reducible repeat (first | apply Kd.R_alloc | apply Kd.R_drewN | apply Kd.R_drew)); exact Kd.R_mono (Kd.R_far (p := ⟨gb138, 4, none⟩) (Kd.R_types HO_139001.out BK138.out (by decide)) (fun _ hk => hk.2) (.int .u64 t141)) (fun _ hk => hk.1)))⟩; have n3_ : Aside0 (Kd.R (Kd.int .u64) 24 w86 w.heap.size (fun k_ => (w.heap.size ≤ k_)) u139003 x139003_1) := ⟨(by rw [hw]; exact (by (with_reducible repeat (first | apply Kd.R_alloc | apply Kd.R_drewN | apply Kd.R_drew)); exact Kd.R_mono (Kd.R_far (p := ⟨gb138, 4, none⟩) (Kd.R_types HO_139003.out BK138.out (by decide)) (fun _ hk => hk.2) (.int .u64 t141)) (fun _ hk => hk.1)))⟩; have n4_ : Aside0 (w86.heap[gb137]? = some (.cells #[.int .i64 x138000_1, .slice none 0 0, .int .u64 x138002_1, .slice none 0 0, .int .u64 x138004_1, .int .u64 x138005_1] 56 (0, 0))) := ⟨(by rw [hw]; exact (by (with_reducible repeat (first | refine blk_drewN ?_ _ | refine blk_drew ?_ | refine blk_alloc ?_ _)); refine blk_far ?_ NB137_138.out _; (with_reducible repeat (first | refine blk_drewN ?_ _ | refine blk_drew ?_ | refine blk_alloc ?_ _)); exact BK137.out))⟩; have n5_ : Aside0 (w86.heap[gb138]? = some (.cells #[.int .i64 x139000_1, u139001, .int .u64 x139002_1, u139003, .int .u64 t141, .int .u64 x139005_1] 56 (0, 0))) := ⟨(by rw [hw]; exact (by (with_reducible repeat (first | refine blk_drewN ?_ _ | refine blk_drew ?_ | refine blk_alloc ?_ _)); refine blk_put (cs := #[.int .i64 x139000_1, u139001, .int .u64 x139002_1, u139003, .int .u64 x139004_1, .int .u64 x139005_1]) ?_ 4 _ rfl; (with_reducible repeat (first | refine blk_drewN ?_ _ | refine blk_drew ?_ | refine blk_alloc ?_ _)); exact BK138.out))⟩; have n6_ : Aside0 (Below w.heap.size w w86) := ⟨(by rw [hw]; exact (by repeat (first | (with_reducible first | exact HB.out | apply below_alloc | apply pw_below_drewN | apply below_drew1 | refine below_set ?_ GE137.out | refine below_set ?_ GE138.out) | exact HB.out)))⟩; clear hw; clear HO_0; clear HO_9; clear HO_139001; clear HO_139003; clear BK137; clear BK138; clear HB; have HO_0 := n0_; have HO_9 := n1_; have HO_139001 := n2_; have HO_139003 := n3_; have BK137 := n4_; have BK138 := n5_; have HB := n6_; clear n0_ n1_ n2_ n3_ n4_ n5_ n6_; have q87 : (t145 : Int) ≤ ((x0_1.length : Int) : Int) := of_decide_eq_true (by first | (with_reducible assumption) | assumption); obtain ⟨i087, hi087, _, hsz87, _⟩ := info_parts info5; have hroom87 : x0_1.length ≤ co7 := (Kd.V_reads' HO_0.out).2.1; have hC87 : Kd.F (Kd.int .u8) _ _ Ao7 x0_1.length x0_1 := (Kd.V_at (base := w.heap.size) HO_0.out).2.2; have q087 : (0 : Int) ≤ (t145 : Int) := of_decide_eq_true (by first | (with_reducible assumption) | assumption); have hcut87 := cut_from (P := Tryd.prog) 22 5 .i64 Tryd.underlying22 hi087 1 hsz87 Ao7 x0_1.length co7 t145 q087 q87; have hr87 := Kd.F_cut (m := (t145 : Int).toNat) (c := co7) hC87 (by omega) hroom87; obtain ⟨A87, hA87⟩ : ∃ A1, A1 = (if co7 = (t145 : Int).toNat then Ao7 else (Ao7 : Option Addr).map (·.add ((t145 : Int).toNat * 1))) := ⟨_, rfl⟩; obtain ⟨c87, hc87⟩ : ∃ c1, c1 = co7 - (t145 : Int).toNat := ⟨_, rfl⟩; have hy87 : y190.length = x0_1.length - (t145 : Int).toNat := (by rw [Ny190.out, List.length_drop] <;> omega); rw [show (x0_1).drop (t145 : Int).toNat = y190 from Ny190.out.symm] at hr87; replace hr87 : Kd.F (Kd.int .u8) _ _ A87 y190.length y190 := (by rw [hA87]; exact hr87); rw [← hy87, ← hA87, ← hc87] at hcut87; have HO194 := Aside0.mk (show Kd.V (Kd.int .u8) 5 _ w.heap.size _ (.slice A87 y190.length c87) y190 from Kd.V_mk (by rw [hy87, hc87]; exact Nat.sub_le_sub_right hroom87 _) hr87); have HC194 := Aside0.mk (show y190.length ≤ c87 from by rw [hy87, hc87]; exact Nat.sub_le_sub_right hroom87 _); clear hr87 hC87 hroom87 hi087 hsz87 hc87; have KY87 := Aside0.mk hy87; have KA87 := Aside0.mk hA87; clear hy87 hA87; replace q87 := eq_true q87))
                 go_roundg kj45
                 case measure => have := HK1.out; have := HJ5.out; have := HJ45.out; omega
                 case rel => exact ⟨(y190), (x5_1), (x138000_1), (x138002_1), (x138004_1), (x138005_1), (x139000_1), (x139001_1), (x139002_1), (x139003_1), (t141), (x139005_1), (u139001), (u139003), (by first | rfl | (simp; done) | (simp [*]; done)), H', ⟨by have := HK1.out; have := HJ5.out; have := HJ45.out; omega⟩, ⟨by (with_reducible repeat (first | apply Kd.V_alloc | apply Kd.V_drewN | apply Kd.V_drew)); exact HO194.out⟩, ⟨by (with_reducible repeat (first | apply Kd.R_alloc | apply Kd.R_drewN | apply Kd.R_drew)); exact HO_139001.out⟩, ⟨by (with_reducible repeat (first | apply Kd.R_alloc | apply Kd.R_drewN | apply Kd.R_drew)); exact HO_139003.out⟩, ⟨by (with_reducible repeat (first | refine blk_drewN ?_ _ | refine blk_drew ?_ | refine blk_alloc ?_ _)); exact BK137.out⟩, ⟨by (with_reducible repeat (first | refine blk_drewN ?_ _ | refine blk_drew ?_ | refine blk_alloc ?_ _)); exact BK138.out⟩, ⟨by repeat (first | (with_reducible first | exact HB.out | apply below_alloc | apply pw_below_drewN | apply below_drew1 | refine below_set ?_ GE137.out | refine below_set ?_ GE138.out) | exact HB.out)⟩⟩
                ·rw [if_neg c83] at H
                 exact absurd H (by simp)
               ·rw [if_neg c82] at H
                exact absurd H (by simp)
              ·rw [if_neg c81] at H
               have c81b0 : (t139 == 5) = false := beq_eq_false_iff_ne.mpr c81
               have c81b1 : (t139 != 5) = true := bne_iff_ne.mpr c81
               by_cases c88 : t139 = 6
               ·rw [if_pos c88] at H
                have c88b0 : (t139 == 6) = true := beq_iff_eq.mpr c88
                have c88b1 : (t139 != 6) = false := bne_eq_false_iff_eq.mpr c88
                clear c88
                by_cases c89 : 0 ≤ t145
                ·rw [if_pos c89] at H
                 have c89b0 := eq_true c89
                 have c89b1 : decide (0 ≤ t145) = true := decide_eq_true c89
                 clear c89
                 by_cases c90 : t145 ≤ (x0_1.length : Int)
                 ·rw [if_pos c90] at H
                  have c90b0 := eq_true c90
                  have c90b1 : decide (t145 ≤ (x0_1.length : Int)) = true := decide_eq_true c90
                  clear c90
                  obtain ⟨y195, hy195⟩ : ∃ y_ : List Int, y_ = (x0_1.drop (t145 : Int).toNat) := ⟨_, rfl⟩
                  replace H : (spec_Message.l0 kj45 y195 x5_1 x139000_1 x139001_1 x139002_1 x139003_1 x139004_1 t141) = some (r1, r2, r3, r4, r5, r6, r7) := by first | (rw [hy195]; with_reducible exact H) | (have H2_ := (Option.bind_some _ _).symm.trans H; rw [hy195]; with_reducible exact H2_) | (have H2_ := (Option.bind_some _ _).symm.trans H; with_reducible exact H2_) | with_reducible exact H | (rw [hy195]; exact H) | exact H
                  have Ny195 := Aside0.mk hy195
                  clear hy195
                  have H' := Aside0.mk H
                  clear H
                  have hnb91 := NB138_137.out
                  have hnc91 := NB137_138.out
                  have hcz92_0 : wc.cell? ⟨gb138, 0, none⟩ = some (.int .i64 x139000_1) := (blk_cell BK138.out 0).trans rfl
                  have hcz92_1 : wc.cell? ⟨gb138, 1, none⟩ = some (u139001) := (blk_cell BK138.out 1).trans rfl
                  have hcz92_2 : wc.cell? ⟨gb138, 2, none⟩ = some (.int .u64 x139002_1) := (blk_cell BK138.out 2).trans rfl
                  have hcz92_3 : wc.cell? ⟨gb138, 3, none⟩ = some (u139003) := (blk_cell BK138.out 3).trans rfl
                  have hcz92_4 : wc.cell? ⟨gb138, 4, none⟩ = some (.int .u64 x139004_1) := (blk_cell BK138.out 4).trans rfl
                  have hcz92_5 : wc.cell? ⟨gb138, 5, none⟩ = some (.int .u64 x139005_1) := (blk_cell BK138.out 5).trans rfl
                  have hfz92_0 := blk_frozen BK138.out 0
                  have hfz92_1 := blk_frozen BK138.out 1
                  have hfz92_2 := blk_frozen BK138.out 2
                  have hfz92_3 := blk_frozen BK138.out 3
                  have hfz92_4 := blk_frozen BK138.out 4
                  have hfz92_5 := blk_frozen BK138.out 5
                  go_wp2_with (first | ((with_reducible refine gate_store (t := 24) (p := 111) rfl ?_); refine store_event (t := 24) (p := 111) (v := ?vo_w93) (w1 := (wc.setCell ⟨gb138, 5, none⟩ (.int .u64 t141))) ?hg ?ho ?hn ?hr ?_; (case ho => rfl); (case hg => rfl); (case hn => rfl); (case hr => first | (go_simp; done) | (go_simp; rfl)); intro w93 hw; have n0_ : Aside0 (Kd.V (Kd.int .u8) 5 w93 w.heap.size (fun k_ => (P0_ k_ ∨ w.heap.size ≤ k_) ∧ some k_ ≠ (u139001 : Value).ownBlock ∧ some k_ ≠ (u139003 : Value).ownBlock ∧ k_ ≠ gb137 ∧ k_ ≠ gb138) (.slice Ao7 x0_1.length co7) x0_1) := ⟨(by rw [hw]; exact (by (with_reducible repeat (first | apply Kd.V_alloc | apply Kd.V_drewN | apply Kd.V_drew)); exact Kd.V_mono (Kd.V_far (p := ⟨gb138, 5, none⟩) (Kd.V_mono HO_0.out (fun k_ hk => (⟨hk, hk.2.2.2.2⟩ : _ ∧ k_ ≠ gb138))) (fun _ hk => hk.2) (.int .u64 t141)) (fun _ hk => ⟨hk.1.1, ⟨hk.1.2.1, ⟨hk.1.2.2.1, ⟨hk.1.2.2.2.1, hk.1.2.2.2.2⟩⟩⟩⟩)))⟩; have n1_ : Aside0 (Kd.V (Kd.int .u8) 5 w93 w.heap.size (fun k_ => (P0_ k_ ∨ w.heap.size ≤ k_) ∧ some k_ ≠ (u139001 : Value).ownBlock ∧ some k_ ≠ (u139003 : Value).ownBlock ∧ k_ ≠ gb137 ∧ k_ ≠ gb138) v143 t142) := ⟨(by rw [hw]; exact (by (with_reducible repeat (first | apply Kd.V_alloc | apply Kd.V_drewN | apply Kd.V_drew)); exact Kd.V_mono (Kd.V_far (p := ⟨gb138, 5, none⟩) (Kd.V_mono HO_9.out (fun k_ hk => (⟨hk, hk.2.2.2.2⟩ : _ ∧ k_ ≠ gb138))) (fun _ hk => hk.2) (.int .u64 t141)) (fun _ hk => ⟨hk.1.1, ⟨hk.1.2.1, ⟨hk.1.2.2.1, ⟨hk.1.2.2.2.1, hk.1.2.2.2.2⟩⟩⟩⟩)))⟩; have n2_ : Aside0 (Kd.R (Kd.int .u8) 5 w93 w.heap.size (fun k_ => (w.heap.size ≤ k_)) u139001 x139001_1) := ⟨(by rw [hw]; exact (by (with_reducible repeat (first | apply Kd.R_alloc | apply Kd.R_drewN | apply Kd.R_drew)); exact Kd.R_mono (Kd.R_far (p := ⟨gb138, 5, none⟩) (Kd.R_types HO_139001.out BK138.out (by decide)) (fun _ hk => hk.2) (.int .u64 t141)) (fun _ hk => hk.1)))⟩; have n3_ : Aside0 (Kd.R (Kd.int .u64) 24 w93 w.heap.size (fun k_ => (w.heap.size ≤ k_)) u139003 x139003_1) := ⟨(by rw [hw]; exact (by (with_reducible repeat (first | apply Kd.R_alloc | apply Kd.R_drewN | apply Kd.R_drew)); exact Kd.R_mono (Kd.R_far (p := ⟨gb138, 5, none⟩) (Kd.R_types HO_139003.out BK138.out (by decide)) (fun _ hk => hk.2) (.int .u64 t141)) (fun _ hk => hk.1)))⟩; have n4_ : Aside0 (w93.heap[gb137]? = some (.cells #[.int .i64 x138000_1, .slice none 0 0, .int .u64 x138002_1, .slice none 0 0, .int .u64 x138004_1, .int .u64 x138005_1] 56 (0, 0))) := ⟨(by rw [hw]; exact (by (with_reducible repeat (first | refine blk_drewN ?_ _ | refine blk_drew ?_ | refine blk_alloc ?_ _)); refine blk_far ?_ NB137_138.out _; (with_reducible repeat (first | refine blk_drewN ?_ _ | refine blk_drew ?_ | refine blk_alloc ?_ _)); exact BK137.out))⟩; have n5_ : Aside0 (w93.heap[gb138]? = some (.cells #[.int .i64 x139000_1, u139001, .int .u64 x139002_1, u139003, .int .u64 x139004_1, .int .u64 t141] 56 (0, 0))) := ⟨(by rw [hw]; exact (by (with_reducible repeat (first | refine blk_drewN ?_ _ | refine blk_drew ?_ | refine blk_alloc ?_ _)); refine blk_put (cs := #[.int .i64 x139000_1, u139001, .int .u64 x139002_1, u139003, .int .u64 x139004_1, .int .u64 x139005_1]) ?_ 5 _ rfl; (with_reducible repeat (first | refine blk_drewN ?_ _ | refine blk_drew ?_ | refine blk_alloc ?_ _)); exact BK138.out))⟩; have n6_ : Aside0 (Below w.heap.size w w93) := ⟨(by rw [hw]; exact (by repeat (first | (with_reducible first | exact HB.out | apply below_alloc | apply pw_below_drewN | apply below_drew1 | refine below_set ?_ GE137.out | refine below_set ?_ GE138.out) | exact HB.out)))⟩; clear hw; clear HO_0; clear HO_9; clear HO_139001; clear HO_139003; clear BK137; clear BK138; clear HB; have HO_0 := n0_; have HO_9 := n1_; have HO_139001 := n2_; have HO_139003 := n3_; have BK137 := n4_; have BK138 := n5_; have HB := n6_; clear n0_ n1_ n2_ n3_ n4_ n5_ n6_; have q94 : (t145 : Int) ≤ ((x0_1.length : Int) : Int) := of_decide_eq_true (by first | (with_reducible assumption) | assumption); obtain ⟨i094, hi094, _, hsz94, _⟩ := info_parts info5; have hroom94 : x0_1.length ≤ co7 := (Kd.V_reads' HO_0.out).2.1; have hC94 : Kd.F (Kd.int .u8) _ _ Ao7 x0_1.length x0_1 := (Kd.V_at (base := w.heap.size) HO_0.out).2.2; have q094 : (0 : Int) ≤ (t145 : Int) := of_decide_eq_true (by first | (with_reducible assumption) | assumption); have hcut94 := cut_from (P := Tryd.prog) 22 5 .i64 Tryd.underlying22 hi094 1 hsz94 Ao7 x0_1.length co7 t145 q094 q94; have hr94 := Kd.F_cut (m := (t145 : Int).toNat) (c := co7) hC94 (by omega) hroom94; obtain ⟨A94, hA94⟩ : ∃ A1, A1 = (if co7 = (t145 : Int).toNat then Ao7 else (Ao7 : Option Addr).map (·.add ((t145 : Int).toNat * 1))) := ⟨_, rfl⟩; obtain ⟨c94, hc94⟩ : ∃ c1, c1 = co7 - (t145 : Int).toNat := ⟨_, rfl⟩; have hy94 : y195.length = x0_1.length - (t145 : Int).toNat := (by rw [Ny195.out, List.length_drop] <;> omega); rw [show (x0_1).drop (t145 : Int).toNat = y195 from Ny195.out.symm] at hr94; replace hr94 : Kd.F (Kd.int .u8) _ _ A94 y195.length y195 := (by rw [hA94]; exact hr94); rw [← hy94, ← hA94, ← hc94] at hcut94; have HO199 := Aside0.mk (show Kd.V (Kd.int .u8) 5 _ w.heap.size _ (.slice A94 y195.length c94) y195 from Kd.V_mk (by rw [hy94, hc94]; exact Nat.sub_le_sub_right hroom94 _) hr94); have HC199 := Aside0.mk (show y195.length ≤ c94 from by rw [hy94, hc94]; exact Nat.sub_le_sub_right hroom94 _); clear hr94 hC94 hroom94 hi094 hsz94 hc94; have KY94 := Aside0.mk hy94; have KA94 := Aside0.mk hA94; clear hy94 hA94; replace q94 := eq_true q94))
                  go_roundg kj45
                  case measure => have := HK1.out; have := HJ5.out; have := HJ45.out; omega
                  case rel => exact ⟨(y195), (x5_1), (x138000_1), (x138002_1), (x138004_1), (x138005_1), (x139000_1), (x139001_1), (x139002_1), (x139003_1), (x139004_1), (t141), (u139001), (u139003), (by first | rfl | (simp; done) | (simp [*]; done)), H', ⟨by have := HK1.out; have := HJ5.out; have := HJ45.out; omega⟩, ⟨by (with_reducible repeat (first | apply Kd.V_alloc | apply Kd.V_drewN | apply Kd.V_drew)); exact HO199.out⟩, ⟨by (with_reducible repeat (first | apply Kd.R_alloc | apply Kd.R_drewN | apply Kd.R_drew)); exact HO_139001.out⟩, ⟨by (with_reducible repeat (first | apply Kd.R_alloc | apply Kd.R_drewN | apply Kd.R_drew)); exact HO_139003.out⟩, ⟨by (with_reducible repeat (first | refine blk_drewN ?_ _ | refine blk_drew ?_ | refine blk_alloc ?_ _)); exact BK137.out⟩, ⟨by (with_reducible repeat (first | refine blk_drewN ?_ _ | refine blk_drew ?_ | refine blk_alloc ?_ _)); exact BK138.out⟩, ⟨by repeat (first | (with_reducible first | exact HB.out | apply below_alloc | apply pw_below_drewN | apply below_drew1 | refine below_set ?_ GE137.out | refine below_set ?_ GE138.out) | exact HB.out)⟩⟩
                 ·rw [if_neg c90] at H
                  exact absurd H (by simp)
                ·rw [if_neg c89] at H
                 exact absurd H (by simp)
               ·rw [if_neg c88] at H
                have c88b0 : (t139 == 6) = false := beq_eq_false_iff_ne.mpr c88
                have c88b1 : (t139 != 6) = true := bne_iff_ne.mpr c88
                by_cases c95 : 0 ≤ t145
                ·rw [if_pos c95] at H
                 have c95b0 := eq_true c95
                 have c95b1 : decide (0 ≤ t145) = true := decide_eq_true c95
                 clear c95
                 by_cases c96 : t145 ≤ (x0_1.length : Int)
                 ·rw [if_pos c96] at H
                  have c96b0 := eq_true c96
                  have c96b1 : decide (t145 ≤ (x0_1.length : Int)) = true := decide_eq_true c96
                  clear c96
                  obtain ⟨y200, hy200⟩ : ∃ y_ : List Int, y_ = (x0_1.drop (t145 : Int).toNat) := ⟨_, rfl⟩
                  replace H : (spec_Message.l0 kj45 y200 x5_1 x139000_1 x139001_1 x139002_1 x139003_1 x139004_1 x139005_1) = some (r1, r2, r3, r4, r5, r6, r7) := by first | (rw [hy200]; with_reducible exact H) | (have H2_ := (Option.bind_some _ _).symm.trans H; rw [hy200]; with_reducible exact H2_) | (have H2_ := (Option.bind_some _ _).symm.trans H; with_reducible exact H2_) | with_reducible exact H | (rw [hy200]; exact H) | exact H
                  have Ny200 := Aside0.mk hy200
                  clear hy200
                  have H' := Aside0.mk H
                  clear H
                  have q97 : (t145 : Int) ≤ ((x0_1.length : Int) : Int) := of_decide_eq_true (by first | (with_reducible assumption) | assumption)
                  obtain ⟨i097, hi097, _, hsz97, _⟩ := info_parts info5
                  have hroom97 : x0_1.length ≤ co7 := (Kd.V_reads' HO_0.out).2.1
                  have hC97 : Kd.F (Kd.int .u8) _ _ Ao7 x0_1.length x0_1 := (Kd.V_at (base := w.heap.size) HO_0.out).2.2
                  have q097 : (0 : Int) ≤ (t145 : Int) := of_decide_eq_true (by first | (with_reducible assumption) | assumption)
                  have hcut97 := cut_from (P := Tryd.prog) 22 5 .i64 Tryd.underlying22 hi097 1 hsz97 Ao7 x0_1.length co7 t145 q097 q97
                  have hr97 := Kd.F_cut (m := (t145 : Int).toNat) (c := co7) hC97 (by omega) hroom97
                  obtain ⟨A97, hA97⟩ : ∃ A1, A1 = (if co7 = (t145 : Int).toNat then Ao7 else (Ao7 : Option Addr).map (·.add ((t145 : Int).toNat * 1))) := ⟨_, rfl⟩
                  obtain ⟨c97, hc97⟩ : ∃ c1, c1 = co7 - (t145 : Int).toNat := ⟨_, rfl⟩
                  have hy97 : y200.length = x0_1.length - (t145 : Int).toNat := (by rw [Ny200.out, List.length_drop] <;> omega)
                  rw [show (x0_1).drop (t145 : Int).toNat = y200 from Ny200.out.symm] at hr97
                  replace hr97 : Kd.F (Kd.int .u8) _ _ A97 y200.length y200 := (by rw [hA97]; exact hr97)
                  rw [← hy97, ← hA97, ← hc97] at hcut97
                  have HO204 := Aside0.mk (show Kd.V (Kd.int .u8) 5 _ w.heap.size _ (.slice A97 y200.length c97) y200 from Kd.V_mk (by rw [hy97, hc97]; exact Nat.sub_le_sub_right hroom97 _) hr97)
                  have HC204 := Aside0.mk (show y200.length ≤ c97 from by rw [hy97, hc97]; exact Nat.sub_le_sub_right hroom97 _)
                  clear hr97 hC97 hroom97 hi097 hsz97 hc97
                  have KY97 := Aside0.mk hy97
                  have KA97 := Aside0.mk hA97
                  clear hy97 hA97
                  replace q97 := eq_true q97
                  go_wp2
                  go_roundg kj45
                  case measure => have := HK1.out; have := HJ5.out; have := HJ45.out; omega
                  case rel => exact ⟨(y200), (x5_1), (x138000_1), (x138002_1), (x138004_1), (x138005_1), (x139000_1), (x139001_1), (x139002_1), (x139003_1), (x139004_1), (x139005_1), (u139001), (u139003), (by first | rfl | (simp; done) | (simp [*]; done)), H', ⟨by have := HK1.out; have := HJ5.out; have := HJ45.out; omega⟩, ⟨by (with_reducible repeat (first | apply Kd.V_alloc | apply Kd.V_drewN | apply Kd.V_drew)); exact HO204.out⟩, ⟨by (with_reducible repeat (first | apply Kd.R_alloc | apply Kd.R_drewN | apply Kd.R_drew)); exact HO_139001.out⟩, ⟨by (with_reducible repeat (first | apply Kd.R_alloc | apply Kd.R_drewN | apply Kd.R_drew)); exact HO_139003.out⟩, ⟨by (with_reducible repeat (first | refine blk_drewN ?_ _ | refine blk_drew ?_ | refine blk_alloc ?_ _)); exact BK137.out⟩, ⟨by (with_reducible repeat (first | refine blk_drewN ?_ _ | refine blk_drew ?_ | refine blk_alloc ?_ _)); exact BK138.out⟩, ⟨by repeat (first | (with_reducible first | exact HB.out | apply below_alloc | apply pw_below_drewN | apply below_drew1 | refine below_set ?_ GE137.out | refine below_set ?_ GE138.out) | exact HB.out)⟩⟩
                 ·rw [if_neg c96] at H
                  exact absurd H (by simp)
                ·rw [if_neg c95] at H
                 exact absurd H (by simp)
   ·rw [if_neg c4] at H
    have c4b0 : decide (0 < (x0_1.length : Int)) = false := decide_eq_false c4
    have c4b1 : decide (0 < x0_1.length) = false := decide_eq_false (by omega)
    clear c4
    by_cases c98 : x5_1 = true
    ·subst c98
     have H1 : (some (x139000_1, x139001_1, x139002_1, x139003_1, x139004_1, x139005_1, true)) = some (r1, r2, r3, r4, r5, r6, r7) := by rw [if_pos rfl] at H; exact H
     clear H
     have H := H1
     clear H1
     simp only [Option.some.injEq, Prod.mk.injEq] at H
     obtain ⟨rfl, rfl, rfl, rfl, rfl, rfl, rfl⟩ := H
     obtain ⟨Ao99, co99, eo99⟩ := Kd.V_slice HO_0.out
     subst eo99
     have hnb100 := NB138_137.out
     have hnc100 := NB137_138.out
     have hcz101_0 : wr.cell? ⟨gb138, 0, none⟩ = some (.int .i64 x139000_1) := (blk_cell BK138.out 0).trans rfl
     have hcz101_1 : wr.cell? ⟨gb138, 1, none⟩ = some (u139001) := (blk_cell BK138.out 1).trans rfl
     have hcz101_2 : wr.cell? ⟨gb138, 2, none⟩ = some (.int .u64 x139002_1) := (blk_cell BK138.out 2).trans rfl
     have hcz101_3 : wr.cell? ⟨gb138, 3, none⟩ = some (u139003) := (blk_cell BK138.out 3).trans rfl
     have hcz101_4 : wr.cell? ⟨gb138, 4, none⟩ = some (.int .u64 x139004_1) := (blk_cell BK138.out 4).trans rfl
     have hcz101_5 : wr.cell? ⟨gb138, 5, none⟩ = some (.int .u64 x139005_1) := (blk_cell BK138.out 5).trans rfl
     have hfz101_0 := blk_frozen BK138.out 0
     have hfz101_1 := blk_frozen BK138.out 1
     have hfz101_2 := blk_frozen BK138.out 2
     have hfz101_3 := blk_frozen BK138.out 3
     have hfz101_4 := blk_frozen BK138.out 4
     have hfz101_5 := blk_frozen BK138.out 5
     have hcz102_0 : wr.cell? ⟨gb137, 0, none⟩ = some (.int .i64 x138000_1) := (blk_cell BK137.out 0).trans rfl
     have hcz102_1 : wr.cell? ⟨gb137, 1, none⟩ = some (.slice none 0 0) := (blk_cell BK137.out 1).trans rfl
     have hcz102_2 : wr.cell? ⟨gb137, 2, none⟩ = some (.int .u64 x138002_1) := (blk_cell BK137.out 2).trans rfl
     have hcz102_3 : wr.cell? ⟨gb137, 3, none⟩ = some (.slice none 0 0) := (blk_cell BK137.out 3).trans rfl
     have hcz102_4 : wr.cell? ⟨gb137, 4, none⟩ = some (.int .u64 x138004_1) := (blk_cell BK137.out 4).trans rfl
     have hcz102_5 : wr.cell? ⟨gb137, 5, none⟩ = some (.int .u64 x138005_1) := (blk_cell BK137.out 5).trans rfl
     have hfz102_0 := blk_frozen BK137.out 0
     have hfz102_1 := blk_frozen BK137.out 1
     have hfz102_2 := blk_frozen BK137.out 2
     have hfz102_3 := blk_frozen BK137.out 3
     have hfz102_4 := blk_frozen BK137.out 4
     have hfz102_5 := blk_frozen BK137.out 5
     obtain ⟨Ao103, co103, eo103⟩ := Kd.R_slice HO_139001.out
     subst eo103
     obtain ⟨Ao104, co104, eo104⟩ := Kd.R_slice HO_139003.out
     subst eo104
     go_wp2
     refine bodyPost_ret (results_ct rfl _ _ gb137 56 #[.int .i64 x139000_1, .slice Ao103 x139001_1.length co103, .int .u64 x139002_1, .slice Ao104 x139003_1.length co104, .int .u64 x139004_1, .int .u64 x139005_1] (0, 0) _ rfl (by (with_reducible repeat (first | refine blk_drewN ?_ _ | refine blk_drew ?_ | refine blk_alloc ?_ _)); refine blk_put (cs := #[.int .i64 x139000_1, .slice Ao103 x139001_1.length co103, .int .u64 x139002_1, .slice Ao104 x139003_1.length co104, .int .u64 x139004_1, .int .u64 x138005_1]) ?_ 5 _ rfl; (with_reducible repeat (first | refine blk_drewN ?_ _ | refine blk_drew ?_ | refine blk_alloc ?_ _)); refine blk_put (cs := #[.int .i64 x139000_1, .slice Ao103 x139001_1.length co103, .int .u64 x139002_1, .slice Ao104 x139003_1.length co104, .int .u64 x138004_1, .int .u64 x138005_1]) ?_ 4 _ rfl; (with_reducible repeat (first | refine blk_drewN ?_ _ | refine blk_drew ?_ | refine blk_alloc ?_ _)); refine blk_put (cs := #[.int .i64 x139000_1, .slice Ao103 x139001_1.length co103, .int .u64 x139002_1, .slice none 0 0, .int .u64 x138004_1, .int .u64 x138005_1]) ?_ 3 _ rfl; (with_reducible repeat (first | refine blk_drewN ?_ _ | refine blk_drew ?_ | refine blk_alloc ?_ _)); refine blk_put (cs := #[.int .i64 x139000_1, .slice Ao103 x139001_1.length co103, .int .u64 x138002_1, .slice none 0 0, .int .u64 x138004_1, .int .u64 x138005_1]) ?_ 2 _ rfl; (with_reducible repeat (first | refine blk_drewN ?_ _ | refine blk_drew ?_ | refine blk_alloc ?_ _)); refine blk_put (cs := #[.int .i64 x139000_1, .slice none 0 0, .int .u64 x138002_1, .slice none 0 0, .int .u64 x138004_1, .int .u64 x138005_1]) ?_ 1 _ rfl; (with_reducible repeat (first | refine blk_drewN ?_ _ | refine blk_drew ?_ | refine blk_alloc ?_ _)); refine blk_put (cs := #[.int .i64 x138000_1, .slice none 0 0, .int .u64 x138002_1, .slice none 0 0, .int .u64 x138004_1, .int .u64 x138005_1]) ?_ 0 _ rfl; (with_reducible repeat (first | refine blk_drewN ?_ _ | refine blk_drew ?_ | refine blk_alloc ?_ _)); exact BK137.out) Tryd.underlying56 rfl (by kernel_rfl)) rfl ?_
     exact ⟨_, _, by first | rfl | (simp [errV_none, errV_some] <;> rfl) | (simp [*, errV_none, errV_some] <;> rfl), by (with_reducible repeat (first | apply Kd.R_alloc | apply Kd.R_drewN | apply Kd.R_drew)); exact Kd.R_mono (Kd.R_far (p := ⟨gb137, 5, none⟩) (Kd.R_far (p := ⟨gb137, 4, none⟩) (Kd.R_far (p := ⟨gb137, 3, none⟩) (Kd.R_far (p := ⟨gb137, 2, none⟩) (Kd.R_far (p := ⟨gb137, 1, none⟩) (Kd.R_far (p := ⟨gb137, 0, none⟩) (Kd.R_types HO_139001.out BK137.out (by decide)) (fun _ hk => hk.2) (.int .i64 x139000_1)) (fun _ hk => hk.2) (.slice Ao103 x139001_1.length co103)) (fun _ hk => hk.2) (.int .u64 x139002_1)) (fun _ hk => hk.2) (.slice Ao104 x139003_1.length co104)) (fun _ hk => hk.2) (.int .u64 x139004_1)) (fun _ hk => hk.2) (.int .u64 x139005_1)) (fun _ hk => hk.1), by (with_reducible repeat (first | apply Kd.R_alloc | apply Kd.R_drewN | apply Kd.R_drew)); exact Kd.R_mono (Kd.R_far (p := ⟨gb137, 5, none⟩) (Kd.R_far (p := ⟨gb137, 4, none⟩) (Kd.R_far (p := ⟨gb137, 3, none⟩) (Kd.R_far (p := ⟨gb137, 2, none⟩) (Kd.R_far (p := ⟨gb137, 1, none⟩) (Kd.R_far (p := ⟨gb137, 0, none⟩) (Kd.R_types HO_139003.out BK137.out (by decide)) (fun _ hk => hk.2) (.int .i64 x139000_1)) (fun _ hk => hk.2) (.slice Ao103 x139001_1.length co103)) (fun _ hk => hk.2) (.int .u64 x139002_1)) (fun _ hk => hk.2) (.slice Ao104 x139003_1.length co104)) (fun _ hk => hk.2) (.int .u64 x139004_1)) (fun _ hk => hk.2) (.int .u64 x139005_1)) (fun _ hk => hk.1), by repeat (first | (with_reducible first | exact HB.out | apply below_alloc | apply pw_below_drewN | apply below_drew1 | refine below_set ?_ GE137.out | refine below_set ?_ GE138.out) | exact HB.out)⟩
    ·replace c98 := Bool.eq_false_iff.mpr c98
     subst c98
     have H1 : (some (0, ([] : List Int), 0, ([] : List Int), 0, 0, false)) = some (r1, r2, r3, r4, r5, r6, r7) := by rw [if_neg (show ¬ (false = true) by decide)] at H; exact H
     clear H
     have H := H1
     clear H1
     simp only [Option.some.injEq, Prod.mk.injEq] at H
     obtain ⟨rfl, rfl, rfl, rfl, rfl, rfl, rfl⟩ := H
     obtain ⟨Ao105, co105, eo105⟩ := Kd.V_slice HO_0.out
     subst eo105
     have hnb106 := NB137_138.out
     have hnc106 := NB138_137.out
     have hcz107_0 : wr.cell? ⟨gb137, 0, none⟩ = some (.int .i64 x138000_1) := (blk_cell BK137.out 0).trans rfl
     have hcz107_1 : wr.cell? ⟨gb137, 1, none⟩ = some (.slice none 0 0) := (blk_cell BK137.out 1).trans rfl
     have hcz107_2 : wr.cell? ⟨gb137, 2, none⟩ = some (.int .u64 x138002_1) := (blk_cell BK137.out 2).trans rfl
     have hcz107_3 : wr.cell? ⟨gb137, 3, none⟩ = some (.slice none 0 0) := (blk_cell BK137.out 3).trans rfl
     have hcz107_4 : wr.cell? ⟨gb137, 4, none⟩ = some (.int .u64 x138004_1) := (blk_cell BK137.out 4).trans rfl
     have hcz107_5 : wr.cell? ⟨gb137, 5, none⟩ = some (.int .u64 x138005_1) := (blk_cell BK137.out 5).trans rfl
     have hfz107_0 := blk_frozen BK137.out 0
     have hfz107_1 := blk_frozen BK137.out 1
     have hfz107_2 := blk_frozen BK137.out 2
     have hfz107_3 := blk_frozen BK137.out 3
     have hfz107_4 := blk_frozen BK137.out 4
     have hfz107_5 := blk_frozen BK137.out 5
     go_wp2
     refine bodyPost_ret (results_ct rfl _ _ gb137 56 #[.int .i64 0, .slice none 0 0, .int .u64 0, .slice none 0 0, .int .u64 0, .int .u64 0] (0, 0) _ rfl (by (with_reducible repeat (first | refine blk_drewN ?_ _ | refine blk_drew ?_ | refine blk_alloc ?_ _)); refine blk_put (cs := #[.int .i64 0, .slice none 0 0, .int .u64 0, .slice none 0 0, .int .u64 0, .int .u64 x138005_1]) ?_ 5 _ rfl; (with_reducible repeat (first | refine blk_drewN ?_ _ | refine blk_drew ?_ | refine blk_alloc ?_ _)); refine blk_put (cs := #[.int .i64 0, .slice none 0 0, .int .u64 0, .slice none 0 0, .int .u64 x138004_1, .int .u64 x138005_1]) ?_ 4 _ rfl; (with_reducible repeat (first | refine blk_drewN ?_ _ | refine blk_drew ?_ | refine blk_alloc ?_ _)); refine blk_put (cs := #[.int .i64 0, .slice none 0 0, .int .u64 0, .slice none 0 0, .int .u64 x138004_1, .int .u64 x138005_1]) ?_ 3 _ rfl; (with_reducible repeat (first | refine blk_drewN ?_ _ | refine blk_drew ?_ | refine blk_alloc ?_ _)); refine blk_put (cs := #[.int .i64 0, .slice none 0 0, .int .u64 x138002_1, .slice none 0 0, .int .u64 x138004_1, .int .u64 x138005_1]) ?_ 2 _ rfl; (with_reducible repeat (first | refine blk_drewN ?_ _ | refine blk_drew ?_ | refine blk_alloc ?_ _)); refine blk_put (cs := #[.int .i64 0, .slice none 0 0, .int .u64 x138002_1, .slice none 0 0, .int .u64 x138004_1, .int .u64 x138005_1]) ?_ 1 _ rfl; (with_reducible repeat (first | refine blk_drewN ?_ _ | refine blk_drew ?_ | refine blk_alloc ?_ _)); refine blk_put (cs := #[.int .i64 x138000_1, .slice none 0 0, .int .u64 x138002_1, .slice none 0 0, .int .u64 x138004_1, .int .u64 x138005_1]) ?_ 0 _ rfl; (with_reducible repeat (first | refine blk_drewN ?_ _ | refine blk_drew ?_ | refine blk_alloc ?_ _)); exact BK137.out) Tryd.underlying56 rfl (by kernel_rfl)) rfl ?_
     exact ⟨_, _, by first | rfl | (simp [errV_none, errV_some] <;> rfl) | (simp [*, errV_none, errV_some] <;> rfl), by first | exact Kd.R_nil _ _ _ _ _ | exact Kd.N_nil _ _ _ _ _ | exact Kd.V_nil _ _ _ _ _ | exact Kd.Q_nil _ _ _ _ _ | exact Kd.S_nil _ _ _ _ _, by first | exact Kd.R_nil _ _ _ _ _ | exact Kd.N_nil _ _ _ _ _ | exact Kd.V_nil _ _ _ _ _ | exact Kd.Q_nil _ _ _ _ _ | exact Kd.S_nil _ _ _ _ _, by repeat (first | (with_reducible first | exact HB.out | apply below_alloc | apply pw_below_drewN | apply below_drew1 | refine below_set ?_ GE137.out | refine below_set ?_ GE138.out) | exact HB.out)⟩

end Go.Proofs.YtnhnlodmkbiiiaaDoor.PScr
