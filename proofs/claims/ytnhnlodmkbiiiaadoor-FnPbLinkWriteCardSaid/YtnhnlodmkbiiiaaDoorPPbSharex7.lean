/- Printed by a program of this session (it drives the print of the kit, with contracts proved by hand beside): the Go functions of one law as Lean functions, and that the Go code comes to what they say. -/
import Derived.Test.YtnhnlodmkbiiiaaDoorPPbSharex0
import Derived.Test.YtnhnlodmkbiiiaaDoorPPbSharex2
namespace Go.Proofs.YtnhnlodmkbiiiaaDoor.PPbShare
open Go.RowKit Go.Proofs.YtnhnlodmkbiiiaaDoorL Go.Proofs.YtnhnlodmkbiiiaaDoorW.PrintWords Go.Proofs.YtnhnlodmkbiiiaaDoorW.PrintLast Go.Proofs.YtnhnlodmkbiiiaaDoorW.PrintMore
attribute [local go_sem] max2_int min2_int max_two min_two max_three min_three max_four min_four   -- for this text's walks alone
set_option linter.unusedVariables false
set_option linter.unusedSimpArgs false

/-! ### spec_PbLinkOf: function 14 -/
mutual
def spec_PbLinkOf.l0 : Nat → List Int → Bool → Bool → Bool → List Int → ByteArray → Int → Option (Bool × Bool × Bool × List Int × ByteArray × Int × Bool)
  | 0, _, _, _, _, _, _, _ => none
  | k + 1, x0, x159000, x159001, x159002, x159003, x159004, x159005 => if (x0.length : Int) > 0 then ((spec_pbTake.f k x0).bind fun bt159 => (if bt159.2.2.2.2 = 0 then (spec_PbLinkOf.j1 k x0 bt159.1 bt159.2.2.1 bt159.2.2.2.1 bt159.2.2.2.2 true x159000 x159001 x159002 x159003 x159004 x159005) else (spec_PbLinkOf.j1 k x0 bt159.1 bt159.2.2.1 bt159.2.2.2.1 bt159.2.2.2.2 ((bt159.1 == 3) != (bt159.2.1 == 0)) x159000 x159001 x159002 x159003 x159004 x159005))) else (some (x159000, x159001, x159002, x159003, x159004, x159005, true))
def spec_PbLinkOf.j1 : Nat → List Int → Int → Int → List Int → Int → Bool → Bool → Bool → Bool → List Int → ByteArray → Int → Option (Bool × Bool × Bool × List Int × ByteArray × Int × Bool)
  | 0, _, _, _, _, _, _, _, _, _, _, _, _ => none
  | k + 1, x0, x5, x7, x8, x9, x29, x159000, x159001, x159002, x159003, x159004, x159005 => if x29 = true then (some (false, false, false, ([] : List Int), (⟨#[]⟩ : ByteArray), 0, false)) else (if x5 = 1 then ((some (([] : List Int) : List Int)).bind fun y166 => (if y166.length + x8.length < 140737488355328 then (if 0 ≤ x9 then (if x9 ≤ (x0.length : Int) then (spec_PbLinkOf.l0 k (x0.drop (x9 : Int).toNat) true x159001 x159002 (y166 ++ x8) x159004 x159005) else (none)) else (none)) else (none))) else (if x5 = 2 then (if 0 ≤ x9 then (if x9 ≤ (x0.length : Int) then (spec_PbLinkOf.l0 k (x0.drop (x9 : Int).toNat) x159000 true x159002 x159003 (strOfNums x8) x159005) else (none)) else (none)) else (if x5 = 3 then (if 0 ≤ x9 then (if x9 ≤ (x0.length : Int) then (spec_PbLinkOf.l0 k (x0.drop (x9 : Int).toNat) x159000 x159001 true x159003 x159004 x7) else (none)) else (none)) else (if 0 ≤ x9 then (if x9 ≤ (x0.length : Int) then (spec_PbLinkOf.l0 k (x0.drop (x9 : Int).toNat) x159000 x159001 x159002 x159003 x159004 x159005) else (none)) else (none)))))
end
def spec_PbLinkOf.f (k : Nat) (l0 : List Int) : Option (Bool × Bool × Bool × List Int × ByteArray × Int × Bool) := spec_PbLinkOf.l0 k l0 false false false ([] : List Int) (⟨#[]⟩ : ByteArray) 0
theorem spec_PbLinkOf.mono_l : ∀ k, (∀ y0 y1 y2 y3 y4 y5 y6, LeO (spec_PbLinkOf.l0 k y0 y1 y2 y3 y4 y5 y6) (spec_PbLinkOf.l0 (k + 1) y0 y1 y2 y3 y4 y5 y6)) ∧ (∀ y0 y1 y2 y3 y4 y5 y6 y7 y8 y9 y10 y11, LeO (spec_PbLinkOf.j1 k y0 y1 y2 y3 y4 y5 y6 y7 y8 y9 y10 y11) (spec_PbLinkOf.j1 (k + 1) y0 y1 y2 y3 y4 y5 y6 y7 y8 y9 y10 y11))
  | 0 => ⟨fun _ _ _ _ _ _ _ r h => by simp [spec_PbLinkOf.l0] at h, fun _ _ _ _ _ _ _ _ _ _ _ _ r h => by simp [spec_PbLinkOf.j1] at h⟩
  | k + 1 => by
    obtain ⟨ih0, ih1⟩ := spec_PbLinkOf.mono_l k
    refine ⟨?_, ?_⟩
    · intro y0 y1 y2 y3 y4 y5 y6
      unfold spec_PbLinkOf.l0
      repeat' first
      | (with_reducible exact ih0 _ _ _ _ _ _ _)
      | (with_reducible exact ih1 _ _ _ _ _ _ _ _ _ _ _ _)
      | (with_reducible exact spec_pbTake.mono _ _)
      | (with_reducible exact LeO.refl _)
      | (with_reducible exact LeO.none _)
      | (with_reducible refine LeO.ite ?_ ?_)
      | (with_reducible refine LeO.bind ?_ (fun _ => ?_))
      | exact ih0 _ _ _ _ _ _ _
      | exact ih1 _ _ _ _ _ _ _ _ _ _ _ _
      | exact spec_pbTake.mono _ _
      | exact LeO.none _
      | refine LeO.ite ?_ ?_
      | refine LeO.bind ?_ (fun _ => ?_)
    · intro y0 y1 y2 y3 y4 y5 y6 y7 y8 y9 y10 y11
      unfold spec_PbLinkOf.j1
      repeat' first
      | (with_reducible exact ih0 _ _ _ _ _ _ _)
      | (with_reducible exact ih1 _ _ _ _ _ _ _ _ _ _ _ _)
      | (with_reducible exact spec_pbTake.mono _ _)
      | (with_reducible exact LeO.refl _)
      | (with_reducible exact LeO.none _)
      | (with_reducible refine LeO.ite ?_ ?_)
      | (with_reducible refine LeO.bind ?_ (fun _ => ?_))
      | exact ih0 _ _ _ _ _ _ _
      | exact ih1 _ _ _ _ _ _ _ _ _ _ _ _
      | exact spec_pbTake.mono _ _
      | exact LeO.none _
      | refine LeO.ite ?_ ?_
      | refine LeO.bind ?_ (fun _ => ?_)
theorem spec_PbLinkOf.mono : ∀ a0 k, LeO (spec_PbLinkOf.f k a0) (spec_PbLinkOf.f (k + 1) a0) := by
  intro a0 k
  obtain ⟨ih0, ih1⟩ := spec_PbLinkOf.mono_l k
  unfold spec_PbLinkOf.f
  repeat' first
      | (with_reducible exact ih0 _ _ _ _ _ _ _)
      | (with_reducible exact ih1 _ _ _ _ _ _ _ _ _ _ _ _)
      | (with_reducible exact spec_pbTake.mono _ _)
      | (with_reducible exact LeO.refl _)
      | (with_reducible exact LeO.none _)
      | (with_reducible refine LeO.ite ?_ ?_)
      | (with_reducible refine LeO.bind ?_ (fun _ => ?_))
      | exact ih0 _ _ _ _ _ _ _
      | exact ih1 _ _ _ _ _ _ _ _ _ _ _ _
      | exact spec_pbTake.mono _ _
      | exact LeO.none _
      | refine LeO.ite ?_ ?_
      | refine LeO.bind ?_ (fun _ => ?_)
set_option maxHeartbeats 8000000 in
set_option maxRecDepth 100000 in
theorem spec_PbLinkOf.calls (k : Nat) (P0_ : Nat → Prop) (A0 : Option Addr) (c0 : Nat) (l0 : List Int) (r1 : Bool) (r2 : Bool) (r3 : Bool) (r4 : List Int) (r5 : ByteArray) (r6 : Int) (r7 : Bool) (w : World) (hs0 : Kd.V (Kd.int .u8) 5 w w.heap.size (fun k_ => P0_ k_) (.slice A0 l0.length c0) l0) (h : spec_PbLinkOf.f k l0 = some (r1, r2, r3, r4, r5, r6, r7)) :
    Calls Tryd.prog 14 #[.slice A0 l0.length c0] w fun e w' => ∃ v3_ : Value, e = .returned (.tuple #[.agg #[.bool r1, .bool r2, .bool r3, v3_, .string r5, .int .u64 r6], .bool r7]) ∧ Kd.R (Kd.int .u8) 5 w' w.heap.size (fun k_ => (w.heap.size ≤ k_)) v3_ r4 ∧ Below w.heap.size w w' := by
  have hu27 := Tryd.underlying27
  have HO0 := Aside0.mk (show Kd.V (Kd.int .u8) 5 w w.heap.size (fun k_ => (P0_ k_ ∨ w.heap.size ≤ k_)) (.slice A0 l0.length c0) l0 from Kd.V_mono hs0 (fun k_ hk => .inl hk))
  have HB := Aside0.mk (Below.refl w.heap.size w)
  have H : (spec_PbLinkOf.l0 k l0 false false false ([] : List Int) (⟨#[]⟩ : ByteArray) 0) = some (r1, r2, r3, r4, r5, r6, r7) := h
  clear h
  have H' := Aside0.mk H
  clear H
  go_enter Tryd.func14, Tryd.ntmps14
  go_wp2_with (first | ((with_reducible refine gate_dst (N := 2) rfl ?_); refine box_event ?hg (N := 2) ?hd (cs := #[.bool false, .bool false, .bool false, .slice none 0 0, .string (⟨#[]⟩ : ByteArray), .int .u64 0]) (t := 27) ?hr ?_; (case hd => rfl); (case hg => rfl); (case hr => first | (go_simp; done) | (go_simp; rfl)); intro gb157 hg w2 hbox hb; have n0_ := Aside0.mk (Kd.V_below (Kd.V_elderB (by (with_reducible repeat (first | apply Kd.V_alloc | apply Kd.V_drewN | apply Kd.V_drew)); exact HO0.out) gb157 (Nat.le_of_eq hg.symm)) hb); have n1_ := Aside0.mk (below_step (by repeat (first | (with_reducible first | exact HB.out | apply below_alloc | apply pw_below_drewN | apply below_drew1) | exact HB.out)) hb); have n2_ := Aside0.mk (hbox); have n3_ := Aside0.mk ((by rw [hg]; exact (below_size (by repeat (first | (with_reducible first | exact HB.out | apply below_alloc | apply pw_below_drewN | apply below_drew1) | exact HB.out))) : w.heap.size ≤ gb157)); have n4_ := Aside0.mk ((by rw [hg]; exact (below_size (by repeat (first | (with_reducible first | exact HB.out | apply below_alloc | apply pw_below_drewN | apply below_drew1) | exact HB.out))) : w.heap.size ≤ gb157)); clear HO0; clear HB; have HO0 := n0_; have HB := n1_; have BK157 := n2_; have GW157 := n3_; have GE157 := n4_; clear n0_ n1_ n2_ n3_ n4_; clear hb hbox hg) | ((with_reducible refine gate_dst (N := 4) rfl ?_); refine box_event ?hg (N := 4) ?hd (cs := #[.bool false, .bool false, .bool false, .slice none 0 0, .string (⟨#[]⟩ : ByteArray), .int .u64 0]) (t := 27) ?hr ?_; (case hd => rfl); (case hg => rfl); (case hr => first | (go_simp; done) | (go_simp; rfl)); intro gb158 hg w3 hbox hb; have n0_ := Aside0.mk (Kd.V_below (Kd.V_elderB (by (with_reducible repeat (first | apply Kd.V_alloc | apply Kd.V_drewN | apply Kd.V_drew)); exact HO0.out) gb158 (Nat.le_of_eq hg.symm)) hb); have n1_ := Aside0.mk (blk_below (g := gb157) (o := .cells #[.bool false, .bool false, .bool false, .slice none 0 0, .string (⟨#[]⟩ : ByteArray), .int .u64 0] 27 (0, 0)) (by (with_reducible repeat (first | refine blk_drewN ?_ _ | refine blk_drew ?_ | refine blk_alloc ?_ _)); exact BK157.out) hb); have n2_ := Aside0.mk (below_step (by repeat (first | (with_reducible first | exact HB.out | apply below_alloc | apply pw_below_drewN | apply below_drew1 | refine below_set ?_ GE157.out) | exact HB.out)) hb); have n3_ := Aside0.mk (hbox); have n4_ := Aside0.mk ((by rw [hg]; exact (below_size (by repeat (first | (with_reducible first | exact HB.out | apply below_alloc | apply pw_below_drewN | apply below_drew1 | refine below_set ?_ GE157.out) | exact HB.out))) : w.heap.size ≤ gb158)); have n5_ := Aside0.mk ((by rw [hg]; exact (below_size (by repeat (first | (with_reducible first | exact HB.out | apply below_alloc | apply pw_below_drewN | apply below_drew1 | refine below_set ?_ GE157.out) | exact HB.out))) : w.heap.size ≤ gb158)); have n6_ := Aside0.mk ((by rw [hg]; exact Nat.ne_of_lt (blk_lt (g := gb157) (o := .cells #[.bool false, .bool false, .bool false, .slice none 0 0, .string (⟨#[]⟩ : ByteArray), .int .u64 0] 27 (0, 0)) (by (with_reducible repeat (first | refine blk_drewN ?_ _ | refine blk_drew ?_ | refine blk_alloc ?_ _)); exact BK157.out)) : gb157 ≠ gb158)); have n7_ := Aside0.mk ((by rw [hg]; exact Nat.ne_of_gt (blk_lt (g := gb157) (o := .cells #[.bool false, .bool false, .bool false, .slice none 0 0, .string (⟨#[]⟩ : ByteArray), .int .u64 0] 27 (0, 0)) (by (with_reducible repeat (first | refine blk_drewN ?_ _ | refine blk_drew ?_ | refine blk_alloc ?_ _)); exact BK157.out)) : gb158 ≠ gb157)); clear HO0; clear BK157; clear HB; have HO0 := n0_; have BK157 := n1_; have HB := n2_; have BK158 := n3_; have GW158 := n4_; have GE158 := n5_; have NB157_158 := n6_; have NB158_157 := n7_; clear n0_ n1_ n2_ n3_ n4_ n5_ n6_ n7_; clear hb hbox hg))
  (try simp only [Act.put, List.setIfInBounds_toArray, List.set_cons_zero, List.set_cons_succ])
  go_loopg [0] k (fun kq v0 w' => ∃ (x0_1 : List Int) (x158000_1 : Bool) (x158001_1 : Bool) (x158002_1 : Bool) (x158004_1 : ByteArray) (x158005_1 : Int) (x159000_1 : Bool) (x159001_1 : Bool) (x159002_1 : Bool) (x159003_1 : List Int) (x159004_1 : ByteArray) (x159005_1 : Int) (u159003 : Value), Aside0 (spec_PbLinkOf.l0 kq x0_1 x159000_1 x159001_1 x159002_1 x159003_1 x159004_1 x159005_1 = some (r1, r2, r3, r4, r5, r6, r7)) ∧ Aside0 (kq ≤ k) ∧ Aside0 (Kd.V (Kd.int .u8) 5 w' w.heap.size (fun k_ => (P0_ k_ ∨ w.heap.size ≤ k_) ∧ some k_ ≠ (u159003 : Value).ownBlock ∧ k_ ≠ gb157 ∧ k_ ≠ gb158) v0 x0_1) ∧ Aside0 (Kd.R (Kd.int .u8) 5 w' w.heap.size (fun k_ => (w.heap.size ≤ k_)) u159003 x159003_1) ∧ Aside0 (w'.heap[gb157]? = some (.cells #[.bool x158000_1, .bool x158001_1, .bool x158002_1, (.slice none 0 0), .string x158004_1, .int .u64 x158005_1] 27 (0, 0))) ∧ Aside0 (w'.heap[gb158]? = some (.cells #[.bool x159000_1, .bool x159001_1, .bool x159002_1, u159003, .string x159004_1, .int .u64 x159005_1] 27 (0, 0))) ∧ Aside0 (Below w.heap.size w w'))
  case atStart => exact ⟨(l0), (false), (false), (false), ((⟨#[]⟩ : ByteArray)), (0), (false), (false), (false), (([] : List Int)), ((⟨#[]⟩ : ByteArray)), (0), (.slice none 0 0), H', ⟨Nat.le_refl _⟩, ⟨by (with_reducible repeat (first | apply Kd.V_alloc | apply Kd.V_drewN | apply Kd.V_drew)); exact Kd.V_mono HO0.out (fun _ hk => ⟨hk.1.1, ⟨(by simp [Value.ownBlock]), ⟨hk.1.2, hk.2⟩⟩⟩)⟩, ⟨by first | exact Kd.R_nil _ _ _ _ _ | exact Kd.N_nil _ _ _ _ _ | exact Kd.V_nil _ _ _ _ _ | exact Kd.Q_nil _ _ _ _ _ | exact Kd.S_nil _ _ _ _ _⟩, ⟨by (with_reducible repeat (first | refine blk_drewN ?_ _ | refine blk_drew ?_ | refine blk_alloc ?_ _)); exact BK157.out⟩, ⟨by (with_reducible repeat (first | refine blk_drewN ?_ _ | refine blk_drew ?_ | refine blk_alloc ?_ _)); exact BK158.out⟩, ⟨by repeat (first | (with_reducible first | exact HB.out | apply below_alloc | apply pw_below_drewN | apply below_drew1 | refine below_set ?_ GE157.out | refine below_set ?_ GE158.out) | exact HB.out)⟩⟩
  case round =>
    clear H'
    try clear c1
    try clear p2
    obtain ⟨x0_1, x158000_1, x158001_1, x158002_1, x158004_1, x158005_1, x159000_1, x159001_1, x159002_1, x159003_1, x159004_1, x159005_1, u159003, HA, HK1, HO_0, HO_159003, BK157, BK158, HB⟩ := hrel
    cases gk with
    | zero => exact absurd HA.out (by simp [spec_PbLinkOf.l0])
    | succ k1 =>
      have H := HA.out
      clear HA
      simp only [spec_PbLinkOf.l0] at H
      by_cases c4 : (x0_1.length : Int) > 0
      · rw [if_pos c4] at H
        have c4b0 : decide (0 < (x0_1.length : Int)) = true := decide_eq_true c4
        have c4b1 : decide (0 < x0_1.length) = true := decide_eq_true (by omega)
        clear c4
        replace H := Option.bind_eq_some_iff.mp H
        obtain ⟨⟨t159, t160, t161, t162, t165⟩, A50, H⟩ := H
        replace H : (if t165 = 0 then (spec_PbLinkOf.j1 k1 x0_1 t159 t161 t162 t165 true x159000_1 x159001_1 x159002_1 x159003_1 x159004_1 x159005_1) else (spec_PbLinkOf.j1 k1 x0_1 t159 t161 t162 t165 ((t159 == 3) != (t160 == 0)) x159000_1 x159001_1 x159002_1 x159003_1 x159004_1 x159005_1)) = some (r1, r2, r3, r4, r5, r6, r7) := H
        have A5 := Aside0.mk A50
        clear A50
        have HC6 := Aside0.mk H
        clear H
        obtain ⟨Ao7, co7, eo7⟩ := Kd.V_slice HO_0.out
        subst eo7
        go_upto_region 4 with (first | ((with_reducible refine gate_callee (f := 48) rfl ?_); refine goesL_ (some 15) rfl rfl Tryd.func48 (by kernel_rfl) rfl #[.slice Ao7 x0_1.length co7] rfl (by (try simp only [List.map_toArray, List.map_cons, List.map_nil]); first | done | rfl | (simp only [List.length_drop, List.length_take]; rfl)) ?_; (with_reducible refine (spec_pbTake.calls k1 (fun k_ => ((P0_ k_ ∨ w.heap.size ≤ k_) ∧ (some k_ ≠ (u159003 : Value).ownBlock ∧ (k_ ≠ gb157 ∧ k_ ≠ gb158)))) _ _ x0_1 t159 t160 t161 t162 t165 _ ?side1 A5.out).mono ?_); (case side1 => exact HO_0.out); rintro e w8 ⟨v163, rfl, ho0, hb⟩; refine ⟨_, rfl, ?_⟩; have n0_ := Aside0.mk (Kd.V_below (by (with_reducible repeat (first | apply Kd.V_alloc | apply Kd.V_drewN | apply Kd.V_drew)); exact HO_0.out) hb); have n1_ := Aside0.mk (Kd.R_below (by (with_reducible repeat (first | apply Kd.R_alloc | apply Kd.R_drewN | apply Kd.R_drew)); exact HO_159003.out) hb); have n2_ := Aside0.mk (Kd.V_lower (Kd.V_mono (ok' := fun k_ => (P0_ k_ ∨ w.heap.size ≤ k_) ∧ some k_ ≠ (u159003 : Value).ownBlock ∧ k_ ≠ gb157 ∧ k_ ≠ gb158) ho0 (fun k_ hk_ => ⟨Or.elim hk_ (fun hs_ => hs_.1) (fun hn_ => (.inr (Nat.le_trans (below_size (by repeat (first | (with_reducible first | exact HB.out | apply below_alloc | apply pw_below_drewN | apply below_drew1 | refine below_set ?_ GE157.out | refine below_set ?_ GE158.out) | exact HB.out))) hn_))), Or.elim hk_ (fun hs_ => hs_.2.1) (fun hn_ => (Kd.fresh' (Kd.R_lt (by (with_reducible repeat (first | apply Kd.R_alloc | apply Kd.R_drewN | apply Kd.R_drew)); exact HO_159003.out)) k_ hn_)), Or.elim hk_ (fun hs_ => hs_.2.2.1) (fun hn_ => (Kd.freshB (g := gb157) (o := .cells #[.bool x158000_1, .bool x158001_1, .bool x158002_1, .slice none 0 0, .string x158004_1, .int .u64 x158005_1] 27 (0, 0)) (by (with_reducible repeat (first | refine blk_drewN ?_ _ | refine blk_drew ?_ | refine blk_alloc ?_ _)); exact BK157.out) k_ hn_)), Or.elim hk_ (fun hs_ => hs_.2.2.2) (fun hn_ => (Kd.freshB (g := gb158) (o := .cells #[.bool x159000_1, .bool x159001_1, .bool x159002_1, u159003, .string x159004_1, .int .u64 x159005_1] 27 (0, 0)) (by (with_reducible repeat (first | refine blk_drewN ?_ _ | refine blk_drew ?_ | refine blk_alloc ?_ _)); exact BK158.out) k_ hn_))⟩)) (below_size (by repeat (first | (with_reducible first | exact HB.out | apply below_alloc | apply pw_below_drewN | apply below_drew1 | refine below_set ?_ GE157.out | refine below_set ?_ GE158.out) | exact HB.out)))); have n3_ := Aside0.mk (blk_below (g := gb157) (o := .cells #[.bool x158000_1, .bool x158001_1, .bool x158002_1, .slice none 0 0, .string x158004_1, .int .u64 x158005_1] 27 (0, 0)) (by (with_reducible repeat (first | refine blk_drewN ?_ _ | refine blk_drew ?_ | refine blk_alloc ?_ _)); exact BK157.out) hb); have n4_ := Aside0.mk (blk_below (g := gb158) (o := .cells #[.bool x159000_1, .bool x159001_1, .bool x159002_1, u159003, .string x159004_1, .int .u64 x159005_1] 27 (0, 0)) (by (with_reducible repeat (first | refine blk_drewN ?_ _ | refine blk_drew ?_ | refine blk_alloc ?_ _)); exact BK158.out) hb); have n5_ := Aside0.mk (below_step (by repeat (first | (with_reducible first | exact HB.out | apply below_alloc | apply pw_below_drewN | apply below_drew1 | refine below_set ?_ GE157.out | refine below_set ?_ GE158.out) | exact HB.out)) hb); clear HO_0; clear HO_159003; clear BK157; clear BK158; clear HB; have HO_0 := n0_; have HO_159003 := n1_; have HO164 := n2_; have BK157 := n3_; have BK158 := n4_; have HB := n5_; clear n0_ n1_ n2_ n3_ n4_ n5_; (try clear hb); (try clear hb2); (try clear hk); (try clear hi); (try clear ho0)))
        (try simp only [Act.put, List.setIfInBounds_toArray, List.set_cons_zero, List.set_cons_succ])
        go_cut [29] (fun v29 wc => ∃ (kq : Nat) (x29_5 : Bool), v29 = .bool x29_5 ∧ Aside0 (spec_PbLinkOf.j1 kq x0_1 t159 t161 t162 t165 x29_5 x159000_1 x159001_1 x159002_1 x159003_1 x159004_1 x159005_1 = some (r1, r2, r3, r4, r5, r6, r7)) ∧ Aside0 (kq ≤ k1) ∧ Aside0 (Kd.V (Kd.int .u8) 5 wc w.heap.size (fun k_ => (P0_ k_ ∨ w.heap.size ≤ k_) ∧ some k_ ≠ (u159003 : Value).ownBlock ∧ k_ ≠ gb157 ∧ k_ ≠ gb158) (.slice Ao7 x0_1.length co7) x0_1) ∧ Aside0 (Kd.V (Kd.int .u8) 5 wc w.heap.size (fun k_ => (P0_ k_ ∨ w.heap.size ≤ k_) ∧ some k_ ≠ (u159003 : Value).ownBlock ∧ k_ ≠ gb157 ∧ k_ ≠ gb158) v163 t162) ∧ Aside0 (Kd.R (Kd.int .u8) 5 wc w.heap.size (fun k_ => (w.heap.size ≤ k_)) u159003 x159003_1) ∧ Aside0 (wc.heap[gb157]? = some (.cells #[.bool x158000_1, .bool x158001_1, .bool x158002_1, (.slice none 0 0), .string x158004_1, .int .u64 x158005_1] 27 (0, 0))) ∧ Aside0 (wc.heap[gb158]? = some (.cells #[.bool x159000_1, .bool x159001_1, .bool x159002_1, u159003, .string x159004_1, .int .u64 x159005_1] 27 (0, 0))) ∧ Aside0 (Below w.heap.size w wc))
        case first =>
          have H := HC6.out
          clear HC6
          by_cases c9 : t165 = 0
          · rw [if_pos c9] at H
            have c9b0 : (t165 == 0) = true := beq_iff_eq.mpr c9
            have c9b1 : (t165 != 0) = false := bne_eq_false_iff_eq.mpr c9
            clear c9
            (first | rw [c9b0] | (simp only [i64_w, i32_w]; rw [c9b0]) | skip)
            have H' := Aside0.mk H
            clear H
            go_wp2
            go_meet
            case rel => exact ⟨_, (true), (by first | rfl | (simp; done) | (simp [*]; done)), H', ⟨by have := HK1.out; first | omega | exact Nat.le_refl _⟩, ⟨by (with_reducible repeat (first | apply Kd.V_alloc | apply Kd.V_drewN | apply Kd.V_drew)); exact HO_0.out⟩, ⟨by (with_reducible repeat (first | apply Kd.V_alloc | apply Kd.V_drewN | apply Kd.V_drew)); exact HO164.out⟩, ⟨by (with_reducible repeat (first | apply Kd.R_alloc | apply Kd.R_drewN | apply Kd.R_drew)); exact HO_159003.out⟩, ⟨by (with_reducible repeat (first | refine blk_drewN ?_ _ | refine blk_drew ?_ | refine blk_alloc ?_ _)); exact BK157.out⟩, ⟨by (with_reducible repeat (first | refine blk_drewN ?_ _ | refine blk_drew ?_ | refine blk_alloc ?_ _)); exact BK158.out⟩, ⟨by repeat (first | (with_reducible first | exact HB.out | apply below_alloc | apply pw_below_drewN | apply below_drew1 | refine below_set ?_ GE157.out | refine below_set ?_ GE158.out) | exact HB.out)⟩⟩
          · rw [if_neg c9] at H
            have c9b0 : (t165 == 0) = false := beq_eq_false_iff_ne.mpr c9
            have c9b1 : (t165 != 0) = true := bne_iff_ne.mpr c9
            (first | rw [c9b0] | (simp only [i64_w, i32_w]; rw [c9b0]) | skip)
            have H' := Aside0.mk H
            clear H
            go_wp2
            go_meet
            case rel => exact ⟨_, (((t159 == 3) != (t160 == 0))), (by first | rfl | (simp; done) | (simp [*]; done)), H', ⟨by have := HK1.out; first | omega | exact Nat.le_refl _⟩, ⟨by (with_reducible repeat (first | apply Kd.V_alloc | apply Kd.V_drewN | apply Kd.V_drew)); exact HO_0.out⟩, ⟨by (with_reducible repeat (first | apply Kd.V_alloc | apply Kd.V_drewN | apply Kd.V_drew)); exact HO164.out⟩, ⟨by (with_reducible repeat (first | apply Kd.R_alloc | apply Kd.R_drewN | apply Kd.R_drew)); exact HO_159003.out⟩, ⟨by (with_reducible repeat (first | refine blk_drewN ?_ _ | refine blk_drew ?_ | refine blk_alloc ?_ _)); exact BK157.out⟩, ⟨by (with_reducible repeat (first | refine blk_drewN ?_ _ | refine blk_drew ?_ | refine blk_alloc ?_ _)); exact BK158.out⟩, ⟨by repeat (first | (with_reducible first | exact HB.out | apply below_alloc | apply pw_below_drewN | apply below_drew1 | refine below_set ?_ GE157.out | refine below_set ?_ GE158.out) | exact HB.out)⟩⟩
        case rest =>
          clear HC6
          try clear c1
          try clear p2
          try clear c4
          try clear c4b0
          try clear c4b1
          try clear c9
          try clear c9b0
          try clear c9b1
          try clear p2
          obtain ⟨kq, x29_5, rfl, HA, HJ5, HO_0, HO_8, HO_159003, BK157, BK158, HB⟩ := hcut
          cases kq with
          | zero => exact absurd HA.out (by simp [spec_PbLinkOf.j1])
          | succ kj5 =>
            have H := HA.out
            clear HA
            simp only [spec_PbLinkOf.j1] at H
            by_cases c10 : x29_5 = true
            · subst c10
              have H1 : (some (false, false, false, ([] : List Int), (⟨#[]⟩ : ByteArray), 0, false)) = some (r1, r2, r3, r4, r5, r6, r7) := by rw [if_pos rfl] at H; exact H
              clear H
              have H := H1
              clear H1
              simp only [Option.some.injEq, Prod.mk.injEq] at H
              obtain ⟨rfl, rfl, rfl, rfl, rfl, rfl, rfl⟩ := H
              have hnb11 := NB157_158.out
              have hnc11 := NB158_157.out
              have hcz12_0 : wc.cell? ⟨gb157, 0, none⟩ = some (.bool x158000_1) := (blk_cell BK157.out 0).trans rfl
              have hcz12_1 : wc.cell? ⟨gb157, 1, none⟩ = some (.bool x158001_1) := (blk_cell BK157.out 1).trans rfl
              have hcz12_2 : wc.cell? ⟨gb157, 2, none⟩ = some (.bool x158002_1) := (blk_cell BK157.out 2).trans rfl
              have hcz12_3 : wc.cell? ⟨gb157, 3, none⟩ = some (.slice none 0 0) := (blk_cell BK157.out 3).trans rfl
              have hcz12_4 : wc.cell? ⟨gb157, 4, none⟩ = some (.string x158004_1) := (blk_cell BK157.out 4).trans rfl
              have hcz12_5 : wc.cell? ⟨gb157, 5, none⟩ = some (.int .u64 x158005_1) := (blk_cell BK157.out 5).trans rfl
              have hfz12_0 := blk_frozen BK157.out 0
              have hfz12_1 := blk_frozen BK157.out 1
              have hfz12_2 := blk_frozen BK157.out 2
              have hfz12_3 := blk_frozen BK157.out 3
              have hfz12_4 := blk_frozen BK157.out 4
              have hfz12_5 := blk_frozen BK157.out 5
              go_wp2
              refine bodyPost_ret (results_ct rfl _ _ gb157 27 #[.bool false, .bool false, .bool false, .slice none 0 0, .string (⟨#[]⟩ : ByteArray), .int .u64 0] (0, 0) _ rfl (by (with_reducible repeat (first | refine blk_drewN ?_ _ | refine blk_drew ?_ | refine blk_alloc ?_ _)); refine blk_put (cs := #[.bool false, .bool false, .bool false, .slice none 0 0, .string (⟨#[]⟩ : ByteArray), .int .u64 x158005_1]) ?_ 5 _ rfl; (with_reducible repeat (first | refine blk_drewN ?_ _ | refine blk_drew ?_ | refine blk_alloc ?_ _)); refine blk_put (cs := #[.bool false, .bool false, .bool false, .slice none 0 0, .string x158004_1, .int .u64 x158005_1]) ?_ 4 _ rfl; (with_reducible repeat (first | refine blk_drewN ?_ _ | refine blk_drew ?_ | refine blk_alloc ?_ _)); refine blk_put (cs := #[.bool false, .bool false, .bool false, .slice none 0 0, .string x158004_1, .int .u64 x158005_1]) ?_ 3 _ rfl; (with_reducible repeat (first | refine blk_drewN ?_ _ | refine blk_drew ?_ | refine blk_alloc ?_ _)); refine blk_put (cs := #[.bool false, .bool false, .bool x158002_1, .slice none 0 0, .string x158004_1, .int .u64 x158005_1]) ?_ 2 _ rfl; (with_reducible repeat (first | refine blk_drewN ?_ _ | refine blk_drew ?_ | refine blk_alloc ?_ _)); refine blk_put (cs := #[.bool false, .bool x158001_1, .bool x158002_1, .slice none 0 0, .string x158004_1, .int .u64 x158005_1]) ?_ 1 _ rfl; (with_reducible repeat (first | refine blk_drewN ?_ _ | refine blk_drew ?_ | refine blk_alloc ?_ _)); refine blk_put (cs := #[.bool x158000_1, .bool x158001_1, .bool x158002_1, .slice none 0 0, .string x158004_1, .int .u64 x158005_1]) ?_ 0 _ rfl; (with_reducible repeat (first | refine blk_drewN ?_ _ | refine blk_drew ?_ | refine blk_alloc ?_ _)); exact BK157.out) Tryd.underlying27 rfl (by kernel_rfl)) rfl ?_
              exact ⟨_, by first | rfl | (simp [errV_none, errV_some] <;> rfl) | (simp [*, errV_none, errV_some] <;> rfl), by first | exact Kd.R_nil _ _ _ _ _ | exact Kd.N_nil _ _ _ _ _ | exact Kd.V_nil _ _ _ _ _ | exact Kd.Q_nil _ _ _ _ _ | exact Kd.S_nil _ _ _ _ _, by repeat (first | (with_reducible first | exact HB.out | apply below_alloc | apply pw_below_drewN | apply below_drew1 | refine below_set ?_ GE157.out | refine below_set ?_ GE158.out) | exact HB.out)⟩
            · replace c10 := Bool.eq_false_iff.mpr c10
              subst c10
              have H1 : (if t159 = 1 then ((some (([] : List Int) : List Int)).bind fun y166 => (if y166.length + t162.length < 140737488355328 then (if 0 ≤ t165 then (if t165 ≤ (x0_1.length : Int) then (spec_PbLinkOf.l0 kj5 (x0_1.drop (t165 : Int).toNat) true x159001_1 x159002_1 (y166 ++ t162) x159004_1 x159005_1) else (none)) else (none)) else (none))) else (if t159 = 2 then (if 0 ≤ t165 then (if t165 ≤ (x0_1.length : Int) then (spec_PbLinkOf.l0 kj5 (x0_1.drop (t165 : Int).toNat) x159000_1 true x159002_1 x159003_1 (strOfNums t162) x159005_1) else (none)) else (none)) else (if t159 = 3 then (if 0 ≤ t165 then (if t165 ≤ (x0_1.length : Int) then (spec_PbLinkOf.l0 kj5 (x0_1.drop (t165 : Int).toNat) x159000_1 x159001_1 true x159003_1 x159004_1 t161) else (none)) else (none)) else (if 0 ≤ t165 then (if t165 ≤ (x0_1.length : Int) then (spec_PbLinkOf.l0 kj5 (x0_1.drop (t165 : Int).toNat) x159000_1 x159001_1 x159002_1 x159003_1 x159004_1 x159005_1) else (none)) else (none))))) = some (r1, r2, r3, r4, r5, r6, r7) := by rw [if_neg (show ¬ (false = true) by decide)] at H; exact H
              clear H
              have H := H1
              clear H1
              by_cases c13 : t159 = 1
              · rw [if_pos c13] at H
                have c13b0 : (t159 == 1) = true := beq_iff_eq.mpr c13
                have c13b1 : (t159 != 1) = false := bne_eq_false_iff_eq.mpr c13
                clear c13
                obtain ⟨y166, hy166⟩ : ∃ y_ : List Int, y_ = (([] : List Int)) := ⟨_, rfl⟩
                replace H : (if y166.length + t162.length < 140737488355328 then (if 0 ≤ t165 then (if t165 ≤ (x0_1.length : Int) then (spec_PbLinkOf.l0 kj5 (x0_1.drop (t165 : Int).toNat) true x159001_1 x159002_1 (y166 ++ t162) x159004_1 x159005_1) else (none)) else (none)) else (none)) = some (r1, r2, r3, r4, r5, r6, r7) := by first | (rw [hy166]; with_reducible exact H) | (have H2_ := (Option.bind_some _ _).symm.trans H; rw [hy166]; with_reducible exact H2_) | (have H2_ := (Option.bind_some _ _).symm.trans H; with_reducible exact H2_) | with_reducible exact H | (rw [hy166]; exact H) | exact H
                have Ny166 := Aside0.mk hy166
                clear hy166
                by_cases c14 : y166.length + t162.length < 140737488355328
                · rw [if_pos c14] at H
                  have LMc14 := Aside0.mk c14
                  clear c14
                  obtain ⟨y169, hy169⟩ : ∃ y_ : List Int, y_ = (y166 ++ t162) := ⟨_, rfl⟩
                  replace H : (if 0 ≤ t165 then (if t165 ≤ (x0_1.length : Int) then (spec_PbLinkOf.l0 kj5 (x0_1.drop (t165 : Int).toNat) true x159001_1 x159002_1 y169 x159004_1 x159005_1) else (none)) else (none)) = some (r1, r2, r3, r4, r5, r6, r7) := by first | (rw [hy169]; with_reducible exact H) | (have H2_ := (Option.bind_some _ _).symm.trans H; rw [hy169]; with_reducible exact H2_) | (have H2_ := (Option.bind_some _ _).symm.trans H; with_reducible exact H2_) | with_reducible exact H | (rw [hy169]; exact H) | exact H
                  have Ny169 := Aside0.mk hy169
                  clear hy169
                  by_cases c15 : 0 ≤ t165
                  · rw [if_pos c15] at H
                    have c15b0 := eq_true c15
                    have c15b1 : decide (0 ≤ t165) = true := decide_eq_true c15
                    clear c15
                    by_cases c16 : t165 ≤ (x0_1.length : Int)
                    · rw [if_pos c16] at H
                      have c16b0 := eq_true c16
                      have c16b1 : decide (t165 ≤ (x0_1.length : Int)) = true := decide_eq_true c16
                      clear c16
                      obtain ⟨y172, hy172⟩ : ∃ y_ : List Int, y_ = (x0_1.drop (t165 : Int).toNat) := ⟨_, rfl⟩
                      replace H : (spec_PbLinkOf.l0 kj5 y172 true x159001_1 x159002_1 y169 x159004_1 x159005_1) = some (r1, r2, r3, r4, r5, r6, r7) := by first | (rw [hy172]; with_reducible exact H) | (have H2_ := (Option.bind_some _ _).symm.trans H; rw [hy172]; with_reducible exact H2_) | (have H2_ := (Option.bind_some _ _).symm.trans H; with_reducible exact H2_) | with_reducible exact H | (rw [hy172]; exact H) | exact H
                      have Ny172 := Aside0.mk hy172
                      clear hy172
                      have H' := Aside0.mk H
                      clear H
                      go_wp2_with (first | ((with_reducible refine gate_dst (N := 34) rfl ?_); refine Kd.R_lit (Kd.int .u8) _ 5 ?hg (N := 34) ?hd (xs := ([] : List Int)) (inner := []) (ok := fun _ => True) (okp := fun _ => True) ?hr ?hp (fun _ hk => hk) trivial (Below.refl _ _) (Nat.le_refl _) (by simp) ?_; (case hd => rfl); (case hg => rfl); (case hr => first | (go_simp; done) | (go_simp; rfl)); (case hp => exact (Reps.none _ _)); intro v167 w17 ho18 hb hg_ hnew_; clear hg_ hnew_; (first | rw [← Ny166.out] at ho18 | (simp only [Int.reduceToNat] at ho18; rw [← Ny166.out] at ho18)); have n0_ := Aside0.mk (Kd.V_elder' (by (with_reducible repeat (first | apply Kd.V_alloc | apply Kd.V_drewN | apply Kd.V_drew)); exact HO_0.out) (Kd.R_base ho18) hb); have n1_ := Aside0.mk (Kd.V_elder' (by (with_reducible repeat (first | apply Kd.V_alloc | apply Kd.V_drewN | apply Kd.V_drew)); exact HO_8.out) (Kd.R_base ho18) hb); have n2_ := Aside0.mk (Kd.R_elder' (by (with_reducible repeat (first | apply Kd.R_alloc | apply Kd.R_drewN | apply Kd.R_drew)); exact HO_159003.out) (Kd.R_base ho18) hb); have n3_ := Aside0.mk (Kd.R_lower (Kd.R_new' (Kd.R_newM (M := fun k_ => (w.heap.size ≤ k_)) ho18 (below_size (by repeat (first | (with_reducible first | exact HB.out | apply below_alloc | apply pw_below_drewN | apply below_drew1 | refine below_set ?_ GE157.out | refine below_set ?_ GE158.out) | exact HB.out))) (fun k_ h_ => h_)) (Kd.R_lt (by (with_reducible repeat (first | apply Kd.R_alloc | apply Kd.R_drewN | apply Kd.R_drew)); exact HO_159003.out))) (below_size (by repeat (first | (with_reducible first | exact HB.out | apply below_alloc | apply pw_below_drewN | apply below_drew1 | refine below_set ?_ GE157.out | refine below_set ?_ GE158.out) | exact HB.out)))); have n4_ := Aside0.mk (blk_below (g := gb157) (o := .cells #[.bool x158000_1, .bool x158001_1, .bool x158002_1, .slice none 0 0, .string x158004_1, .int .u64 x158005_1] 27 (0, 0)) (by (with_reducible repeat (first | refine blk_drewN ?_ _ | refine blk_drew ?_ | refine blk_alloc ?_ _)); exact BK157.out) hb); have n5_ := Aside0.mk (blk_below (g := gb158) (o := .cells #[.bool x159000_1, .bool x159001_1, .bool x159002_1, u159003, .string x159004_1, .int .u64 x159005_1] 27 (0, 0)) (by (with_reducible repeat (first | refine blk_drewN ?_ _ | refine blk_drew ?_ | refine blk_alloc ?_ _)); exact BK158.out) hb); have n6_ := Aside0.mk (below_step (by repeat (first | (with_reducible first | exact HB.out | apply below_alloc | apply pw_below_drewN | apply below_drew1 | refine below_set ?_ GE157.out | refine below_set ?_ GE158.out) | exact HB.out)) hb); clear HO_0; clear HO_8; clear HO_159003; clear BK157; clear BK158; clear HB; have HO_0 := n0_; have HO_8 := n1_; have HO_159003 := n2_; have HO168 := n3_; have BK157 := n4_; have BK158 := n5_; have HB := n6_; clear n0_ n1_ n2_ n3_ n4_ n5_ n6_; clear hb ho18; obtain ⟨Ao20, co20, eo20⟩ := Kd.V_slice HO_8.out; subst eo20) | ((with_reducible refine gate_builtin (b := .append) (xs := #[.tmp 34, .tmp 35]) rfl ?_); at_builtin; refine Kd.R_append_rows (Kd.int .u8) (w0 := w) w.heap.size rfl (.tmp 34) (.tmp 35) 22 5 (.int .u8 0) 1 rfl Tryd.underlying22 info5 rfl (by decide) (by omega) v167 y166 t162 _ _ _ (fun k_ => (w.heap.size ≤ k_) ∧ some k_ ≠ (u159003 : Value).ownBlock) (fun _ => False) rfl rfl ?aO ?aR (fun _ _ h => h) (fun _ h => h.elim) ?aF ?aB ?aS ?aL ?_; (case aR => repeat (first | exact (Kd.V_reads' HO_8.out).2.2 | (with_reducible refine Kd.C_alloc ?_ _) | (with_reducible refine Kd.C_drewN ?_ _) | (with_reducible refine Kd.C_drew ?_))); (case aB => exact (by repeat (first | (with_reducible first | exact HB.out | apply below_alloc | apply pw_below_drewN | apply below_drew1 | refine below_set ?_ GE157.out | refine below_set ?_ GE158.out) | exact HB.out))); (case aF => exact (fun k_ hk => ⟨(Nat.le_trans (below_size (by repeat (first | (with_reducible first | exact HB.out | apply below_alloc | apply pw_below_drewN | apply below_drew1 | refine below_set ?_ GE157.out | refine below_set ?_ GE158.out) | exact HB.out))) hk), Kd.fresh' (Kd.R_lt (by (with_reducible repeat (first | apply Kd.R_alloc | apply Kd.R_drewN | apply Kd.R_drew)); exact HO_159003.out)) k_ hk⟩)); (case aO => exact (by (with_reducible repeat (first | apply Kd.R_alloc | apply Kd.R_drewN | apply Kd.R_drew)); exact Kd.R_mono HO168.out (fun _ hk => ⟨hk.1.1, hk.2⟩))); (case aS => exact (below_size (by repeat (first | (with_reducible first | exact HB.out | apply below_alloc | apply pw_below_drewN | apply below_drew1 | refine below_set ?_ GE157.out | refine below_set ?_ GE158.out) | exact HB.out)))); (case aL => have := LMc14.out; omega); intro v170 w19 ho hb hg hat; rw [← Ny169.out] at ho; have n0_ := Aside0.mk (Kd.V_afterv (ok := (fun k_ => (P0_ k_ ∨ w.heap.size ≤ k_) ∧ some k_ ≠ (u159003 : Value).ownBlock ∧ k_ ≠ gb157 ∧ k_ ≠ gb158)) (by (with_reducible repeat (first | apply Kd.V_alloc | apply Kd.V_drewN | apply Kd.V_drew)); exact HO_0.out) hg hat); have n1_ := Aside0.mk (Kd.V_afterv (ok := (fun k_ => (P0_ k_ ∨ w.heap.size ≤ k_) ∧ some k_ ≠ (u159003 : Value).ownBlock ∧ k_ ≠ gb157 ∧ k_ ≠ gb158)) (by (with_reducible repeat (first | apply Kd.V_alloc | apply Kd.V_drewN | apply Kd.V_drew)); exact HO_8.out) hg hat); have n2_ := Aside0.mk (Kd.R_after (ok := (fun k_ => (w.heap.size ≤ k_))) (by (with_reducible repeat (first | apply Kd.R_alloc | apply Kd.R_drewN | apply Kd.R_drew)); exact HO_159003.out) hg hat); have n3_ := Aside0.mk (blk_grown (g := gb157) (o := .cells #[.bool x158000_1, .bool x158001_1, .bool x158002_1, .slice none 0 0, .string x158004_1, .int .u64 x158005_1] 27 (0, 0)) (by (with_reducible repeat (first | refine blk_drewN ?_ _ | refine blk_drew ?_ | refine blk_alloc ?_ _)); exact BK157.out) hg (Kd.R_ne HO168.out BK157.out (by decide))); have n4_ := Aside0.mk (blk_grown (g := gb158) (o := .cells #[.bool x159000_1, .bool x159001_1, .bool x159002_1, u159003, .string x159004_1, .int .u64 x159005_1] 27 (0, 0)) (by (with_reducible repeat (first | refine blk_drewN ?_ _ | refine blk_drew ?_ | refine blk_alloc ?_ _)); exact BK158.out) hg (Kd.R_ne HO168.out BK158.out (by decide))); have n5_ := Aside0.mk (hb); have n6_ := Aside0.mk (ho); clear HO_0; clear HO_8; clear HO_159003; clear BK157; clear BK158; clear HB; clear HO168; have HO_0 := n0_; have HO_8 := n1_; have HO_159003 := n2_; have BK157 := n3_; have BK158 := n4_; have HB := n5_; have HO171 := n6_; clear n0_ n1_ n2_ n3_ n4_ n5_ n6_; clear ho hb hg hat; have hnb21 := NB158_157.out; have hnc21 := NB157_158.out; have hcz22_0 : w19.cell? ⟨gb158, 0, none⟩ = some (.bool x159000_1) := (blk_cell BK158.out 0).trans rfl; have hcz22_1 : w19.cell? ⟨gb158, 1, none⟩ = some (.bool x159001_1) := (blk_cell BK158.out 1).trans rfl; have hcz22_2 : w19.cell? ⟨gb158, 2, none⟩ = some (.bool x159002_1) := (blk_cell BK158.out 2).trans rfl; have hcz22_3 : w19.cell? ⟨gb158, 3, none⟩ = some (u159003) := (blk_cell BK158.out 3).trans rfl; have hcz22_4 : w19.cell? ⟨gb158, 4, none⟩ = some (.string x159004_1) := (blk_cell BK158.out 4).trans rfl; have hcz22_5 : w19.cell? ⟨gb158, 5, none⟩ = some (.int .u64 x159005_1) := (blk_cell BK158.out 5).trans rfl; have hfz22_0 := blk_frozen BK158.out 0; have hfz22_1 := blk_frozen BK158.out 1; have hfz22_2 := blk_frozen BK158.out 2; have hfz22_3 := blk_frozen BK158.out 3; have hfz22_4 := blk_frozen BK158.out 4; have hfz22_5 := blk_frozen BK158.out 5) | ((with_reducible refine gate_store (t := 4) (p := 37) rfl ?_); refine store_event (t := 4) (p := 37) (v := ?vo_w23) (w1 := (w19.setCell ⟨gb158, 0, none⟩ (.bool true))) ?hg ?ho ?hn ?hr ?_; (case ho => rfl); (case hg => rfl); (case hn => rfl); (case hr => first | (go_simp; done) | (go_simp; rfl)); intro w23 hw; have n0_ : Aside0 (Kd.V (Kd.int .u8) 5 w23 w.heap.size (fun k_ => (P0_ k_ ∨ w.heap.size ≤ k_) ∧ some k_ ≠ (u159003 : Value).ownBlock ∧ some k_ ≠ (v170 : Value).ownBlock ∧ k_ ≠ gb157 ∧ k_ ≠ gb158) (.slice Ao7 x0_1.length co7) x0_1) := ⟨(by rw [hw]; exact (by (with_reducible repeat (first | apply Kd.V_alloc | apply Kd.V_drewN | apply Kd.V_drew)); exact Kd.V_mono (Kd.V_far (p := ⟨gb158, 0, none⟩) (Kd.V_mono HO_0.out (fun k_ hk => (⟨hk, hk.1.2.2.2⟩ : _ ∧ k_ ≠ gb158))) (fun _ hk => hk.2) (.bool true)) (fun _ hk => ⟨hk.1.1.1, ⟨hk.1.1.2.1, ⟨hk.1.2, ⟨hk.1.1.2.2.1, hk.1.1.2.2.2⟩⟩⟩⟩)))⟩; have n1_ : Aside0 (Kd.V (Kd.int .u8) 5 w23 w.heap.size (fun k_ => (P0_ k_ ∨ w.heap.size ≤ k_) ∧ some k_ ≠ (u159003 : Value).ownBlock ∧ some k_ ≠ (v170 : Value).ownBlock ∧ k_ ≠ gb157 ∧ k_ ≠ gb158) (.slice Ao20 t162.length co20) t162) := ⟨(by rw [hw]; exact (by (with_reducible repeat (first | apply Kd.V_alloc | apply Kd.V_drewN | apply Kd.V_drew)); exact Kd.V_mono (Kd.V_far (p := ⟨gb158, 0, none⟩) (Kd.V_mono HO_8.out (fun k_ hk => (⟨hk, hk.1.2.2.2⟩ : _ ∧ k_ ≠ gb158))) (fun _ hk => hk.2) (.bool true)) (fun _ hk => ⟨hk.1.1.1, ⟨hk.1.1.2.1, ⟨hk.1.2, ⟨hk.1.1.2.2.1, hk.1.1.2.2.2⟩⟩⟩⟩)))⟩; have n2_ : Aside0 (Kd.R (Kd.int .u8) 5 w23 w.heap.size (fun k_ => (w.heap.size ≤ k_) ∧ some k_ ≠ (v170 : Value).ownBlock) u159003 x159003_1) := ⟨(by rw [hw]; exact (by (with_reducible repeat (first | apply Kd.R_alloc | apply Kd.R_drewN | apply Kd.R_drew)); exact Kd.R_mono (Kd.R_far (p := ⟨gb158, 0, none⟩) (Kd.R_types HO_159003.out BK158.out (by decide)) (fun _ hk => hk.2) (.bool true)) (fun _ hk => ⟨hk.1.1, hk.1.2⟩)))⟩; have n3_ : Aside0 (Kd.R (Kd.int .u8) 5 w23 w.heap.size (fun k_ => (w.heap.size ≤ k_) ∧ some k_ ≠ (u159003 : Value).ownBlock) v170 y169) := ⟨(by rw [hw]; exact (by (with_reducible repeat (first | apply Kd.R_alloc | apply Kd.R_drewN | apply Kd.R_drew)); exact Kd.R_mono (Kd.R_far (p := ⟨gb158, 0, none⟩) (Kd.R_types HO171.out BK158.out (by decide)) (fun _ hk => hk.2) (.bool true)) (fun _ hk => ⟨hk.1.1, hk.1.2⟩)))⟩; have n4_ : Aside0 (w23.heap[gb157]? = some (.cells #[.bool x158000_1, .bool x158001_1, .bool x158002_1, .slice none 0 0, .string x158004_1, .int .u64 x158005_1] 27 (0, 0))) := ⟨(by rw [hw]; exact (by (with_reducible repeat (first | refine blk_drewN ?_ _ | refine blk_drew ?_ | refine blk_alloc ?_ _)); refine blk_far ?_ NB157_158.out _; (with_reducible repeat (first | refine blk_drewN ?_ _ | refine blk_drew ?_ | refine blk_alloc ?_ _)); exact BK157.out))⟩; have n5_ : Aside0 (w23.heap[gb158]? = some (.cells #[.bool true, .bool x159001_1, .bool x159002_1, u159003, .string x159004_1, .int .u64 x159005_1] 27 (0, 0))) := ⟨(by rw [hw]; exact (by (with_reducible repeat (first | refine blk_drewN ?_ _ | refine blk_drew ?_ | refine blk_alloc ?_ _)); refine blk_put (cs := #[.bool x159000_1, .bool x159001_1, .bool x159002_1, u159003, .string x159004_1, .int .u64 x159005_1]) ?_ 0 _ rfl; (with_reducible repeat (first | refine blk_drewN ?_ _ | refine blk_drew ?_ | refine blk_alloc ?_ _)); exact BK158.out))⟩; have n6_ : Aside0 (Below w.heap.size w w23) := ⟨(by rw [hw]; exact (by repeat (first | (with_reducible first | exact HB.out | apply below_alloc | apply pw_below_drewN | apply below_drew1 | refine below_set ?_ GE157.out | refine below_set ?_ GE158.out) | exact HB.out)))⟩; clear hw; clear HO_0; clear HO_8; clear HO_159003; clear HO171; clear BK157; clear BK158; clear HB; have HO_0 := n0_; have HO_8 := n1_; have HO_159003 := n2_; have HO171 := n3_; have BK157 := n4_; have BK158 := n5_; have HB := n6_; clear n0_ n1_ n2_ n3_ n4_ n5_ n6_; obtain ⟨Ao24, co24, eo24⟩ := Kd.R_slice HO171.out; subst eo24; have hcz25_0 : w23.cell? ⟨gb158, 0, none⟩ = some (.bool true) := (blk_cell BK158.out 0).trans rfl; have hcz25_1 : w23.cell? ⟨gb158, 1, none⟩ = some (.bool x159001_1) := (blk_cell BK158.out 1).trans rfl; have hcz25_2 : w23.cell? ⟨gb158, 2, none⟩ = some (.bool x159002_1) := (blk_cell BK158.out 2).trans rfl; have hcz25_3 : w23.cell? ⟨gb158, 3, none⟩ = some (u159003) := (blk_cell BK158.out 3).trans rfl; have hcz25_4 : w23.cell? ⟨gb158, 4, none⟩ = some (.string x159004_1) := (blk_cell BK158.out 4).trans rfl; have hcz25_5 : w23.cell? ⟨gb158, 5, none⟩ = some (.int .u64 x159005_1) := (blk_cell BK158.out 5).trans rfl; have hfz25_0 := blk_frozen BK158.out 0; have hfz25_1 := blk_frozen BK158.out 1; have hfz25_2 := blk_frozen BK158.out 2; have hfz25_3 := blk_frozen BK158.out 3; have hfz25_4 := blk_frozen BK158.out 4; have hfz25_5 := blk_frozen BK158.out 5) | ((with_reducible refine gate_store (t := 22) (p := 38) rfl ?_); refine store_event (t := 22) (p := 38) (v := ?vo_w26) (w1 := (w23.setCell ⟨gb158, 3, none⟩ (.slice Ao24 y169.length co24))) ?hg ?ho ?hn ?hr ?_; (case ho => rfl); (case hg => rfl); (case hn => rfl); (case hr => first | (go_simp; done) | (go_simp; rfl)); intro w26 hw; have n0_ : Aside0 (Kd.V (Kd.int .u8) 5 w26 w.heap.size (fun k_ => (P0_ k_ ∨ w.heap.size ≤ k_) ∧ some k_ ≠ (u159003 : Value).ownBlock ∧ some k_ ≠ (.slice Ao24 y169.length co24 : Value).ownBlock ∧ k_ ≠ gb157 ∧ k_ ≠ gb158) (.slice Ao7 x0_1.length co7) x0_1) := ⟨(by rw [hw]; exact (by (with_reducible repeat (first | apply Kd.V_alloc | apply Kd.V_drewN | apply Kd.V_drew)); exact Kd.V_mono (Kd.V_far (p := ⟨gb158, 3, none⟩) (Kd.V_mono HO_0.out (fun k_ hk => (⟨hk, hk.2.2.2.2⟩ : _ ∧ k_ ≠ gb158))) (fun _ hk => hk.2) (.slice Ao24 y169.length co24)) (fun _ hk => ⟨hk.1.1, ⟨hk.1.2.1, ⟨hk.1.2.2.1, ⟨hk.1.2.2.2.1, hk.1.2.2.2.2⟩⟩⟩⟩)))⟩; have n1_ : Aside0 (Kd.V (Kd.int .u8) 5 w26 w.heap.size (fun k_ => (P0_ k_ ∨ w.heap.size ≤ k_) ∧ some k_ ≠ (u159003 : Value).ownBlock ∧ some k_ ≠ (.slice Ao24 y169.length co24 : Value).ownBlock ∧ k_ ≠ gb157 ∧ k_ ≠ gb158) (.slice Ao20 t162.length co20) t162) := ⟨(by rw [hw]; exact (by (with_reducible repeat (first | apply Kd.V_alloc | apply Kd.V_drewN | apply Kd.V_drew)); exact Kd.V_mono (Kd.V_far (p := ⟨gb158, 3, none⟩) (Kd.V_mono HO_8.out (fun k_ hk => (⟨hk, hk.2.2.2.2⟩ : _ ∧ k_ ≠ gb158))) (fun _ hk => hk.2) (.slice Ao24 y169.length co24)) (fun _ hk => ⟨hk.1.1, ⟨hk.1.2.1, ⟨hk.1.2.2.1, ⟨hk.1.2.2.2.1, hk.1.2.2.2.2⟩⟩⟩⟩)))⟩; have n2_ : Aside0 (Kd.R (Kd.int .u8) 5 w26 w.heap.size (fun k_ => (w.heap.size ≤ k_) ∧ some k_ ≠ (.slice Ao24 y169.length co24 : Value).ownBlock) u159003 x159003_1) := ⟨(by rw [hw]; exact (by (with_reducible repeat (first | apply Kd.R_alloc | apply Kd.R_drewN | apply Kd.R_drew)); exact Kd.R_mono (Kd.R_far (p := ⟨gb158, 3, none⟩) (Kd.R_types HO_159003.out BK158.out (by decide)) (fun _ hk => hk.2) (.slice Ao24 y169.length co24)) (fun _ hk => ⟨hk.1.1, hk.1.2⟩)))⟩; have n3_ : Aside0 (Kd.R (Kd.int .u8) 5 w26 w.heap.size (fun k_ => (w.heap.size ≤ k_) ∧ some k_ ≠ (u159003 : Value).ownBlock) (.slice Ao24 y169.length co24) y169) := ⟨(by rw [hw]; exact (by (with_reducible repeat (first | apply Kd.R_alloc | apply Kd.R_drewN | apply Kd.R_drew)); exact Kd.R_mono (Kd.R_far (p := ⟨gb158, 3, none⟩) (Kd.R_types HO171.out BK158.out (by decide)) (fun _ hk => hk.2) (.slice Ao24 y169.length co24)) (fun _ hk => ⟨hk.1.1, hk.1.2⟩)))⟩; have n4_ : Aside0 (w26.heap[gb157]? = some (.cells #[.bool x158000_1, .bool x158001_1, .bool x158002_1, .slice none 0 0, .string x158004_1, .int .u64 x158005_1] 27 (0, 0))) := ⟨(by rw [hw]; exact (by (with_reducible repeat (first | refine blk_drewN ?_ _ | refine blk_drew ?_ | refine blk_alloc ?_ _)); refine blk_far ?_ NB157_158.out _; (with_reducible repeat (first | refine blk_drewN ?_ _ | refine blk_drew ?_ | refine blk_alloc ?_ _)); exact BK157.out))⟩; have n5_ : Aside0 (w26.heap[gb158]? = some (.cells #[.bool true, .bool x159001_1, .bool x159002_1, .slice Ao24 y169.length co24, .string x159004_1, .int .u64 x159005_1] 27 (0, 0))) := ⟨(by rw [hw]; exact (by (with_reducible repeat (first | refine blk_drewN ?_ _ | refine blk_drew ?_ | refine blk_alloc ?_ _)); refine blk_put (cs := #[.bool true, .bool x159001_1, .bool x159002_1, u159003, .string x159004_1, .int .u64 x159005_1]) ?_ 3 _ rfl; (with_reducible repeat (first | refine blk_drewN ?_ _ | refine blk_drew ?_ | refine blk_alloc ?_ _)); exact BK158.out))⟩; have n6_ : Aside0 (Below w.heap.size w w26) := ⟨(by rw [hw]; exact (by repeat (first | (with_reducible first | exact HB.out | apply below_alloc | apply pw_below_drewN | apply below_drew1 | refine below_set ?_ GE157.out | refine below_set ?_ GE158.out) | exact HB.out)))⟩; clear hw; clear HO_0; clear HO_8; clear HO_159003; clear HO171; clear BK157; clear BK158; clear HB; have HO_0 := n0_; have HO_8 := n1_; have HO_159003 := n2_; have HO171 := n3_; have BK157 := n4_; have BK158 := n5_; have HB := n6_; clear n0_ n1_ n2_ n3_ n4_ n5_ n6_; have q27 : (t165 : Int) ≤ ((x0_1.length : Int) : Int) := of_decide_eq_true (by first | (with_reducible assumption) | assumption); obtain ⟨i027, hi027, _, hsz27, _⟩ := info_parts info5; have hroom27 : x0_1.length ≤ co7 := (Kd.V_reads' HO_0.out).2.1; have hC27 : Kd.F (Kd.int .u8) _ _ Ao7 x0_1.length x0_1 := (Kd.V_at (base := w.heap.size) HO_0.out).2.2; have q027 : (0 : Int) ≤ (t165 : Int) := of_decide_eq_true (by first | (with_reducible assumption) | assumption); have hcut27 := cut_from (P := Tryd.prog) 22 5 .i64 Tryd.underlying22 hi027 1 hsz27 Ao7 x0_1.length co7 t165 q027 q27; have hr27 := Kd.F_cut (m := (t165 : Int).toNat) (c := co7) hC27 (by omega) hroom27; obtain ⟨A27, hA27⟩ : ∃ A1, A1 = (if co7 = (t165 : Int).toNat then Ao7 else (Ao7 : Option Addr).map (·.add ((t165 : Int).toNat * 1))) := ⟨_, rfl⟩; obtain ⟨c27, hc27⟩ : ∃ c1, c1 = co7 - (t165 : Int).toNat := ⟨_, rfl⟩; have hy27 : y172.length = x0_1.length - (t165 : Int).toNat := (by rw [Ny172.out, List.length_drop] <;> omega); rw [show (x0_1).drop (t165 : Int).toNat = y172 from Ny172.out.symm] at hr27; replace hr27 : Kd.F (Kd.int .u8) _ _ A27 y172.length y172 := (by rw [hA27]; exact hr27); rw [← hy27, ← hA27, ← hc27] at hcut27; have HO176 := Aside0.mk (show Kd.V (Kd.int .u8) 5 _ w.heap.size _ (.slice A27 y172.length c27) y172 from Kd.V_mk (by rw [hy27, hc27]; exact Nat.sub_le_sub_right hroom27 _) hr27); have HC176 := Aside0.mk (show y172.length ≤ c27 from by rw [hy27, hc27]; exact Nat.sub_le_sub_right hroom27 _); clear hr27 hC27 hroom27 hi027 hsz27 hc27; have KY27 := Aside0.mk hy27; have KA27 := Aside0.mk hA27; clear hy27 hA27; replace q27 := eq_true q27))
                      go_roundg kj5
                      case measure => have := HK1.out; have := HJ5.out; omega
                      case rel => exact ⟨(y172), (x158000_1), (x158001_1), (x158002_1), (x158004_1), (x158005_1), (true), (x159001_1), (x159002_1), (y169), (x159004_1), (x159005_1), (.slice Ao24 y169.length co24), H', ⟨by have := HK1.out; have := HJ5.out; omega⟩, ⟨by (with_reducible repeat (first | apply Kd.V_alloc | apply Kd.V_drewN | apply Kd.V_drew)); exact Kd.V_mono HO176.out (fun _ hk => ⟨hk.1, ⟨hk.2.2.1, ⟨hk.2.2.2.1, hk.2.2.2.2⟩⟩⟩)⟩, ⟨by (with_reducible repeat (first | apply Kd.R_alloc | apply Kd.R_drewN | apply Kd.R_drew)); exact Kd.R_mono HO171.out (fun _ hk => hk.1)⟩, ⟨by (with_reducible repeat (first | refine blk_drewN ?_ _ | refine blk_drew ?_ | refine blk_alloc ?_ _)); exact BK157.out⟩, ⟨by (with_reducible repeat (first | refine blk_drewN ?_ _ | refine blk_drew ?_ | refine blk_alloc ?_ _)); exact BK158.out⟩, ⟨by repeat (first | (with_reducible first | exact HB.out | apply below_alloc | apply pw_below_drewN | apply below_drew1 | refine below_set ?_ GE157.out | refine below_set ?_ GE158.out) | exact HB.out)⟩⟩
                    · rw [if_neg c16] at H
                      exact absurd H (by simp)
                  · rw [if_neg c15] at H
                    exact absurd H (by simp)
                · rw [if_neg c14] at H
                  exact absurd H (by simp)
              · rw [if_neg c13] at H
                have c13b0 : (t159 == 1) = false := beq_eq_false_iff_ne.mpr c13
                have c13b1 : (t159 != 1) = true := bne_iff_ne.mpr c13
                by_cases c28 : t159 = 2
                · rw [if_pos c28] at H
                  have c28b0 : (t159 == 2) = true := beq_iff_eq.mpr c28
                  have c28b1 : (t159 != 2) = false := bne_eq_false_iff_eq.mpr c28
                  clear c28
                  by_cases c29 : 0 ≤ t165
                  · rw [if_pos c29] at H
                    have c29b0 := eq_true c29
                    have c29b1 : decide (0 ≤ t165) = true := decide_eq_true c29
                    clear c29
                    by_cases c30 : t165 ≤ (x0_1.length : Int)
                    · rw [if_pos c30] at H
                      have c30b0 := eq_true c30
                      have c30b1 : decide (t165 ≤ (x0_1.length : Int)) = true := decide_eq_true c30
                      clear c30
                      obtain ⟨y177, hy177⟩ : ∃ y_ : List Int, y_ = (x0_1.drop (t165 : Int).toNat) := ⟨_, rfl⟩
                      replace H : (spec_PbLinkOf.l0 kj5 y177 x159000_1 true x159002_1 x159003_1 (strOfNums t162) x159005_1) = some (r1, r2, r3, r4, r5, r6, r7) := by first | (rw [hy177]; with_reducible exact H) | (have H2_ := (Option.bind_some _ _).symm.trans H; rw [hy177]; with_reducible exact H2_) | (have H2_ := (Option.bind_some _ _).symm.trans H; with_reducible exact H2_) | with_reducible exact H | (rw [hy177]; exact H) | exact H
                      have Ny177 := Aside0.mk hy177
                      clear hy177
                      have H' := Aside0.mk H
                      clear H
                      try go_wp2
                      have n0_ := Aside0.mk (Kd.V_drew HO_0.out)
                      have n1_ := Aside0.mk (Kd.V_drew HO_8.out)
                      have n2_ := Aside0.mk (Kd.R_drew HO_159003.out)
                      have n3_ := Aside0.mk (blk_drew BK157.out)
                      have n4_ := Aside0.mk (blk_drew BK158.out)
                      have n5_ := Aside0.mk (below_drew1 HB.out)
                      clear HO_0
                      clear HO_8
                      clear HO_159003
                      clear BK157
                      clear BK158
                      clear HB
                      have HO_0 := n0_
                      have HO_8 := n1_
                      have HO_159003 := n2_
                      have BK157 := n3_
                      have BK158 := n4_
                      have HB := n5_
                      clear n0_ n1_ n2_ n3_ n4_ n5_
                      obtain ⟨Ao32, co32, eo32⟩ := Kd.V_slice HO_8.out
                      (first | subst eo32 | (injection eo32 with f1_ f2_ f3_; have f4_ := f1_.symm; have f5_ := f3_.symm; clear f1_ f2_ f3_; subst f4_; subst f5_))
                      have hcA_ := Kd.C_string (P := Tryd.prog) (A := Ao32) (c := co32) Tryd.underlying22 Tryd.underlying5 Tryd.underlying9 (w := wc.drew) (Kd.C_drew (Kd.V_reads' HO_8.out).2.2)
                      have hcB_ := Kd.C_string (P := Tryd.prog) (A := Ao32) (c := co32) Tryd.underlying22 Tryd.underlying5 Tryd.underlying9 (w := (wc.setCell ⟨gb158, 1, none⟩ (.bool true)).drew) (Kd.C_drew (Kd.V_reads' (Kd.V_far (p := ⟨gb158, 1, none⟩) (Kd.V_mono HO_8.out (fun k_ hk => (⟨hk, hk.2.2.2⟩ : _ ∧ k_ ≠ gb158))) (fun _ hk => hk.2) (.bool true))).2.2)
                      have hsA_ : wc.cell? ⟨gb158, 1, none⟩ = some (.bool x159001_1) := (blk_cell BK158.out 1).trans rfl
                      have hsB_ : wc.cell? ⟨gb158, 4, none⟩ = some (.string x159004_1) := (blk_cell BK158.out 4).trans rfl
                      have hfA_ : wc.frozen? ⟨gb158, 1, none⟩ = false := blk_frozen BK158.out 1
                      have hfB_ : wc.frozen? ⟨gb158, 4, none⟩ = false := blk_frozen BK158.out 4
                      go_region
                      rw [← World.setCell_drew, ← World.setCell_drew]
                      have n0_ : Aside0 (Kd.V (Kd.int .u8) 5 (wc.drew.setCell ⟨gb158, 1, none⟩ (.bool true)) w.heap.size (fun k_ => (P0_ k_ ∨ w.heap.size ≤ k_) ∧ some k_ ≠ (u159003 : Value).ownBlock ∧ k_ ≠ gb157 ∧ k_ ≠ gb158) (.slice Ao7 x0_1.length co7) x0_1) := ⟨by (with_reducible repeat (first | apply Kd.V_alloc | apply Kd.V_drewN | apply Kd.V_drew)); exact Kd.V_mono (Kd.V_far (p := ⟨gb158, 1, none⟩) (Kd.V_mono HO_0.out (fun k_ hk => (⟨hk, hk.2.2.2⟩ : _ ∧ k_ ≠ gb158))) (fun _ hk => hk.2) (.bool true)) (fun _ hk => ⟨hk.1.1, ⟨hk.1.2.1, ⟨hk.1.2.2.1, hk.1.2.2.2⟩⟩⟩)⟩
                      have n1_ : Aside0 (Kd.V (Kd.int .u8) 5 (wc.drew.setCell ⟨gb158, 1, none⟩ (.bool true)) w.heap.size (fun k_ => (P0_ k_ ∨ w.heap.size ≤ k_) ∧ some k_ ≠ (u159003 : Value).ownBlock ∧ k_ ≠ gb157 ∧ k_ ≠ gb158) (.slice Ao32 t162.length co32) t162) := ⟨by (with_reducible repeat (first | apply Kd.V_alloc | apply Kd.V_drewN | apply Kd.V_drew)); exact Kd.V_mono (Kd.V_far (p := ⟨gb158, 1, none⟩) (Kd.V_mono HO_8.out (fun k_ hk => (⟨hk, hk.2.2.2⟩ : _ ∧ k_ ≠ gb158))) (fun _ hk => hk.2) (.bool true)) (fun _ hk => ⟨hk.1.1, ⟨hk.1.2.1, ⟨hk.1.2.2.1, hk.1.2.2.2⟩⟩⟩)⟩
                      have n2_ : Aside0 (Kd.R (Kd.int .u8) 5 (wc.drew.setCell ⟨gb158, 1, none⟩ (.bool true)) w.heap.size (fun k_ => (w.heap.size ≤ k_)) u159003 x159003_1) := ⟨by (with_reducible repeat (first | apply Kd.R_alloc | apply Kd.R_drewN | apply Kd.R_drew)); exact Kd.R_mono (Kd.R_far (p := ⟨gb158, 1, none⟩) (Kd.R_types HO_159003.out BK158.out (by decide)) (fun _ hk => hk.2) (.bool true)) (fun _ hk => hk.1)⟩
                      have n3_ : Aside0 ((wc.drew.setCell ⟨gb158, 1, none⟩ (.bool true)).heap[gb157]? = some (.cells #[.bool x158000_1, .bool x158001_1, .bool x158002_1, .slice none 0 0, .string x158004_1, .int .u64 x158005_1] 27 (0, 0))) := ⟨by (with_reducible repeat (first | refine blk_drewN ?_ _ | refine blk_drew ?_ | refine blk_alloc ?_ _)); refine blk_far ?_ NB157_158.out _; (with_reducible repeat (first | refine blk_drewN ?_ _ | refine blk_drew ?_ | refine blk_alloc ?_ _)); exact BK157.out⟩
                      have n4_ : Aside0 ((wc.drew.setCell ⟨gb158, 1, none⟩ (.bool true)).heap[gb158]? = some (.cells #[.bool x159000_1, .bool true, .bool x159002_1, u159003, .string x159004_1, .int .u64 x159005_1] 27 (0, 0))) := ⟨by (with_reducible repeat (first | refine blk_drewN ?_ _ | refine blk_drew ?_ | refine blk_alloc ?_ _)); refine blk_put (cs := #[.bool x159000_1, .bool x159001_1, .bool x159002_1, u159003, .string x159004_1, .int .u64 x159005_1]) ?_ 1 _ rfl; (with_reducible repeat (first | refine blk_drewN ?_ _ | refine blk_drew ?_ | refine blk_alloc ?_ _)); exact BK158.out⟩
                      have n5_ : Aside0 (Below w.heap.size w (wc.drew.setCell ⟨gb158, 1, none⟩ (.bool true))) := ⟨by repeat (first | (with_reducible first | exact HB.out | apply below_alloc | apply pw_below_drewN | apply below_drew1 | refine below_set ?_ GE157.out | refine below_set ?_ GE158.out) | exact HB.out)⟩
                      (try clear HO_0)
                      (try clear HO_8)
                      (try clear HO_159003)
                      (try clear BK157)
                      (try clear BK158)
                      (try clear HB)
                      clear hcA_ hcB_ hsA_ hsB_ hfA_ hfB_
                      generalize (wc.drew.setCell ⟨gb158, 1, none⟩ (.bool true)) = w35 at n0_ n1_ n2_ n3_ n4_ n5_ ⊢
                      have HO_0 := n0_
                      have HO_8 := n1_
                      have HO_159003 := n2_
                      have BK157 := n3_
                      have BK158 := n4_
                      have HB := n5_
                      clear n0_ n1_ n2_ n3_ n4_ n5_
                      have n0_ : Aside0 (Kd.V (Kd.int .u8) 5 (w35.setCell ⟨gb158, 4, none⟩ (.string (strOfNums t162))) w.heap.size (fun k_ => (P0_ k_ ∨ w.heap.size ≤ k_) ∧ some k_ ≠ (u159003 : Value).ownBlock ∧ k_ ≠ gb157 ∧ k_ ≠ gb158) (.slice Ao7 x0_1.length co7) x0_1) := ⟨by (with_reducible repeat (first | apply Kd.V_alloc | apply Kd.V_drewN | apply Kd.V_drew)); exact Kd.V_mono (Kd.V_far (p := ⟨gb158, 4, none⟩) (Kd.V_mono HO_0.out (fun k_ hk => (⟨hk, hk.2.2.2⟩ : _ ∧ k_ ≠ gb158))) (fun _ hk => hk.2) (.string (strOfNums t162))) (fun _ hk => ⟨hk.1.1, ⟨hk.1.2.1, ⟨hk.1.2.2.1, hk.1.2.2.2⟩⟩⟩)⟩
                      have n1_ : Aside0 (Kd.V (Kd.int .u8) 5 (w35.setCell ⟨gb158, 4, none⟩ (.string (strOfNums t162))) w.heap.size (fun k_ => (P0_ k_ ∨ w.heap.size ≤ k_) ∧ some k_ ≠ (u159003 : Value).ownBlock ∧ k_ ≠ gb157 ∧ k_ ≠ gb158) (.slice Ao32 t162.length co32) t162) := ⟨by (with_reducible repeat (first | apply Kd.V_alloc | apply Kd.V_drewN | apply Kd.V_drew)); exact Kd.V_mono (Kd.V_far (p := ⟨gb158, 4, none⟩) (Kd.V_mono HO_8.out (fun k_ hk => (⟨hk, hk.2.2.2⟩ : _ ∧ k_ ≠ gb158))) (fun _ hk => hk.2) (.string (strOfNums t162))) (fun _ hk => ⟨hk.1.1, ⟨hk.1.2.1, ⟨hk.1.2.2.1, hk.1.2.2.2⟩⟩⟩)⟩
                      have n2_ : Aside0 (Kd.R (Kd.int .u8) 5 (w35.setCell ⟨gb158, 4, none⟩ (.string (strOfNums t162))) w.heap.size (fun k_ => (w.heap.size ≤ k_)) u159003 x159003_1) := ⟨by (with_reducible repeat (first | apply Kd.R_alloc | apply Kd.R_drewN | apply Kd.R_drew)); exact Kd.R_mono (Kd.R_far (p := ⟨gb158, 4, none⟩) (Kd.R_types HO_159003.out BK158.out (by decide)) (fun _ hk => hk.2) (.string (strOfNums t162))) (fun _ hk => hk.1)⟩
                      have n3_ : Aside0 ((w35.setCell ⟨gb158, 4, none⟩ (.string (strOfNums t162))).heap[gb157]? = some (.cells #[.bool x158000_1, .bool x158001_1, .bool x158002_1, .slice none 0 0, .string x158004_1, .int .u64 x158005_1] 27 (0, 0))) := ⟨by (with_reducible repeat (first | refine blk_drewN ?_ _ | refine blk_drew ?_ | refine blk_alloc ?_ _)); refine blk_far ?_ NB157_158.out _; (with_reducible repeat (first | refine blk_drewN ?_ _ | refine blk_drew ?_ | refine blk_alloc ?_ _)); exact BK157.out⟩
                      have n4_ : Aside0 ((w35.setCell ⟨gb158, 4, none⟩ (.string (strOfNums t162))).heap[gb158]? = some (.cells #[.bool x159000_1, .bool true, .bool x159002_1, u159003, .string (strOfNums t162), .int .u64 x159005_1] 27 (0, 0))) := ⟨by (with_reducible repeat (first | refine blk_drewN ?_ _ | refine blk_drew ?_ | refine blk_alloc ?_ _)); refine blk_put (cs := #[.bool x159000_1, .bool true, .bool x159002_1, u159003, .string x159004_1, .int .u64 x159005_1]) ?_ 4 _ rfl; (with_reducible repeat (first | refine blk_drewN ?_ _ | refine blk_drew ?_ | refine blk_alloc ?_ _)); exact BK158.out⟩
                      have n5_ : Aside0 (Below w.heap.size w (w35.setCell ⟨gb158, 4, none⟩ (.string (strOfNums t162)))) := ⟨by repeat (first | (with_reducible first | exact HB.out | apply below_alloc | apply pw_below_drewN | apply below_drew1 | refine below_set ?_ GE157.out | refine below_set ?_ GE158.out) | exact HB.out)⟩
                      (try clear HO_0)
                      (try clear HO_8)
                      (try clear HO_159003)
                      (try clear BK157)
                      (try clear BK158)
                      (try clear HB)
                      generalize (w35.setCell ⟨gb158, 4, none⟩ (.string (strOfNums t162))) = w37 at n0_ n1_ n2_ n3_ n4_ n5_ ⊢
                      have HO_0 := n0_
                      have HO_8 := n1_
                      have HO_159003 := n2_
                      have BK157 := n3_
                      have BK158 := n4_
                      have HB := n5_
                      clear n0_ n1_ n2_ n3_ n4_ n5_
                      have q38 : (t165 : Int) ≤ ((x0_1.length : Int) : Int) := of_decide_eq_true (by first | (with_reducible assumption) | assumption)
                      obtain ⟨i038, hi038, _, hsz38, _⟩ := info_parts info5
                      have hroom38 : x0_1.length ≤ co7 := (Kd.V_reads' HO_0.out).2.1
                      have hC38 : Kd.F (Kd.int .u8) _ _ Ao7 x0_1.length x0_1 := (Kd.V_at (base := w.heap.size) HO_0.out).2.2
                      have q038 : (0 : Int) ≤ (t165 : Int) := of_decide_eq_true (by first | (with_reducible assumption) | assumption)
                      have hcut38 := cut_from (P := Tryd.prog) 22 5 .i64 Tryd.underlying22 hi038 1 hsz38 Ao7 x0_1.length co7 t165 q038 q38
                      have hr38 := Kd.F_cut (m := (t165 : Int).toNat) (c := co7) hC38 (by omega) hroom38
                      obtain ⟨A38, hA38⟩ : ∃ A1, A1 = (if co7 = (t165 : Int).toNat then Ao7 else (Ao7 : Option Addr).map (·.add ((t165 : Int).toNat * 1))) := ⟨_, rfl⟩
                      obtain ⟨c38, hc38⟩ : ∃ c1, c1 = co7 - (t165 : Int).toNat := ⟨_, rfl⟩
                      have hy38 : y177.length = x0_1.length - (t165 : Int).toNat := (by rw [Ny177.out, List.length_drop] <;> omega)
                      rw [show (x0_1).drop (t165 : Int).toNat = y177 from Ny177.out.symm] at hr38
                      replace hr38 : Kd.F (Kd.int .u8) _ _ A38 y177.length y177 := (by rw [hA38]; exact hr38)
                      rw [← hy38, ← hA38, ← hc38] at hcut38
                      have HO181 := Aside0.mk (show Kd.V (Kd.int .u8) 5 _ w.heap.size _ (.slice A38 y177.length c38) y177 from Kd.V_mk (by rw [hy38, hc38]; exact Nat.sub_le_sub_right hroom38 _) hr38)
                      have HC181 := Aside0.mk (show y177.length ≤ c38 from by rw [hy38, hc38]; exact Nat.sub_le_sub_right hroom38 _)
                      clear hr38 hC38 hroom38 hi038 hsz38 hc38
                      have KY38 := Aside0.mk hy38
                      have KA38 := Aside0.mk hA38
                      clear hy38 hA38
                      replace q38 := eq_true q38
                      try go_wp2
                      go_roundg kj5
                      case measure => have := HK1.out; have := HJ5.out; omega
                      case rel => exact ⟨(y177), (x158000_1), (x158001_1), (x158002_1), (x158004_1), (x158005_1), (x159000_1), (true), (x159002_1), (x159003_1), (strOfNums t162), (x159005_1), (u159003), H', ⟨by have := HK1.out; have := HJ5.out; omega⟩, ⟨by (with_reducible repeat (first | apply Kd.V_alloc | apply Kd.V_drewN | apply Kd.V_drew)); exact HO181.out⟩, ⟨by (with_reducible repeat (first | apply Kd.R_alloc | apply Kd.R_drewN | apply Kd.R_drew)); exact HO_159003.out⟩, ⟨by (with_reducible repeat (first | refine blk_drewN ?_ _ | refine blk_drew ?_ | refine blk_alloc ?_ _)); exact BK157.out⟩, ⟨by (with_reducible repeat (first | refine blk_drewN ?_ _ | refine blk_drew ?_ | refine blk_alloc ?_ _)); exact BK158.out⟩, ⟨by repeat (first | (with_reducible first | exact HB.out | apply below_alloc | apply pw_below_drewN | apply below_drew1 | refine below_set ?_ GE157.out | refine below_set ?_ GE158.out) | exact HB.out)⟩⟩
                    · rw [if_neg c30] at H
                      exact absurd H (by simp)
                  · rw [if_neg c29] at H
                    exact absurd H (by simp)
                · rw [if_neg c28] at H
                  have c28b0 : (t159 == 2) = false := beq_eq_false_iff_ne.mpr c28
                  have c28b1 : (t159 != 2) = true := bne_iff_ne.mpr c28
                  by_cases c39 : t159 = 3
                  · rw [if_pos c39] at H
                    have c39b0 : (t159 == 3) = true := beq_iff_eq.mpr c39
                    have c39b1 : (t159 != 3) = false := bne_eq_false_iff_eq.mpr c39
                    clear c39
                    by_cases c40 : 0 ≤ t165
                    · rw [if_pos c40] at H
                      have c40b0 := eq_true c40
                      have c40b1 : decide (0 ≤ t165) = true := decide_eq_true c40
                      clear c40
                      by_cases c41 : t165 ≤ (x0_1.length : Int)
                      · rw [if_pos c41] at H
                        have c41b0 := eq_true c41
                        have c41b1 : decide (t165 ≤ (x0_1.length : Int)) = true := decide_eq_true c41
                        clear c41
                        obtain ⟨y182, hy182⟩ : ∃ y_ : List Int, y_ = (x0_1.drop (t165 : Int).toNat) := ⟨_, rfl⟩
                        replace H : (spec_PbLinkOf.l0 kj5 y182 x159000_1 x159001_1 true x159003_1 x159004_1 t161) = some (r1, r2, r3, r4, r5, r6, r7) := by first | (rw [hy182]; with_reducible exact H) | (have H2_ := (Option.bind_some _ _).symm.trans H; rw [hy182]; with_reducible exact H2_) | (have H2_ := (Option.bind_some _ _).symm.trans H; with_reducible exact H2_) | with_reducible exact H | (rw [hy182]; exact H) | exact H
                        have Ny182 := Aside0.mk hy182
                        clear hy182
                        have H' := Aside0.mk H
                        clear H
                        have hnb42 := NB158_157.out
                        have hnc42 := NB157_158.out
                        have hcz43_0 : wc.cell? ⟨gb158, 0, none⟩ = some (.bool x159000_1) := (blk_cell BK158.out 0).trans rfl
                        have hcz43_1 : wc.cell? ⟨gb158, 1, none⟩ = some (.bool x159001_1) := (blk_cell BK158.out 1).trans rfl
                        have hcz43_2 : wc.cell? ⟨gb158, 2, none⟩ = some (.bool x159002_1) := (blk_cell BK158.out 2).trans rfl
                        have hcz43_3 : wc.cell? ⟨gb158, 3, none⟩ = some (u159003) := (blk_cell BK158.out 3).trans rfl
                        have hcz43_4 : wc.cell? ⟨gb158, 4, none⟩ = some (.string x159004_1) := (blk_cell BK158.out 4).trans rfl
                        have hcz43_5 : wc.cell? ⟨gb158, 5, none⟩ = some (.int .u64 x159005_1) := (blk_cell BK158.out 5).trans rfl
                        have hfz43_0 := blk_frozen BK158.out 0
                        have hfz43_1 := blk_frozen BK158.out 1
                        have hfz43_2 := blk_frozen BK158.out 2
                        have hfz43_3 := blk_frozen BK158.out 3
                        have hfz43_4 := blk_frozen BK158.out 4
                        have hfz43_5 := blk_frozen BK158.out 5
                        go_wp2_with (first | ((with_reducible refine gate_store (t := 4) (p := 48) rfl ?_); refine store_event (t := 4) (p := 48) (v := ?vo_w44) (w1 := (wc.setCell ⟨gb158, 2, none⟩ (.bool true))) ?hg ?ho ?hn ?hr ?_; (case ho => rfl); (case hg => rfl); (case hn => rfl); (case hr => first | (go_simp; done) | (go_simp; rfl)); intro w44 hw; have n0_ : Aside0 (Kd.V (Kd.int .u8) 5 w44 w.heap.size (fun k_ => (P0_ k_ ∨ w.heap.size ≤ k_) ∧ some k_ ≠ (u159003 : Value).ownBlock ∧ k_ ≠ gb157 ∧ k_ ≠ gb158) (.slice Ao7 x0_1.length co7) x0_1) := ⟨(by rw [hw]; exact (by (with_reducible repeat (first | apply Kd.V_alloc | apply Kd.V_drewN | apply Kd.V_drew)); exact Kd.V_mono (Kd.V_far (p := ⟨gb158, 2, none⟩) (Kd.V_mono HO_0.out (fun k_ hk => (⟨hk, hk.2.2.2⟩ : _ ∧ k_ ≠ gb158))) (fun _ hk => hk.2) (.bool true)) (fun _ hk => ⟨hk.1.1, ⟨hk.1.2.1, ⟨hk.1.2.2.1, hk.1.2.2.2⟩⟩⟩)))⟩; have n1_ : Aside0 (Kd.V (Kd.int .u8) 5 w44 w.heap.size (fun k_ => (P0_ k_ ∨ w.heap.size ≤ k_) ∧ some k_ ≠ (u159003 : Value).ownBlock ∧ k_ ≠ gb157 ∧ k_ ≠ gb158) v163 t162) := ⟨(by rw [hw]; exact (by (with_reducible repeat (first | apply Kd.V_alloc | apply Kd.V_drewN | apply Kd.V_drew)); exact Kd.V_mono (Kd.V_far (p := ⟨gb158, 2, none⟩) (Kd.V_mono HO_8.out (fun k_ hk => (⟨hk, hk.2.2.2⟩ : _ ∧ k_ ≠ gb158))) (fun _ hk => hk.2) (.bool true)) (fun _ hk => ⟨hk.1.1, ⟨hk.1.2.1, ⟨hk.1.2.2.1, hk.1.2.2.2⟩⟩⟩)))⟩; have n2_ : Aside0 (Kd.R (Kd.int .u8) 5 w44 w.heap.size (fun k_ => (w.heap.size ≤ k_)) u159003 x159003_1) := ⟨(by rw [hw]; exact (by (with_reducible repeat (first | apply Kd.R_alloc | apply Kd.R_drewN | apply Kd.R_drew)); exact Kd.R_mono (Kd.R_far (p := ⟨gb158, 2, none⟩) (Kd.R_types HO_159003.out BK158.out (by decide)) (fun _ hk => hk.2) (.bool true)) (fun _ hk => hk.1)))⟩; have n3_ : Aside0 (w44.heap[gb157]? = some (.cells #[.bool x158000_1, .bool x158001_1, .bool x158002_1, .slice none 0 0, .string x158004_1, .int .u64 x158005_1] 27 (0, 0))) := ⟨(by rw [hw]; exact (by (with_reducible repeat (first | refine blk_drewN ?_ _ | refine blk_drew ?_ | refine blk_alloc ?_ _)); refine blk_far ?_ NB157_158.out _; (with_reducible repeat (first | refine blk_drewN ?_ _ | refine blk_drew ?_ | refine blk_alloc ?_ _)); exact BK157.out))⟩; have n4_ : Aside0 (w44.heap[gb158]? = some (.cells #[.bool x159000_1, .bool x159001_1, .bool true, u159003, .string x159004_1, .int .u64 x159005_1] 27 (0, 0))) := ⟨(by rw [hw]; exact (by (with_reducible repeat (first | refine blk_drewN ?_ _ | refine blk_drew ?_ | refine blk_alloc ?_ _)); refine blk_put (cs := #[.bool x159000_1, .bool x159001_1, .bool x159002_1, u159003, .string x159004_1, .int .u64 x159005_1]) ?_ 2 _ rfl; (with_reducible repeat (first | refine blk_drewN ?_ _ | refine blk_drew ?_ | refine blk_alloc ?_ _)); exact BK158.out))⟩; have n5_ : Aside0 (Below w.heap.size w w44) := ⟨(by rw [hw]; exact (by repeat (first | (with_reducible first | exact HB.out | apply below_alloc | apply pw_below_drewN | apply below_drew1 | refine below_set ?_ GE157.out | refine below_set ?_ GE158.out) | exact HB.out)))⟩; clear hw; clear HO_0; clear HO_8; clear HO_159003; clear BK157; clear BK158; clear HB; have HO_0 := n0_; have HO_8 := n1_; have HO_159003 := n2_; have BK157 := n3_; have BK158 := n4_; have HB := n5_; clear n0_ n1_ n2_ n3_ n4_ n5_; have hcz45_0 : w44.cell? ⟨gb158, 0, none⟩ = some (.bool x159000_1) := (blk_cell BK158.out 0).trans rfl; have hcz45_1 : w44.cell? ⟨gb158, 1, none⟩ = some (.bool x159001_1) := (blk_cell BK158.out 1).trans rfl; have hcz45_2 : w44.cell? ⟨gb158, 2, none⟩ = some (.bool true) := (blk_cell BK158.out 2).trans rfl; have hcz45_3 : w44.cell? ⟨gb158, 3, none⟩ = some (u159003) := (blk_cell BK158.out 3).trans rfl; have hcz45_4 : w44.cell? ⟨gb158, 4, none⟩ = some (.string x159004_1) := (blk_cell BK158.out 4).trans rfl; have hcz45_5 : w44.cell? ⟨gb158, 5, none⟩ = some (.int .u64 x159005_1) := (blk_cell BK158.out 5).trans rfl; have hfz45_0 := blk_frozen BK158.out 0; have hfz45_1 := blk_frozen BK158.out 1; have hfz45_2 := blk_frozen BK158.out 2; have hfz45_3 := blk_frozen BK158.out 3; have hfz45_4 := blk_frozen BK158.out 4; have hfz45_5 := blk_frozen BK158.out 5) | ((with_reducible refine gate_store (t := 24) (p := 49) rfl ?_); refine store_event (t := 24) (p := 49) (v := ?vo_w46) (w1 := (w44.setCell ⟨gb158, 5, none⟩ (.int .u64 t161))) ?hg ?ho ?hn ?hr ?_; (case ho => rfl); (case hg => rfl); (case hn => rfl); (case hr => first | (go_simp; done) | (go_simp; rfl)); intro w46 hw; have n0_ : Aside0 (Kd.V (Kd.int .u8) 5 w46 w.heap.size (fun k_ => (P0_ k_ ∨ w.heap.size ≤ k_) ∧ some k_ ≠ (u159003 : Value).ownBlock ∧ k_ ≠ gb157 ∧ k_ ≠ gb158) (.slice Ao7 x0_1.length co7) x0_1) := ⟨(by rw [hw]; exact (by (with_reducible repeat (first | apply Kd.V_alloc | apply Kd.V_drewN | apply Kd.V_drew)); exact Kd.V_mono (Kd.V_far (p := ⟨gb158, 5, none⟩) (Kd.V_mono HO_0.out (fun k_ hk => (⟨hk, hk.2.2.2⟩ : _ ∧ k_ ≠ gb158))) (fun _ hk => hk.2) (.int .u64 t161)) (fun _ hk => ⟨hk.1.1, ⟨hk.1.2.1, ⟨hk.1.2.2.1, hk.1.2.2.2⟩⟩⟩)))⟩; have n1_ : Aside0 (Kd.V (Kd.int .u8) 5 w46 w.heap.size (fun k_ => (P0_ k_ ∨ w.heap.size ≤ k_) ∧ some k_ ≠ (u159003 : Value).ownBlock ∧ k_ ≠ gb157 ∧ k_ ≠ gb158) v163 t162) := ⟨(by rw [hw]; exact (by (with_reducible repeat (first | apply Kd.V_alloc | apply Kd.V_drewN | apply Kd.V_drew)); exact Kd.V_mono (Kd.V_far (p := ⟨gb158, 5, none⟩) (Kd.V_mono HO_8.out (fun k_ hk => (⟨hk, hk.2.2.2⟩ : _ ∧ k_ ≠ gb158))) (fun _ hk => hk.2) (.int .u64 t161)) (fun _ hk => ⟨hk.1.1, ⟨hk.1.2.1, ⟨hk.1.2.2.1, hk.1.2.2.2⟩⟩⟩)))⟩; have n2_ : Aside0 (Kd.R (Kd.int .u8) 5 w46 w.heap.size (fun k_ => (w.heap.size ≤ k_)) u159003 x159003_1) := ⟨(by rw [hw]; exact (by (with_reducible repeat (first | apply Kd.R_alloc | apply Kd.R_drewN | apply Kd.R_drew)); exact Kd.R_mono (Kd.R_far (p := ⟨gb158, 5, none⟩) (Kd.R_types HO_159003.out BK158.out (by decide)) (fun _ hk => hk.2) (.int .u64 t161)) (fun _ hk => hk.1)))⟩; have n3_ : Aside0 (w46.heap[gb157]? = some (.cells #[.bool x158000_1, .bool x158001_1, .bool x158002_1, .slice none 0 0, .string x158004_1, .int .u64 x158005_1] 27 (0, 0))) := ⟨(by rw [hw]; exact (by (with_reducible repeat (first | refine blk_drewN ?_ _ | refine blk_drew ?_ | refine blk_alloc ?_ _)); refine blk_far ?_ NB157_158.out _; (with_reducible repeat (first | refine blk_drewN ?_ _ | refine blk_drew ?_ | refine blk_alloc ?_ _)); exact BK157.out))⟩; have n4_ : Aside0 (w46.heap[gb158]? = some (.cells #[.bool x159000_1, .bool x159001_1, .bool true, u159003, .string x159004_1, .int .u64 t161] 27 (0, 0))) := ⟨(by rw [hw]; exact (by (with_reducible repeat (first | refine blk_drewN ?_ _ | refine blk_drew ?_ | refine blk_alloc ?_ _)); refine blk_put (cs := #[.bool x159000_1, .bool x159001_1, .bool true, u159003, .string x159004_1, .int .u64 x159005_1]) ?_ 5 _ rfl; (with_reducible repeat (first | refine blk_drewN ?_ _ | refine blk_drew ?_ | refine blk_alloc ?_ _)); exact BK158.out))⟩; have n5_ : Aside0 (Below w.heap.size w w46) := ⟨(by rw [hw]; exact (by repeat (first | (with_reducible first | exact HB.out | apply below_alloc | apply pw_below_drewN | apply below_drew1 | refine below_set ?_ GE157.out | refine below_set ?_ GE158.out) | exact HB.out)))⟩; clear hw; clear HO_0; clear HO_8; clear HO_159003; clear BK157; clear BK158; clear HB; have HO_0 := n0_; have HO_8 := n1_; have HO_159003 := n2_; have BK157 := n3_; have BK158 := n4_; have HB := n5_; clear n0_ n1_ n2_ n3_ n4_ n5_; have q47 : (t165 : Int) ≤ ((x0_1.length : Int) : Int) := of_decide_eq_true (by first | (with_reducible assumption) | assumption); obtain ⟨i047, hi047, _, hsz47, _⟩ := info_parts info5; have hroom47 : x0_1.length ≤ co7 := (Kd.V_reads' HO_0.out).2.1; have hC47 : Kd.F (Kd.int .u8) _ _ Ao7 x0_1.length x0_1 := (Kd.V_at (base := w.heap.size) HO_0.out).2.2; have q047 : (0 : Int) ≤ (t165 : Int) := of_decide_eq_true (by first | (with_reducible assumption) | assumption); have hcut47 := cut_from (P := Tryd.prog) 22 5 .i64 Tryd.underlying22 hi047 1 hsz47 Ao7 x0_1.length co7 t165 q047 q47; have hr47 := Kd.F_cut (m := (t165 : Int).toNat) (c := co7) hC47 (by omega) hroom47; obtain ⟨A47, hA47⟩ : ∃ A1, A1 = (if co7 = (t165 : Int).toNat then Ao7 else (Ao7 : Option Addr).map (·.add ((t165 : Int).toNat * 1))) := ⟨_, rfl⟩; obtain ⟨c47, hc47⟩ : ∃ c1, c1 = co7 - (t165 : Int).toNat := ⟨_, rfl⟩; have hy47 : y182.length = x0_1.length - (t165 : Int).toNat := (by rw [Ny182.out, List.length_drop] <;> omega); rw [show (x0_1).drop (t165 : Int).toNat = y182 from Ny182.out.symm] at hr47; replace hr47 : Kd.F (Kd.int .u8) _ _ A47 y182.length y182 := (by rw [hA47]; exact hr47); rw [← hy47, ← hA47, ← hc47] at hcut47; have HO186 := Aside0.mk (show Kd.V (Kd.int .u8) 5 _ w.heap.size _ (.slice A47 y182.length c47) y182 from Kd.V_mk (by rw [hy47, hc47]; exact Nat.sub_le_sub_right hroom47 _) hr47); have HC186 := Aside0.mk (show y182.length ≤ c47 from by rw [hy47, hc47]; exact Nat.sub_le_sub_right hroom47 _); clear hr47 hC47 hroom47 hi047 hsz47 hc47; have KY47 := Aside0.mk hy47; have KA47 := Aside0.mk hA47; clear hy47 hA47; replace q47 := eq_true q47))
                        go_roundg kj5
                        case measure => have := HK1.out; have := HJ5.out; omega
                        case rel => exact ⟨(y182), (x158000_1), (x158001_1), (x158002_1), (x158004_1), (x158005_1), (x159000_1), (x159001_1), (true), (x159003_1), (x159004_1), (t161), (u159003), H', ⟨by have := HK1.out; have := HJ5.out; omega⟩, ⟨by (with_reducible repeat (first | apply Kd.V_alloc | apply Kd.V_drewN | apply Kd.V_drew)); exact HO186.out⟩, ⟨by (with_reducible repeat (first | apply Kd.R_alloc | apply Kd.R_drewN | apply Kd.R_drew)); exact HO_159003.out⟩, ⟨by (with_reducible repeat (first | refine blk_drewN ?_ _ | refine blk_drew ?_ | refine blk_alloc ?_ _)); exact BK157.out⟩, ⟨by (with_reducible repeat (first | refine blk_drewN ?_ _ | refine blk_drew ?_ | refine blk_alloc ?_ _)); exact BK158.out⟩, ⟨by repeat (first | (with_reducible first | exact HB.out | apply below_alloc | apply pw_below_drewN | apply below_drew1 | refine below_set ?_ GE157.out | refine below_set ?_ GE158.out) | exact HB.out)⟩⟩
                      · rw [if_neg c41] at H
                        exact absurd H (by simp)
                    · rw [if_neg c40] at H
                      exact absurd H (by simp)
                  · rw [if_neg c39] at H
                    have c39b0 : (t159 == 3) = false := beq_eq_false_iff_ne.mpr c39
                    have c39b1 : (t159 != 3) = true := bne_iff_ne.mpr c39
                    by_cases c48 : 0 ≤ t165
                    · rw [if_pos c48] at H
                      have c48b0 := eq_true c48
                      have c48b1 : decide (0 ≤ t165) = true := decide_eq_true c48
                      clear c48
                      by_cases c49 : t165 ≤ (x0_1.length : Int)
                      · rw [if_pos c49] at H
                        have c49b0 := eq_true c49
                        have c49b1 : decide (t165 ≤ (x0_1.length : Int)) = true := decide_eq_true c49
                        clear c49
                        obtain ⟨y187, hy187⟩ : ∃ y_ : List Int, y_ = (x0_1.drop (t165 : Int).toNat) := ⟨_, rfl⟩
                        replace H : (spec_PbLinkOf.l0 kj5 y187 x159000_1 x159001_1 x159002_1 x159003_1 x159004_1 x159005_1) = some (r1, r2, r3, r4, r5, r6, r7) := by first | (rw [hy187]; with_reducible exact H) | (have H2_ := (Option.bind_some _ _).symm.trans H; rw [hy187]; with_reducible exact H2_) | (have H2_ := (Option.bind_some _ _).symm.trans H; with_reducible exact H2_) | with_reducible exact H | (rw [hy187]; exact H) | exact H
                        have Ny187 := Aside0.mk hy187
                        clear hy187
                        have H' := Aside0.mk H
                        clear H
                        have q50 : (t165 : Int) ≤ ((x0_1.length : Int) : Int) := of_decide_eq_true (by first | (with_reducible assumption) | assumption)
                        obtain ⟨i050, hi050, _, hsz50, _⟩ := info_parts info5
                        have hroom50 : x0_1.length ≤ co7 := (Kd.V_reads' HO_0.out).2.1
                        have hC50 : Kd.F (Kd.int .u8) _ _ Ao7 x0_1.length x0_1 := (Kd.V_at (base := w.heap.size) HO_0.out).2.2
                        have q050 : (0 : Int) ≤ (t165 : Int) := of_decide_eq_true (by first | (with_reducible assumption) | assumption)
                        have hcut50 := cut_from (P := Tryd.prog) 22 5 .i64 Tryd.underlying22 hi050 1 hsz50 Ao7 x0_1.length co7 t165 q050 q50
                        have hr50 := Kd.F_cut (m := (t165 : Int).toNat) (c := co7) hC50 (by omega) hroom50
                        obtain ⟨A50, hA50⟩ : ∃ A1, A1 = (if co7 = (t165 : Int).toNat then Ao7 else (Ao7 : Option Addr).map (·.add ((t165 : Int).toNat * 1))) := ⟨_, rfl⟩
                        obtain ⟨c50, hc50⟩ : ∃ c1, c1 = co7 - (t165 : Int).toNat := ⟨_, rfl⟩
                        have hy50 : y187.length = x0_1.length - (t165 : Int).toNat := (by rw [Ny187.out, List.length_drop] <;> omega)
                        rw [show (x0_1).drop (t165 : Int).toNat = y187 from Ny187.out.symm] at hr50
                        replace hr50 : Kd.F (Kd.int .u8) _ _ A50 y187.length y187 := (by rw [hA50]; exact hr50)
                        rw [← hy50, ← hA50, ← hc50] at hcut50
                        have HO191 := Aside0.mk (show Kd.V (Kd.int .u8) 5 _ w.heap.size _ (.slice A50 y187.length c50) y187 from Kd.V_mk (by rw [hy50, hc50]; exact Nat.sub_le_sub_right hroom50 _) hr50)
                        have HC191 := Aside0.mk (show y187.length ≤ c50 from by rw [hy50, hc50]; exact Nat.sub_le_sub_right hroom50 _)
                        clear hr50 hC50 hroom50 hi050 hsz50 hc50
                        have KY50 := Aside0.mk hy50
                        have KA50 := Aside0.mk hA50
                        clear hy50 hA50
                        replace q50 := eq_true q50
                        go_wp2
                        go_roundg kj5
                        case measure => have := HK1.out; have := HJ5.out; omega
                        case rel => exact ⟨(y187), (x158000_1), (x158001_1), (x158002_1), (x158004_1), (x158005_1), (x159000_1), (x159001_1), (x159002_1), (x159003_1), (x159004_1), (x159005_1), (u159003), H', ⟨by have := HK1.out; have := HJ5.out; omega⟩, ⟨by (with_reducible repeat (first | apply Kd.V_alloc | apply Kd.V_drewN | apply Kd.V_drew)); exact HO191.out⟩, ⟨by (with_reducible repeat (first | apply Kd.R_alloc | apply Kd.R_drewN | apply Kd.R_drew)); exact HO_159003.out⟩, ⟨by (with_reducible repeat (first | refine blk_drewN ?_ _ | refine blk_drew ?_ | refine blk_alloc ?_ _)); exact BK157.out⟩, ⟨by (with_reducible repeat (first | refine blk_drewN ?_ _ | refine blk_drew ?_ | refine blk_alloc ?_ _)); exact BK158.out⟩, ⟨by repeat (first | (with_reducible first | exact HB.out | apply below_alloc | apply pw_below_drewN | apply below_drew1 | refine below_set ?_ GE157.out | refine below_set ?_ GE158.out) | exact HB.out)⟩⟩
                      · rw [if_neg c49] at H
                        exact absurd H (by simp)
                    · rw [if_neg c48] at H
                      exact absurd H (by simp)
      · rw [if_neg c4] at H
        have c4b0 : decide (0 < (x0_1.length : Int)) = false := decide_eq_false c4
        have c4b1 : decide (0 < x0_1.length) = false := decide_eq_false (by omega)
        clear c4
        simp only [Option.some.injEq, Prod.mk.injEq] at H
        obtain ⟨rfl, rfl, rfl, rfl, rfl, rfl, rfl⟩ := H
        obtain ⟨Ao51, co51, eo51⟩ := Kd.V_slice HO_0.out
        subst eo51
        have hnb52 := NB158_157.out
        have hnc52 := NB157_158.out
        have hcz53_0 : wr.cell? ⟨gb158, 0, none⟩ = some (.bool x159000_1) := (blk_cell BK158.out 0).trans rfl
        have hcz53_1 : wr.cell? ⟨gb158, 1, none⟩ = some (.bool x159001_1) := (blk_cell BK158.out 1).trans rfl
        have hcz53_2 : wr.cell? ⟨gb158, 2, none⟩ = some (.bool x159002_1) := (blk_cell BK158.out 2).trans rfl
        have hcz53_3 : wr.cell? ⟨gb158, 3, none⟩ = some (u159003) := (blk_cell BK158.out 3).trans rfl
        have hcz53_4 : wr.cell? ⟨gb158, 4, none⟩ = some (.string x159004_1) := (blk_cell BK158.out 4).trans rfl
        have hcz53_5 : wr.cell? ⟨gb158, 5, none⟩ = some (.int .u64 x159005_1) := (blk_cell BK158.out 5).trans rfl
        have hfz53_0 := blk_frozen BK158.out 0
        have hfz53_1 := blk_frozen BK158.out 1
        have hfz53_2 := blk_frozen BK158.out 2
        have hfz53_3 := blk_frozen BK158.out 3
        have hfz53_4 := blk_frozen BK158.out 4
        have hfz53_5 := blk_frozen BK158.out 5
        have hcz54_0 : wr.cell? ⟨gb157, 0, none⟩ = some (.bool x158000_1) := (blk_cell BK157.out 0).trans rfl
        have hcz54_1 : wr.cell? ⟨gb157, 1, none⟩ = some (.bool x158001_1) := (blk_cell BK157.out 1).trans rfl
        have hcz54_2 : wr.cell? ⟨gb157, 2, none⟩ = some (.bool x158002_1) := (blk_cell BK157.out 2).trans rfl
        have hcz54_3 : wr.cell? ⟨gb157, 3, none⟩ = some (.slice none 0 0) := (blk_cell BK157.out 3).trans rfl
        have hcz54_4 : wr.cell? ⟨gb157, 4, none⟩ = some (.string x158004_1) := (blk_cell BK157.out 4).trans rfl
        have hcz54_5 : wr.cell? ⟨gb157, 5, none⟩ = some (.int .u64 x158005_1) := (blk_cell BK157.out 5).trans rfl
        have hfz54_0 := blk_frozen BK157.out 0
        have hfz54_1 := blk_frozen BK157.out 1
        have hfz54_2 := blk_frozen BK157.out 2
        have hfz54_3 := blk_frozen BK157.out 3
        have hfz54_4 := blk_frozen BK157.out 4
        have hfz54_5 := blk_frozen BK157.out 5
        obtain ⟨Ao55, co55, eo55⟩ := Kd.R_slice HO_159003.out
        subst eo55
        go_wp2
        refine bodyPost_ret (results_ct rfl _ _ gb157 27 #[.bool x159000_1, .bool x159001_1, .bool x159002_1, .slice Ao55 x159003_1.length co55, .string x159004_1, .int .u64 x159005_1] (0, 0) _ rfl (by (with_reducible repeat (first | refine blk_drewN ?_ _ | refine blk_drew ?_ | refine blk_alloc ?_ _)); refine blk_put (cs := #[.bool x159000_1, .bool x159001_1, .bool x159002_1, .slice Ao55 x159003_1.length co55, .string x159004_1, .int .u64 x158005_1]) ?_ 5 _ rfl; (with_reducible repeat (first | refine blk_drewN ?_ _ | refine blk_drew ?_ | refine blk_alloc ?_ _)); refine blk_put (cs := #[.bool x159000_1, .bool x159001_1, .bool x159002_1, .slice Ao55 x159003_1.length co55, .string x158004_1, .int .u64 x158005_1]) ?_ 4 _ rfl; (with_reducible repeat (first | refine blk_drewN ?_ _ | refine blk_drew ?_ | refine blk_alloc ?_ _)); refine blk_put (cs := #[.bool x159000_1, .bool x159001_1, .bool x159002_1, .slice none 0 0, .string x158004_1, .int .u64 x158005_1]) ?_ 3 _ rfl; (with_reducible repeat (first | refine blk_drewN ?_ _ | refine blk_drew ?_ | refine blk_alloc ?_ _)); refine blk_put (cs := #[.bool x159000_1, .bool x159001_1, .bool x158002_1, .slice none 0 0, .string x158004_1, .int .u64 x158005_1]) ?_ 2 _ rfl; (with_reducible repeat (first | refine blk_drewN ?_ _ | refine blk_drew ?_ | refine blk_alloc ?_ _)); refine blk_put (cs := #[.bool x159000_1, .bool x158001_1, .bool x158002_1, .slice none 0 0, .string x158004_1, .int .u64 x158005_1]) ?_ 1 _ rfl; (with_reducible repeat (first | refine blk_drewN ?_ _ | refine blk_drew ?_ | refine blk_alloc ?_ _)); refine blk_put (cs := #[.bool x158000_1, .bool x158001_1, .bool x158002_1, .slice none 0 0, .string x158004_1, .int .u64 x158005_1]) ?_ 0 _ rfl; (with_reducible repeat (first | refine blk_drewN ?_ _ | refine blk_drew ?_ | refine blk_alloc ?_ _)); exact BK157.out) Tryd.underlying27 rfl (by kernel_rfl)) rfl ?_
        exact ⟨_, by first | rfl | (simp [errV_none, errV_some] <;> rfl) | (simp [*, errV_none, errV_some] <;> rfl), by (with_reducible repeat (first | apply Kd.R_alloc | apply Kd.R_drewN | apply Kd.R_drew)); exact Kd.R_mono (Kd.R_far (p := ⟨gb157, 5, none⟩) (Kd.R_far (p := ⟨gb157, 4, none⟩) (Kd.R_far (p := ⟨gb157, 3, none⟩) (Kd.R_far (p := ⟨gb157, 2, none⟩) (Kd.R_far (p := ⟨gb157, 1, none⟩) (Kd.R_far (p := ⟨gb157, 0, none⟩) (Kd.R_types HO_159003.out BK157.out (by decide)) (fun _ hk => hk.2) (.bool x159000_1)) (fun _ hk => hk.2) (.bool x159001_1)) (fun _ hk => hk.2) (.bool x159002_1)) (fun _ hk => hk.2) (.slice Ao55 x159003_1.length co55)) (fun _ hk => hk.2) (.string x159004_1)) (fun _ hk => hk.2) (.int .u64 x159005_1)) (fun _ hk => hk.1), by repeat (first | (with_reducible first | exact HB.out | apply below_alloc | apply pw_below_drewN | apply below_drew1 | refine below_set ?_ GE157.out | refine below_set ?_ GE158.out) | exact HB.out)⟩

end Go.Proofs.YtnhnlodmkbiiiaaDoor.PPbShare
