/- Printed by a program of this session (it drives the print of the kit, with contracts proved by hand beside): the Go functions of one law as Lean functions, and that the Go code comes to what they say. -/
import Derived.Test.YtnhnlodmkbiiiaaDoorQPPbJoinx0
import Derived.Test.YtnhnlodmkbiiiaaDoorQPPbJoinx1
import Derived.Test.YtnhnlodmkbiiiaaDoorQPPbJoinx7
namespace Go.Proofs.YtnhnlodmkbiiiaaDoor.PPbJoin
open Go.RowKit Go.Proofs.YtnhnlodmkbiiiaaDoorL Go.Proofs.YtnhnlodmkbiiiaaDoorW.PrintWords Go.Proofs.YtnhnlodmkbiiiaaDoorW.PrintLast Go.Proofs.YtnhnlodmkbiiiaaDoorW.PrintMore
attribute [local go_sem] max2_int min2_int max_two min_two max_three min_three max_four min_four   -- for this text's walks alone
set_option linter.unusedVariables false
set_option linter.unusedSimpArgs false

/-! ### spec_PbSameLink: function 15 -/
def spec_PbSameLink.f (a0_0 : Bool) (a0_1 : Bool) (a0_2 : Bool) (l0_3 : List Int) (a0_4 : ByteArray) (a0_5 : Int) (a1_0 : Bool) (a1_1 : Bool) (a1_2 : Bool) (l1_3 : List Int) (a1_4 : ByteArray) (a1_5 : Int) : Option (Bool) := (spec_PbPlain.f a0_0 a0_1 a0_2 l0_3 a0_4 a0_5).bind fun bt176 => ((spec_PbPlain.f a1_0 a1_1 a1_2 l1_3 a1_4 a1_5).bind fun bt184 => (if (bt176.1 == bt184.1) = true then (if (bt176.2.1 == bt184.2.1) = true then (if (bt176.2.2.1 == bt184.2.2.1) = true then ((spec_SameBytes.f bt176.2.2.2.1 bt184.2.2.2.1).bind fun t192 => (if t192 = true then (if bt176.2.2.2.2.1.toList = bt184.2.2.2.2.1.toList then (some (bt176.2.2.2.2.2 == bt184.2.2.2.2.2)) else (some false)) else (some false))) else (some false)) else (some false)) else (some false)))
set_option maxHeartbeats 8000000 in
set_option maxRecDepth 100000 in
theorem spec_PbSameLink.calls (a0_0 : Bool) (a0_1 : Bool) (a0_2 : Bool) (A0_3 : Option Addr) (c0_3 : Nat) (l0_3 : List Int) (a0_4 : ByteArray) (a0_5 : Int) (a1_0 : Bool) (a1_1 : Bool) (a1_2 : Bool) (A1_3 : Option Addr) (c1_3 : Nat) (l1_3 : List Int) (a1_4 : ByteArray) (a1_5 : Int) (r : Bool) (w : World) (hr0_3 : Kd.C (Kd.int .u8) w A0_3 l0_3.length l0_3) (hc0_3 : l0_3.length ≤ c0_3) (hr1_3 : Kd.C (Kd.int .u8) w A1_3 l1_3.length l1_3) (hc1_3 : l1_3.length ≤ c1_3) (h : spec_PbSameLink.f a0_0 a0_1 a0_2 l0_3 a0_4 a0_5 a1_0 a1_1 a1_2 l1_3 a1_4 a1_5 = some r) :
  Calls Tryd.prog 15 #[.agg #[.bool a0_0, .bool a0_1, .bool a0_2, .slice A0_3 l0_3.length c0_3, .string a0_4, .int .u64 a0_5], .agg #[.bool a1_0, .bool a1_1, .bool a1_2, .slice A1_3 l1_3.length c1_3, .string a1_4, .int .u64 a1_5]] w fun e w' => e = .returned (.bool r) ∧ Below w.heap.size w w' := by
 have hu27 := Tryd.underlying27
 have HR0_3 := Aside0.mk hr0_3
 have HC0_3 := Aside0.mk hc0_3
 clear hr0_3 hc0_3
 have HR1_3 := Aside0.mk hr1_3
 have HC1_3 := Aside0.mk hc1_3
 clear hr1_3 hc1_3
 have HB := Aside0.mk (Below.refl w.heap.size w)
 have H : ((spec_PbPlain.f a0_0 a0_1 a0_2 l0_3 a0_4 a0_5).bind fun bt176 => ((spec_PbPlain.f a1_0 a1_1 a1_2 l1_3 a1_4 a1_5).bind fun bt184 => (if (bt176.1 == bt184.1) = true then (if (bt176.2.1 == bt184.2.1) = true then (if (bt176.2.2.1 == bt184.2.2.1) = true then ((spec_SameBytes.f bt176.2.2.2.1 bt184.2.2.2.1).bind fun t192 => (if t192 = true then (if bt176.2.2.2.2.1.toList = bt184.2.2.2.2.1.toList then (some (bt176.2.2.2.2.2 == bt184.2.2.2.2.2)) else (some false)) else (some false))) else (some false)) else (some false)) else (some false)))) = some r := h
 clear h
 replace H := Option.bind_eq_some_iff.mp H
 obtain ⟨⟨t176, t177, t178, t179, t182, t183⟩, A30, H⟩ := H
 replace H : ((spec_PbPlain.f a1_0 a1_1 a1_2 l1_3 a1_4 a1_5).bind fun bt184 => (if (t176 == bt184.1) = true then (if (t177 == bt184.2.1) = true then (if (t178 == bt184.2.2.1) = true then ((spec_SameBytes.f t179 bt184.2.2.2.1).bind fun t192 => (if t192 = true then (if t182.toList = bt184.2.2.2.2.1.toList then (some (t183 == bt184.2.2.2.2.2)) else (some false)) else (some false))) else (some false)) else (some false)) else (some false))) = some r := H
 have A3 := Aside0.mk A30
 clear A30
 replace H := Option.bind_eq_some_iff.mp H
 obtain ⟨⟨t184, t185, t186, t187, t190, t191⟩, A40, H⟩ := H
 replace H : (if (t176 == t184) = true then (if (t177 == t185) = true then (if (t178 == t186) = true then ((spec_SameBytes.f t179 t187).bind fun t192 => (if t192 = true then (if t182.toList = t190.toList then (some (t183 == t191)) else (some false)) else (some false))) else (some false)) else (some false)) else (some false)) = some r := H
 have A4 := Aside0.mk A40
 clear A40
 go_enter Tryd.func15, Tryd.ntmps15
 try go_wp2_with (first | ((with_reducible refine gate_dst (N := 2) rfl ?_); refine box_event ?hg (N := 2) ?hd (cs := #[.bool a0_0, .bool a0_1, .bool a0_2, .slice A0_3 l0_3.length c0_3, .string a0_4, .int .u64 a0_5]) (t := 27) ?hr ?_; (case hd => rfl); (case hg => rfl); (case hr => first | (go_simp; done) | (go_simp; rfl)); intro gb174 hg w11 hbox hb; have n0_ := Aside0.mk (below_step (by repeat (first | (with_reducible first | exact HB.out | apply below_alloc | apply pw_below_drewN | apply below_drew1) | exact HB.out)) hb); have n1_ := Aside0.mk (hbox); have n2_ := Aside0.mk ((by rw [hg]; exact (below_size (by repeat (first | (with_reducible first | exact HB.out | apply below_alloc | apply pw_below_drewN | apply below_drew1) | exact HB.out))) : w.heap.size ≤ gb174)); have n3_ := Aside0.mk ((by rw [hg]; exact (below_size (by repeat (first | (with_reducible first | exact HB.out | apply below_alloc | apply pw_below_drewN | apply below_drew1) | exact HB.out))) : w.heap.size ≤ gb174)); clear HB; have HB := n0_; have BK174 := n1_; have GW174 := n2_; have GE174 := n3_; clear n0_ n1_ n2_ n3_; clear hb hbox hg) | ((with_reducible refine gate_dst (N := 3) rfl ?_); refine box_event ?hg (N := 3) ?hd (cs := #[.bool a1_0, .bool a1_1, .bool a1_2, .slice A1_3 l1_3.length c1_3, .string a1_4, .int .u64 a1_5]) (t := 27) ?hr ?_; (case hd => rfl); (case hg => rfl); (case hr => first | (go_simp; done) | (go_simp; rfl)); intro gb175 hg w12 hbox hb; have n0_ := Aside0.mk (blk_below (g := gb174) (o := .cells #[.bool a0_0, .bool a0_1, .bool a0_2, .slice A0_3 l0_3.length c0_3, .string a0_4, .int .u64 a0_5] 27 (0, 0)) (by (with_reducible repeat (first | refine blk_drewN ?_ _ | refine blk_drew ?_ | refine blk_alloc ?_ _)); exact BK174.out) hb); have n1_ := Aside0.mk (below_step (by repeat (first | (with_reducible first | exact HB.out | apply below_alloc | apply pw_below_drewN | apply below_drew1 | refine below_set ?_ GE174.out) | exact HB.out)) hb); have n2_ := Aside0.mk (hbox); have n3_ := Aside0.mk ((by rw [hg]; exact (below_size (by repeat (first | (with_reducible first | exact HB.out | apply below_alloc | apply pw_below_drewN | apply below_drew1 | refine below_set ?_ GE174.out) | exact HB.out))) : w.heap.size ≤ gb175)); have n4_ := Aside0.mk ((by rw [hg]; exact (below_size (by repeat (first | (with_reducible first | exact HB.out | apply below_alloc | apply pw_below_drewN | apply below_drew1 | refine below_set ?_ GE174.out) | exact HB.out))) : w.heap.size ≤ gb175)); have n5_ := Aside0.mk ((by rw [hg]; exact Nat.ne_of_lt (blk_lt (g := gb174) (o := .cells #[.bool a0_0, .bool a0_1, .bool a0_2, .slice A0_3 l0_3.length c0_3, .string a0_4, .int .u64 a0_5] 27 (0, 0)) (by (with_reducible repeat (first | refine blk_drewN ?_ _ | refine blk_drew ?_ | refine blk_alloc ?_ _)); exact BK174.out)) : gb174 ≠ gb175)); have n6_ := Aside0.mk ((by rw [hg]; exact Nat.ne_of_gt (blk_lt (g := gb174) (o := .cells #[.bool a0_0, .bool a0_1, .bool a0_2, .slice A0_3 l0_3.length c0_3, .string a0_4, .int .u64 a0_5] 27 (0, 0)) (by (with_reducible repeat (first | refine blk_drewN ?_ _ | refine blk_drew ?_ | refine blk_alloc ?_ _)); exact BK174.out)) : gb175 ≠ gb174)); clear BK174; clear HB; have BK174 := n0_; have HB := n1_; have BK175 := n2_; have GW175 := n3_; have GE175 := n4_; have NB174_175 := n5_; have NB175_174 := n6_; clear n0_ n1_ n2_ n3_ n4_ n5_ n6_; clear hb hbox hg))
 have n0_ := Aside0.mk (blk_drew BK174.out)
 have n1_ := Aside0.mk (blk_drew BK175.out)
 have n2_ := Aside0.mk (below_drew1 HB.out)
 clear BK174
 clear BK175
 clear HB
 have BK174 := n0_
 have BK175 := n1_
 have HB := n2_
 clear n0_ n1_ n2_
 refine start_ (n := 6) (S := fun w' => w'.cell? ⟨gb174, 0, none⟩ = some (.bool a0_0) ∧ w'.cell? ⟨gb174, 1, none⟩ = some (.bool a0_1) ∧ w'.cell? ⟨gb174, 2, none⟩ = some (.bool a0_2) ∧ w'.cell? ⟨gb174, 3, none⟩ = some (.slice A0_3 l0_3.length c0_3) ∧ w'.cell? ⟨gb174, 4, none⟩ = some (.string a0_4) ∧ w'.cell? ⟨gb174, 5, none⟩ = some (.int .u64 a0_5) ∧ w'.cell? ⟨gb175, 0, none⟩ = some (.bool a1_0) ∧ w'.cell? ⟨gb175, 1, none⟩ = some (.bool a1_1) ∧ w'.cell? ⟨gb175, 2, none⟩ = some (.bool a1_2) ∧ w'.cell? ⟨gb175, 3, none⟩ = some (.slice A1_3 l1_3.length c1_3) ∧ w'.cell? ⟨gb175, 4, none⟩ = some (.string a1_4) ∧ w'.cell? ⟨gb175, 5, none⟩ = some (.int .u64 a1_5)) (ds := [4, 5]) #[false, false, false, false, false, false] (by kernel_rfl) rfl rfl ⟨(blk_cell BK174.out 0).trans rfl, (blk_cell BK174.out 1).trans rfl, (blk_cell BK174.out 2).trans rfl, (blk_cell BK174.out 3).trans rfl, (blk_cell BK174.out 4).trans rfl, (blk_cell BK174.out 5).trans rfl, (blk_cell BK175.out 0).trans rfl, (blk_cell BK175.out 1).trans rfl, (blk_cell BK175.out 2).trans rfl, (blk_cell BK175.out 3).trans rfl, (blk_cell BK175.out 4).trans rfl, (blk_cell BK175.out 5).trans rfl⟩ (fun hHeld => ?_)
 generalize w12.drew = w13 at BK174 BK175 HB hHeld ⊢
 refine take_ (i := 0) (N := some 5) (v := ?_) (a' := ?_) #[true, false, false, false, false, false] rfl rfl (by kernel_rfl) (fun _ _ _ h => h) (Or.inl ⟨by rfl, ?_⟩) hHeld ?_ ?_
 rotate_left
 ·rintro w' ⟨s0, s1, s2, s3, s4, s5, s6, s7, s8, s9, s10, s11⟩
  go_simp
  with_reducible rfl
 rotate_left
 ·simp only [Act.put, List.setIfInBounds_toArray, List.set_cons_zero, List.set_cons_succ, i64_w, i32_w]
  rfl
 refine take_ (i := 2) (N := some 7) (v := ?_) (a' := ?_) #[true, false, true, false, false, false] rfl rfl (by kernel_rfl) (fun _ _ _ h => h) (Or.inl ⟨by rfl, ?_⟩) hHeld ?_ ?_
 rotate_left
 ·rintro w' ⟨s0, s1, s2, s3, s4, s5, s6, s7, s8, s9, s10, s11⟩
  go_simp
  with_reducible rfl
 rotate_left
 ·simp only [Act.put, List.setIfInBounds_toArray, List.set_cons_zero, List.set_cons_succ, i64_w, i32_w]
  rfl
 refine one_ (i := 1) (N := some 6) #[true, true, true, false, false, false] rfl rfl (by kernel_rfl) (by decide) (fun K hK => ?_)
 refine goes_ Tryd.func53 (by kernel_rfl) rfl #[.agg #[.bool a0_0, .bool a0_1, .bool a0_2, .slice A0_3 l0_3.length c0_3, .string a0_4, .int .u64 a0_5]] (by rfl) rfl rfl (by (try simp only [List.map_toArray, List.map_cons, List.map_nil]); first | done | rfl | (simp only [List.length_drop, List.length_take]; rfl)) ?_
 with_reducible refine (spec_PbPlain.calls a0_0 a0_1 a0_2 (fun k_ => k_ < w.heap.size) _ _ l0_3 a0_4 a0_5 t176 t177 t178 t179 t182 t183 _ ?side1 A3.out).mono ?_
 (case side1 => exact Kd.V_mk HC0_3.out (Kd.F_below (Kd.C_F (Kd.heap_int .u8) HR0_3.out) (by repeat (first | (with_reducible first | exact HB.out | apply below_alloc | apply pw_below_drewN | apply below_drew1 | refine below_set ?_ GE174.out | refine below_set ?_ GE175.out) | exact HB.out))))
 rintro e w14 ⟨v180, rfl, ho0, hb⟩
 refine ⟨_, rfl, ?_⟩
 have n0_ := Aside0.mk (Kd.V_lower (Kd.V_mono (ok' := fun k_ => k_ ≠ gb174 ∧ k_ ≠ gb175) ho0 (fun k_ hk_ => ⟨Or.elim hk_ (fun hs_ => fun e_ => Nat.not_le.2 hs_ (by rw [e_]; exact GW174.out)) (fun hn_ => (Kd.freshB (g := gb174) (o := .cells #[.bool a0_0, .bool a0_1, .bool a0_2, .slice A0_3 l0_3.length c0_3, .string a0_4, .int .u64 a0_5] 27 (0, 0)) (by (with_reducible repeat (first | refine blk_drewN ?_ _ | refine blk_drew ?_ | refine blk_alloc ?_ _)); exact BK174.out) k_ hn_)), Or.elim hk_ (fun hs_ => fun e_ => Nat.not_le.2 hs_ (by rw [e_]; exact GW175.out)) (fun hn_ => (Kd.freshB (g := gb175) (o := .cells #[.bool a1_0, .bool a1_1, .bool a1_2, .slice A1_3 l1_3.length c1_3, .string a1_4, .int .u64 a1_5] 27 (0, 0)) (by (with_reducible repeat (first | refine blk_drewN ?_ _ | refine blk_drew ?_ | refine blk_alloc ?_ _)); exact BK175.out) k_ hn_))⟩)) (below_size (by repeat (first | (with_reducible first | exact HB.out | apply below_alloc | apply pw_below_drewN | apply below_drew1 | refine below_set ?_ GE174.out | refine below_set ?_ GE175.out) | exact HB.out))))
 have n1_ := Aside0.mk (blk_below (g := gb174) (o := .cells #[.bool a0_0, .bool a0_1, .bool a0_2, .slice A0_3 l0_3.length c0_3, .string a0_4, .int .u64 a0_5] 27 (0, 0)) (by (with_reducible repeat (first | refine blk_drewN ?_ _ | refine blk_drew ?_ | refine blk_alloc ?_ _)); exact BK174.out) hb)
 have n2_ := Aside0.mk (blk_below (g := gb175) (o := .cells #[.bool a1_0, .bool a1_1, .bool a1_2, .slice A1_3 l1_3.length c1_3, .string a1_4, .int .u64 a1_5] 27 (0, 0)) (by (with_reducible repeat (first | refine blk_drewN ?_ _ | refine blk_drew ?_ | refine blk_alloc ?_ _)); exact BK175.out) hb)
 have n3_ := Aside0.mk (below_step (by repeat (first | (with_reducible first | exact HB.out | apply below_alloc | apply pw_below_drewN | apply below_drew1 | refine below_set ?_ GE174.out | refine below_set ?_ GE175.out) | exact HB.out)) hb)
 clear BK174
 clear BK175
 clear HB
 have HO181 := n0_
 have BK174 := n1_
 have BK175 := n2_
 have HB := n3_
 clear n0_ n1_ n2_ n3_
 (try clear hb)
 (try clear hb2)
 (try clear hk)
 (try clear hi)
 (try clear ho0)
 refine hK.out _ _ ⟨(blk_cell BK174.out 0).trans rfl, (blk_cell BK174.out 1).trans rfl, (blk_cell BK174.out 2).trans rfl, (blk_cell BK174.out 3).trans rfl, (blk_cell BK174.out 4).trans rfl, (blk_cell BK174.out 5).trans rfl, (blk_cell BK175.out 0).trans rfl, (blk_cell BK175.out 1).trans rfl, (blk_cell BK175.out 2).trans rfl, (blk_cell BK175.out 3).trans rfl, (blk_cell BK175.out 4).trans rfl, (blk_cell BK175.out 5).trans rfl⟩ (fun hHeld => ?_)
 clear hK K
 refine norm_ (a' := ?_) ?_ ?_
 rotate_left
 ·show Act.put _ (some 6) _ = _
  simp only [Act.put, List.setIfInBounds_toArray, List.set_cons_zero, List.set_cons_succ, i64_w, i32_w]
  rfl
 refine one_ (i := 3) (N := some 8) #[true, true, true, true, false, false] rfl rfl (by kernel_rfl) (by decide) (fun K hK => ?_)
 refine goes_ Tryd.func53 (by kernel_rfl) rfl #[.agg #[.bool a1_0, .bool a1_1, .bool a1_2, .slice A1_3 l1_3.length c1_3, .string a1_4, .int .u64 a1_5]] (by rfl) rfl rfl (by (try simp only [List.map_toArray, List.map_cons, List.map_nil]); first | done | rfl | (simp only [List.length_drop, List.length_take]; rfl)) ?_
 with_reducible refine (spec_PbPlain.calls a1_0 a1_1 a1_2 (fun k_ => k_ < w.heap.size) _ _ l1_3 a1_4 a1_5 t184 t185 t186 t187 t190 t191 _ ?side1 A4.out).mono ?_
 (case side1 => exact Kd.V_mk HC1_3.out (Kd.F_below (Kd.C_F (Kd.heap_int .u8) HR1_3.out) (by repeat (first | (with_reducible first | exact HB.out | apply below_alloc | apply pw_below_drewN | apply below_drew1 | refine below_set ?_ GE174.out | refine below_set ?_ GE175.out) | exact HB.out))))
 rintro e w15 ⟨v188, rfl, ho0, hb⟩
 refine ⟨_, rfl, ?_⟩
 have n0_ := Aside0.mk (Kd.V_below (by (with_reducible repeat (first | apply Kd.V_alloc | apply Kd.V_drewN | apply Kd.V_drew)); exact HO181.out) hb)
 have n1_ := Aside0.mk (Kd.V_lower (Kd.V_mono (ok' := fun k_ => k_ ≠ gb174 ∧ k_ ≠ gb175) ho0 (fun k_ hk_ => ⟨Or.elim hk_ (fun hs_ => fun e_ => Nat.not_le.2 hs_ (by rw [e_]; exact GW174.out)) (fun hn_ => (Kd.freshB (g := gb174) (o := .cells #[.bool a0_0, .bool a0_1, .bool a0_2, .slice A0_3 l0_3.length c0_3, .string a0_4, .int .u64 a0_5] 27 (0, 0)) (by (with_reducible repeat (first | refine blk_drewN ?_ _ | refine blk_drew ?_ | refine blk_alloc ?_ _)); exact BK174.out) k_ hn_)), Or.elim hk_ (fun hs_ => fun e_ => Nat.not_le.2 hs_ (by rw [e_]; exact GW175.out)) (fun hn_ => (Kd.freshB (g := gb175) (o := .cells #[.bool a1_0, .bool a1_1, .bool a1_2, .slice A1_3 l1_3.length c1_3, .string a1_4, .int .u64 a1_5] 27 (0, 0)) (by (with_reducible repeat (first | refine blk_drewN ?_ _ | refine blk_drew ?_ | refine blk_alloc ?_ _)); exact BK175.out) k_ hn_))⟩)) (below_size (by repeat (first | (with_reducible first | exact HB.out | apply below_alloc | apply pw_below_drewN | apply below_drew1 | refine below_set ?_ GE174.out | refine below_set ?_ GE175.out) | exact HB.out))))
 have n2_ := Aside0.mk (blk_below (g := gb174) (o := .cells #[.bool a0_0, .bool a0_1, .bool a0_2, .slice A0_3 l0_3.length c0_3, .string a0_4, .int .u64 a0_5] 27 (0, 0)) (by (with_reducible repeat (first | refine blk_drewN ?_ _ | refine blk_drew ?_ | refine blk_alloc ?_ _)); exact BK174.out) hb)
 have n3_ := Aside0.mk (blk_below (g := gb175) (o := .cells #[.bool a1_0, .bool a1_1, .bool a1_2, .slice A1_3 l1_3.length c1_3, .string a1_4, .int .u64 a1_5] 27 (0, 0)) (by (with_reducible repeat (first | refine blk_drewN ?_ _ | refine blk_drew ?_ | refine blk_alloc ?_ _)); exact BK175.out) hb)
 have n4_ := Aside0.mk (below_step (by repeat (first | (with_reducible first | exact HB.out | apply below_alloc | apply pw_below_drewN | apply below_drew1 | refine below_set ?_ GE174.out | refine below_set ?_ GE175.out) | exact HB.out)) hb)
 clear HO181
 clear BK174
 clear BK175
 clear HB
 have HO181 := n0_
 have HO189 := n1_
 have BK174 := n2_
 have BK175 := n3_
 have HB := n4_
 clear n0_ n1_ n2_ n3_ n4_
 (try clear hb)
 (try clear hb2)
 (try clear hk)
 (try clear hi)
 (try clear ho0)
 obtain ⟨Ao19, co19, eo19⟩ := Kd.V_slice HO181.out
 (first | subst eo19 | (injection eo19 with f1_ f2_ f3_; have f4_ := f1_.symm; have f5_ := f3_.symm; clear f1_ f2_ f3_; subst f4_; subst f5_))
 obtain ⟨Ao26, co26, eo26⟩ := Kd.V_slice HO189.out
 (first | subst eo26 | (injection eo26 with f1_ f2_ f3_; have f4_ := f1_.symm; have f5_ := f3_.symm; clear f1_ f2_ f3_; subst f4_; subst f5_))
 refine hK.out _ _ ⟨(blk_cell BK174.out 0).trans rfl, (blk_cell BK174.out 1).trans rfl, (blk_cell BK174.out 2).trans rfl, (blk_cell BK174.out 3).trans rfl, (blk_cell BK174.out 4).trans rfl, (blk_cell BK174.out 5).trans rfl, (blk_cell BK175.out 0).trans rfl, (blk_cell BK175.out 1).trans rfl, (blk_cell BK175.out 2).trans rfl, (blk_cell BK175.out 3).trans rfl, (blk_cell BK175.out 4).trans rfl, (blk_cell BK175.out 5).trans rfl⟩ (fun hHeld => ?_)
 clear hK K
 refine norm_ (a' := ?_) ?_ ?_
 rotate_left
 ·show Act.put _ (some 8) _ = _
  simp only [Act.put, List.setIfInBounds_toArray, List.set_cons_zero, List.set_cons_succ, i64_w, i32_w]
  rfl
 refine last_ (i := 4) (N := none) #[true, true, true, true, true, false] rfl rfl (by kernel_rfl) (by decide) (fun K hK => ?_)
 have hs16 : w15.cell? ⟨gb174, 0, none⟩ = some (.bool a0_0) := (blk_cell BK174.out 0).trans rfl
 have hfs16 := blk_frozen BK174.out 0
 have hns16_1 := NB175_174.out
 have hms16_1 := NB174_175.out
 have hs17 : w15.cell? ⟨gb174, 1, none⟩ = some (.bool a0_1) := (blk_cell BK174.out 1).trans rfl
 have hfs17 := blk_frozen BK174.out 1
 have hns17_1 := NB175_174.out
 have hms17_1 := NB174_175.out
 have hs18 : w15.cell? ⟨gb174, 2, none⟩ = some (.bool a0_2) := (blk_cell BK174.out 2).trans rfl
 have hfs18 := blk_frozen BK174.out 2
 have hns18_1 := NB175_174.out
 have hms18_1 := NB174_175.out
 have hs20 : w15.cell? ⟨gb174, 3, none⟩ = some (.slice A0_3 l0_3.length c0_3) := (blk_cell BK174.out 3).trans rfl
 have hfs20 := blk_frozen BK174.out 3
 have hns20_1 := NB175_174.out
 have hms20_1 := NB174_175.out
 have hs21 : w15.cell? ⟨gb174, 4, none⟩ = some (.string a0_4) := (blk_cell BK174.out 4).trans rfl
 have hfs21 := blk_frozen BK174.out 4
 have hns21_1 := NB175_174.out
 have hms21_1 := NB174_175.out
 have hs22 : w15.cell? ⟨gb174, 5, none⟩ = some (.int .u64 a0_5) := (blk_cell BK174.out 5).trans rfl
 have hfs22 := blk_frozen BK174.out 5
 have hns22_1 := NB175_174.out
 have hms22_1 := NB174_175.out
 refine skip_ (w1 := ?_) (by rfl) rfl ?_ ?_
 rotate_left
 ·go_simp
  rfl
 refine hK.out _ _ ?_
 clear hK K
 refine last_ (i := 5) (N := none) #[true, true, true, true, true, true] rfl rfl (by kernel_rfl) (by decide) (fun K hK => ?_)
 have hs23 : w15.cell? ⟨gb175, 0, none⟩ = some (.bool a1_0) := (blk_cell BK175.out 0).trans rfl
 have hfs23 := blk_frozen BK175.out 0
 have hns23_0 := NB174_175.out
 have hms23_0 := NB175_174.out
 have hs24 : w15.cell? ⟨gb175, 1, none⟩ = some (.bool a1_1) := (blk_cell BK175.out 1).trans rfl
 have hfs24 := blk_frozen BK175.out 1
 have hns24_0 := NB174_175.out
 have hms24_0 := NB175_174.out
 have hs25 : w15.cell? ⟨gb175, 2, none⟩ = some (.bool a1_2) := (blk_cell BK175.out 2).trans rfl
 have hfs25 := blk_frozen BK175.out 2
 have hns25_0 := NB174_175.out
 have hms25_0 := NB175_174.out
 have hs27 : w15.cell? ⟨gb175, 3, none⟩ = some (.slice A1_3 l1_3.length c1_3) := (blk_cell BK175.out 3).trans rfl
 have hfs27 := blk_frozen BK175.out 3
 have hns27_0 := NB174_175.out
 have hms27_0 := NB175_174.out
 have hs28 : w15.cell? ⟨gb175, 4, none⟩ = some (.string a1_4) := (blk_cell BK175.out 4).trans rfl
 have hfs28 := blk_frozen BK175.out 4
 have hns28_0 := NB174_175.out
 have hms28_0 := NB175_174.out
 have hs29 : w15.cell? ⟨gb175, 5, none⟩ = some (.int .u64 a1_5) := (blk_cell BK175.out 5).trans rfl
 have hfs29 := blk_frozen BK175.out 5
 have hns29_0 := NB174_175.out
 have hms29_0 := NB175_174.out
 refine skip_ (w1 := ?_) (by rfl) rfl ?_ ?_
 rotate_left
 ·go_simp
  rfl
 refine hK.out _ _ ?_
 clear hK K
 refine done_ (by kernel_rfl) ?_
 have hnb30 := NB174_175.out
 have hnc30 := NB175_174.out
 have hcz31_0 : w15.cell? ⟨gb174, 0, none⟩ = some (.bool a0_0) := (blk_cell BK174.out 0).trans rfl
 have hcz31_1 : w15.cell? ⟨gb174, 1, none⟩ = some (.bool a0_1) := (blk_cell BK174.out 1).trans rfl
 have hcz31_2 : w15.cell? ⟨gb174, 2, none⟩ = some (.bool a0_2) := (blk_cell BK174.out 2).trans rfl
 have hcz31_3 : w15.cell? ⟨gb174, 3, none⟩ = some (.slice A0_3 l0_3.length c0_3) := (blk_cell BK174.out 3).trans rfl
 have hcz31_4 : w15.cell? ⟨gb174, 4, none⟩ = some (.string a0_4) := (blk_cell BK174.out 4).trans rfl
 have hcz31_5 : w15.cell? ⟨gb174, 5, none⟩ = some (.int .u64 a0_5) := (blk_cell BK174.out 5).trans rfl
 have hfz31_0 := blk_frozen BK174.out 0
 have hfz31_1 := blk_frozen BK174.out 1
 have hfz31_2 := blk_frozen BK174.out 2
 have hfz31_3 := blk_frozen BK174.out 3
 have hfz31_4 := blk_frozen BK174.out 4
 have hfz31_5 := blk_frozen BK174.out 5
 have hcz32_0 : w15.cell? ⟨gb175, 0, none⟩ = some (.bool a1_0) := (blk_cell BK175.out 0).trans rfl
 have hcz32_1 : w15.cell? ⟨gb175, 1, none⟩ = some (.bool a1_1) := (blk_cell BK175.out 1).trans rfl
 have hcz32_2 : w15.cell? ⟨gb175, 2, none⟩ = some (.bool a1_2) := (blk_cell BK175.out 2).trans rfl
 have hcz32_3 : w15.cell? ⟨gb175, 3, none⟩ = some (.slice A1_3 l1_3.length c1_3) := (blk_cell BK175.out 3).trans rfl
 have hcz32_4 : w15.cell? ⟨gb175, 4, none⟩ = some (.string a1_4) := (blk_cell BK175.out 4).trans rfl
 have hcz32_5 : w15.cell? ⟨gb175, 5, none⟩ = some (.int .u64 a1_5) := (blk_cell BK175.out 5).trans rfl
 have hfz32_0 := blk_frozen BK175.out 0
 have hfz32_1 := blk_frozen BK175.out 1
 have hfz32_2 := blk_frozen BK175.out 2
 have hfz32_3 := blk_frozen BK175.out 3
 have hfz32_4 := blk_frozen BK175.out 4
 have hfz32_5 := blk_frozen BK175.out 5
 by_cases c5 : (t176 == t184) = true
 ·rw [if_pos c5] at H
  have c5b0 : (t176 == t184) = true := c5
  (try (have c5b1 : decide (t176 = t184) = true := by simpa using c5))
  (try (have c5b2 : (t176 == t184) = true := by simpa using c5))
  clear c5
  by_cases c6 : (t177 == t185) = true
  ·rw [if_pos c6] at H
   have c6b0 : (t177 == t185) = true := c6
   (try (have c6b1 : decide (t177 = t185) = true := by simpa using c6))
   (try (have c6b2 : (t177 == t185) = true := by simpa using c6))
   clear c6
   by_cases c7 : (t178 == t186) = true
   ·rw [if_pos c7] at H
    have c7b0 : (t178 == t186) = true := c7
    (try (have c7b1 : decide (t178 = t186) = true := by simpa using c7))
    (try (have c7b2 : (t178 == t186) = true := by simpa using c7))
    clear c7
    replace H := Option.bind_eq_some_iff.mp H
    obtain ⟨t192, A80, H⟩ := H
    replace H : (if t192 = true then (if t182.toList = t190.toList then (some (t183 == t191)) else (some false)) else (some false)) = some r := H
    have A8 := Aside0.mk A80
    clear A80
    by_cases c9 : t192 = true
    ·subst c9
     have H1 : (if t182.toList = t190.toList then (some (t183 == t191)) else (some false)) = some r := by rw [if_pos rfl] at H; exact H
     clear H
     have H := H1
     clear H1
     by_cases c10 : t182.toList = t190.toList
     ·rw [if_pos c10] at H
      have c10b0 : (t182.toList == t190.toList) = true := beq_iff_eq.mpr c10
      have c10b1 : (t182.toList != t190.toList) = false := bne_eq_false_iff_eq.mpr c10
      clear c10
      obtain rfl := Option.some.inj H
      try go_wp2_with (first | (go_at_call 20; (with_reducible refine (spec_SameBytes.calls _ _ t179 _ _ t187 true _ ?side1 ?side2 ?side3 ?side4 A8.out).mono ?_); (case side1 => refine (Kd.V_reads' (e := 5) (base := w.heap.size) (ok := fun k_ => (k_ ≠ gb174 ∧ k_ ≠ gb175)) (n := t179.length) (c := co19) ?_).2.2; exact (by (with_reducible repeat (first | apply Kd.V_alloc | apply Kd.V_drewN | apply Kd.V_drew)); exact (Kd.V_mono (Kd.V_mono (Kd.V_far (p := ⟨gb175, 5, none⟩) (Kd.V_far (p := ⟨gb175, 4, none⟩) (Kd.V_far (p := ⟨gb175, 3, none⟩) (Kd.V_far (p := ⟨gb175, 2, none⟩) (Kd.V_far (p := ⟨gb175, 1, none⟩) (Kd.V_far (p := ⟨gb175, 0, none⟩) (Kd.V_far (p := ⟨gb174, 5, none⟩) (Kd.V_far (p := ⟨gb174, 4, none⟩) (Kd.V_far (p := ⟨gb174, 3, none⟩) (Kd.V_far (p := ⟨gb174, 2, none⟩) (Kd.V_far (p := ⟨gb174, 1, none⟩) (Kd.V_far (p := ⟨gb174, 0, none⟩) (Kd.V_mono (Kd.V_mono HO181.out (fun k_ hk => (⟨hk, hk.1⟩ : _ ∧ k_ ≠ gb174))) (fun k_ hk => (⟨hk, hk.1.2⟩ : _ ∧ k_ ≠ gb175))) (fun _ hk => hk.1.2) (.bool t176)) (fun _ hk => hk.1.2) (.bool t177)) (fun _ hk => hk.1.2) (.bool t178)) (fun _ hk => hk.1.2) (.slice Ao19 t179.length co19)) (fun _ hk => hk.1.2) (.string t182)) (fun _ hk => hk.1.2) (.int .u64 t183)) (fun _ hk => hk.2) (.bool t184)) (fun _ hk => hk.2) (.bool t185)) (fun _ hk => hk.2) (.bool t186)) (fun _ hk => hk.2) (.slice Ao26 t187.length co26)) (fun _ hk => hk.2) (.string t190)) (fun _ hk => hk.2) (.int .u64 t191)) (fun _ h_ => h_.1)) (fun _ h_ => h_.1)))); (case side2 => exact (Kd.V_reads' HO181.out).2.1); (case side3 => refine (Kd.V_reads' (e := 5) (base := w.heap.size) (ok := fun k_ => (k_ ≠ gb174 ∧ k_ ≠ gb175)) (n := t187.length) (c := co26) ?_).2.2; exact (by (with_reducible repeat (first | apply Kd.V_alloc | apply Kd.V_drewN | apply Kd.V_drew)); exact (Kd.V_mono (Kd.V_mono (Kd.V_far (p := ⟨gb175, 5, none⟩) (Kd.V_far (p := ⟨gb175, 4, none⟩) (Kd.V_far (p := ⟨gb175, 3, none⟩) (Kd.V_far (p := ⟨gb175, 2, none⟩) (Kd.V_far (p := ⟨gb175, 1, none⟩) (Kd.V_far (p := ⟨gb175, 0, none⟩) (Kd.V_far (p := ⟨gb174, 5, none⟩) (Kd.V_far (p := ⟨gb174, 4, none⟩) (Kd.V_far (p := ⟨gb174, 3, none⟩) (Kd.V_far (p := ⟨gb174, 2, none⟩) (Kd.V_far (p := ⟨gb174, 1, none⟩) (Kd.V_far (p := ⟨gb174, 0, none⟩) (Kd.V_mono (Kd.V_mono HO189.out (fun k_ hk => (⟨hk, hk.1⟩ : _ ∧ k_ ≠ gb174))) (fun k_ hk => (⟨hk, hk.1.2⟩ : _ ∧ k_ ≠ gb175))) (fun _ hk => hk.1.2) (.bool t176)) (fun _ hk => hk.1.2) (.bool t177)) (fun _ hk => hk.1.2) (.bool t178)) (fun _ hk => hk.1.2) (.slice Ao19 t179.length co19)) (fun _ hk => hk.1.2) (.string t182)) (fun _ hk => hk.1.2) (.int .u64 t183)) (fun _ hk => hk.2) (.bool t184)) (fun _ hk => hk.2) (.bool t185)) (fun _ hk => hk.2) (.bool t186)) (fun _ hk => hk.2) (.slice Ao26 t187.length co26)) (fun _ hk => hk.2) (.string t190)) (fun _ hk => hk.2) (.int .u64 t191)) (fun _ h_ => h_.1)) (fun _ h_ => h_.1)))); (case side4 => exact (Kd.V_reads' HO189.out).2.1); rintro e w' ⟨rfl, ⟨nd, rfl⟩⟩))
      go_ret
      exact ⟨by first | rfl | (simp [errV_none, errV_some] <;> rfl) | (simp [*, errV_none, errV_some] <;> rfl), by repeat (first | (with_reducible first | exact HB.out | apply below_alloc | apply pw_below_drewN | apply below_drew1 | refine below_set ?_ GE174.out | refine below_set ?_ GE175.out) | exact HB.out)⟩
     ·rw [if_neg c10] at H
      have c10b0 : (t182.toList == t190.toList) = false := beq_eq_false_iff_ne.mpr c10
      have c10b1 : (t182.toList != t190.toList) = true := bne_iff_ne.mpr c10
      obtain rfl := Option.some.inj H
      try go_wp2_with (first | (go_at_call 20; (with_reducible refine (spec_SameBytes.calls _ _ t179 _ _ t187 true _ ?side1 ?side2 ?side3 ?side4 A8.out).mono ?_); (case side1 => refine (Kd.V_reads' (e := 5) (base := w.heap.size) (ok := fun k_ => (k_ ≠ gb174 ∧ k_ ≠ gb175)) (n := t179.length) (c := co19) ?_).2.2; exact (by (with_reducible repeat (first | apply Kd.V_alloc | apply Kd.V_drewN | apply Kd.V_drew)); exact (Kd.V_mono (Kd.V_mono (Kd.V_far (p := ⟨gb175, 5, none⟩) (Kd.V_far (p := ⟨gb175, 4, none⟩) (Kd.V_far (p := ⟨gb175, 3, none⟩) (Kd.V_far (p := ⟨gb175, 2, none⟩) (Kd.V_far (p := ⟨gb175, 1, none⟩) (Kd.V_far (p := ⟨gb175, 0, none⟩) (Kd.V_far (p := ⟨gb174, 5, none⟩) (Kd.V_far (p := ⟨gb174, 4, none⟩) (Kd.V_far (p := ⟨gb174, 3, none⟩) (Kd.V_far (p := ⟨gb174, 2, none⟩) (Kd.V_far (p := ⟨gb174, 1, none⟩) (Kd.V_far (p := ⟨gb174, 0, none⟩) (Kd.V_mono (Kd.V_mono HO181.out (fun k_ hk => (⟨hk, hk.1⟩ : _ ∧ k_ ≠ gb174))) (fun k_ hk => (⟨hk, hk.1.2⟩ : _ ∧ k_ ≠ gb175))) (fun _ hk => hk.1.2) (.bool t176)) (fun _ hk => hk.1.2) (.bool t177)) (fun _ hk => hk.1.2) (.bool t178)) (fun _ hk => hk.1.2) (.slice Ao19 t179.length co19)) (fun _ hk => hk.1.2) (.string t182)) (fun _ hk => hk.1.2) (.int .u64 t183)) (fun _ hk => hk.2) (.bool t184)) (fun _ hk => hk.2) (.bool t185)) (fun _ hk => hk.2) (.bool t186)) (fun _ hk => hk.2) (.slice Ao26 t187.length co26)) (fun _ hk => hk.2) (.string t190)) (fun _ hk => hk.2) (.int .u64 t191)) (fun _ h_ => h_.1)) (fun _ h_ => h_.1)))); (case side2 => exact (Kd.V_reads' HO181.out).2.1); (case side3 => refine (Kd.V_reads' (e := 5) (base := w.heap.size) (ok := fun k_ => (k_ ≠ gb174 ∧ k_ ≠ gb175)) (n := t187.length) (c := co26) ?_).2.2; exact (by (with_reducible repeat (first | apply Kd.V_alloc | apply Kd.V_drewN | apply Kd.V_drew)); exact (Kd.V_mono (Kd.V_mono (Kd.V_far (p := ⟨gb175, 5, none⟩) (Kd.V_far (p := ⟨gb175, 4, none⟩) (Kd.V_far (p := ⟨gb175, 3, none⟩) (Kd.V_far (p := ⟨gb175, 2, none⟩) (Kd.V_far (p := ⟨gb175, 1, none⟩) (Kd.V_far (p := ⟨gb175, 0, none⟩) (Kd.V_far (p := ⟨gb174, 5, none⟩) (Kd.V_far (p := ⟨gb174, 4, none⟩) (Kd.V_far (p := ⟨gb174, 3, none⟩) (Kd.V_far (p := ⟨gb174, 2, none⟩) (Kd.V_far (p := ⟨gb174, 1, none⟩) (Kd.V_far (p := ⟨gb174, 0, none⟩) (Kd.V_mono (Kd.V_mono HO189.out (fun k_ hk => (⟨hk, hk.1⟩ : _ ∧ k_ ≠ gb174))) (fun k_ hk => (⟨hk, hk.1.2⟩ : _ ∧ k_ ≠ gb175))) (fun _ hk => hk.1.2) (.bool t176)) (fun _ hk => hk.1.2) (.bool t177)) (fun _ hk => hk.1.2) (.bool t178)) (fun _ hk => hk.1.2) (.slice Ao19 t179.length co19)) (fun _ hk => hk.1.2) (.string t182)) (fun _ hk => hk.1.2) (.int .u64 t183)) (fun _ hk => hk.2) (.bool t184)) (fun _ hk => hk.2) (.bool t185)) (fun _ hk => hk.2) (.bool t186)) (fun _ hk => hk.2) (.slice Ao26 t187.length co26)) (fun _ hk => hk.2) (.string t190)) (fun _ hk => hk.2) (.int .u64 t191)) (fun _ h_ => h_.1)) (fun _ h_ => h_.1)))); (case side4 => exact (Kd.V_reads' HO189.out).2.1); rintro e w' ⟨rfl, ⟨nd, rfl⟩⟩))
      go_ret
      exact ⟨by first | rfl | (simp [errV_none, errV_some] <;> rfl) | (simp [*, errV_none, errV_some] <;> rfl), by repeat (first | (with_reducible first | exact HB.out | apply below_alloc | apply pw_below_drewN | apply below_drew1 | refine below_set ?_ GE174.out | refine below_set ?_ GE175.out) | exact HB.out)⟩
    ·replace c9 := Bool.eq_false_iff.mpr c9
     subst c9
     have H1 : (some false) = some r := by rw [if_neg (show ¬ (false = true) by decide)] at H; exact H
     clear H
     have H := H1
     clear H1
     obtain rfl := Option.some.inj H
     try go_wp2_with (first | (go_at_call 20; (with_reducible refine (spec_SameBytes.calls _ _ t179 _ _ t187 false _ ?side1 ?side2 ?side3 ?side4 A8.out).mono ?_); (case side1 => refine (Kd.V_reads' (e := 5) (base := w.heap.size) (ok := fun k_ => (k_ ≠ gb174 ∧ k_ ≠ gb175)) (n := t179.length) (c := co19) ?_).2.2; exact (by (with_reducible repeat (first | apply Kd.V_alloc | apply Kd.V_drewN | apply Kd.V_drew)); exact (Kd.V_mono (Kd.V_mono (Kd.V_far (p := ⟨gb175, 5, none⟩) (Kd.V_far (p := ⟨gb175, 4, none⟩) (Kd.V_far (p := ⟨gb175, 3, none⟩) (Kd.V_far (p := ⟨gb175, 2, none⟩) (Kd.V_far (p := ⟨gb175, 1, none⟩) (Kd.V_far (p := ⟨gb175, 0, none⟩) (Kd.V_far (p := ⟨gb174, 5, none⟩) (Kd.V_far (p := ⟨gb174, 4, none⟩) (Kd.V_far (p := ⟨gb174, 3, none⟩) (Kd.V_far (p := ⟨gb174, 2, none⟩) (Kd.V_far (p := ⟨gb174, 1, none⟩) (Kd.V_far (p := ⟨gb174, 0, none⟩) (Kd.V_mono (Kd.V_mono HO181.out (fun k_ hk => (⟨hk, hk.1⟩ : _ ∧ k_ ≠ gb174))) (fun k_ hk => (⟨hk, hk.1.2⟩ : _ ∧ k_ ≠ gb175))) (fun _ hk => hk.1.2) (.bool t176)) (fun _ hk => hk.1.2) (.bool t177)) (fun _ hk => hk.1.2) (.bool t178)) (fun _ hk => hk.1.2) (.slice Ao19 t179.length co19)) (fun _ hk => hk.1.2) (.string t182)) (fun _ hk => hk.1.2) (.int .u64 t183)) (fun _ hk => hk.2) (.bool t184)) (fun _ hk => hk.2) (.bool t185)) (fun _ hk => hk.2) (.bool t186)) (fun _ hk => hk.2) (.slice Ao26 t187.length co26)) (fun _ hk => hk.2) (.string t190)) (fun _ hk => hk.2) (.int .u64 t191)) (fun _ h_ => h_.1)) (fun _ h_ => h_.1)))); (case side2 => exact (Kd.V_reads' HO181.out).2.1); (case side3 => refine (Kd.V_reads' (e := 5) (base := w.heap.size) (ok := fun k_ => (k_ ≠ gb174 ∧ k_ ≠ gb175)) (n := t187.length) (c := co26) ?_).2.2; exact (by (with_reducible repeat (first | apply Kd.V_alloc | apply Kd.V_drewN | apply Kd.V_drew)); exact (Kd.V_mono (Kd.V_mono (Kd.V_far (p := ⟨gb175, 5, none⟩) (Kd.V_far (p := ⟨gb175, 4, none⟩) (Kd.V_far (p := ⟨gb175, 3, none⟩) (Kd.V_far (p := ⟨gb175, 2, none⟩) (Kd.V_far (p := ⟨gb175, 1, none⟩) (Kd.V_far (p := ⟨gb175, 0, none⟩) (Kd.V_far (p := ⟨gb174, 5, none⟩) (Kd.V_far (p := ⟨gb174, 4, none⟩) (Kd.V_far (p := ⟨gb174, 3, none⟩) (Kd.V_far (p := ⟨gb174, 2, none⟩) (Kd.V_far (p := ⟨gb174, 1, none⟩) (Kd.V_far (p := ⟨gb174, 0, none⟩) (Kd.V_mono (Kd.V_mono HO189.out (fun k_ hk => (⟨hk, hk.1⟩ : _ ∧ k_ ≠ gb174))) (fun k_ hk => (⟨hk, hk.1.2⟩ : _ ∧ k_ ≠ gb175))) (fun _ hk => hk.1.2) (.bool t176)) (fun _ hk => hk.1.2) (.bool t177)) (fun _ hk => hk.1.2) (.bool t178)) (fun _ hk => hk.1.2) (.slice Ao19 t179.length co19)) (fun _ hk => hk.1.2) (.string t182)) (fun _ hk => hk.1.2) (.int .u64 t183)) (fun _ hk => hk.2) (.bool t184)) (fun _ hk => hk.2) (.bool t185)) (fun _ hk => hk.2) (.bool t186)) (fun _ hk => hk.2) (.slice Ao26 t187.length co26)) (fun _ hk => hk.2) (.string t190)) (fun _ hk => hk.2) (.int .u64 t191)) (fun _ h_ => h_.1)) (fun _ h_ => h_.1)))); (case side4 => exact (Kd.V_reads' HO189.out).2.1); rintro e w' ⟨rfl, ⟨nd, rfl⟩⟩))
     go_ret
     exact ⟨by first | rfl | (simp [errV_none, errV_some] <;> rfl) | (simp [*, errV_none, errV_some] <;> rfl), by repeat (first | (with_reducible first | exact HB.out | apply below_alloc | apply pw_below_drewN | apply below_drew1 | refine below_set ?_ GE174.out | refine below_set ?_ GE175.out) | exact HB.out)⟩
   ·rw [if_neg c7] at H
    have c7b0 : (t178 == t186) = false := by simpa using c7
    (try (have c7b1 : decide (t178 = t186) = false := by simpa using c7))
    (try (have c7b2 : (t178 == t186) = false := by simpa using c7))
    (try (have c7b3 : ¬ (t178 = t186) := by simpa using c7))
    clear c7
    obtain rfl := Option.some.inj H
    try go_wp2
    go_ret
    exact ⟨by first | rfl | (simp [errV_none, errV_some] <;> rfl) | (simp [*, errV_none, errV_some] <;> rfl), by repeat (first | (with_reducible first | exact HB.out | apply below_alloc | apply pw_below_drewN | apply below_drew1 | refine below_set ?_ GE174.out | refine below_set ?_ GE175.out) | exact HB.out)⟩
  ·rw [if_neg c6] at H
   have c6b0 : (t177 == t185) = false := by simpa using c6
   (try (have c6b1 : decide (t177 = t185) = false := by simpa using c6))
   (try (have c6b2 : (t177 == t185) = false := by simpa using c6))
   (try (have c6b3 : ¬ (t177 = t185) := by simpa using c6))
   clear c6
   obtain rfl := Option.some.inj H
   try go_wp2
   go_ret
   exact ⟨by first | rfl | (simp [errV_none, errV_some] <;> rfl) | (simp [*, errV_none, errV_some] <;> rfl), by repeat (first | (with_reducible first | exact HB.out | apply below_alloc | apply pw_below_drewN | apply below_drew1 | refine below_set ?_ GE174.out | refine below_set ?_ GE175.out) | exact HB.out)⟩
 ·rw [if_neg c5] at H
  have c5b0 : (t176 == t184) = false := by simpa using c5
  (try (have c5b1 : decide (t176 = t184) = false := by simpa using c5))
  (try (have c5b2 : (t176 == t184) = false := by simpa using c5))
  (try (have c5b3 : ¬ (t176 = t184) := by simpa using c5))
  clear c5
  obtain rfl := Option.some.inj H
  try go_wp2
  go_ret
  exact ⟨by first | rfl | (simp [errV_none, errV_some] <;> rfl) | (simp [*, errV_none, errV_some] <;> rfl), by repeat (first | (with_reducible first | exact HB.out | apply below_alloc | apply pw_below_drewN | apply below_drew1 | refine below_set ?_ GE174.out | refine below_set ?_ GE175.out) | exact HB.out)⟩

end Go.Proofs.YtnhnlodmkbiiiaaDoor.PPbJoin
