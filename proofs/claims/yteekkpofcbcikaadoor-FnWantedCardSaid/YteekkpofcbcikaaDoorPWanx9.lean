/- Printed by a program of this session (it drives the print of the kit, with contracts proved by hand beside): the Go functions of one law as Lean functions, and that the Go code comes to what they say. -/
import Derived.Test.YteekkpofcbcikaaDoorPWanx0
import Derived.Test.YteekkpofcbcikaaDoorPWanx8
namespace Go.Proofs.YteekkpofcbcikaaDoor.PWan
open Go.RowKit Go.Proofs.YteekkpofcbcikaaDoorL Go.Proofs.YteekkpofcbcikaaDoorW.PrintWords Go.Proofs.YteekkpofcbcikaaDoorW.PrintLast Go.Proofs.YteekkpofcbcikaaDoorW.PrintMore
attribute [local go_sem] max2_int min2_int max_two min_two max_three min_three max_four min_four   -- for this text's walks alone
set_option linter.unusedVariables false
set_option linter.unusedSimpArgs false

/-! ### laws_wants: function 9 -/
def laws_wants.l0 : Nat → List (S31) → List (S73) → Int → Int → Option ((List (S31)))
  | 0, _, _, _, _ => none
  | k + 1, x3, x6, x7, x8 => if x8 < x7 then (if 0 ≤ x8 then (if x8 < (x6.length : Int) then ((laws_Step_entry.f ((rd_T73 x6 x8).f0) ((rd_T73 x6 x8).f1) ((rd_T73 x6 x8).f2) ((rd_T73 x6 x8).f3)).bind fun bt218 => (if x3.length < 3518437208883 then (laws_wants.l0 k (x3 ++ [(⟨wrap64 (Int.tmod ((rd_T73 x6 x8).f0) 4), (⟨bt218.1, bt218.2.1, bt218.2.2⟩ : S27)⟩ : S31)]) x6 x7 (wrap64 (x8 + 1))) else (none))) else (none)) else (none)) else (some x3)
def laws_wants.f (k : Nat) (l0 : List (S73)) : Option ((List (S31))) := laws_wants.l0 k ([] : List (S31)) l0 (l0.length : Int) 0
theorem laws_wants.mono_l : ∀ k, (∀ y0 y1 y2 y3, LeO (laws_wants.l0 k y0 y1 y2 y3) (laws_wants.l0 (k + 1) y0 y1 y2 y3))
  | 0 => fun _ _ _ _ r h => by simp [laws_wants.l0] at h
  | k + 1 => by
    have ih0 := laws_wants.mono_l k
    · intro y0 y1 y2 y3
      unfold laws_wants.l0
      repeat' first
      | (with_reducible exact ih0 _ _ _ _)
      | (with_reducible exact LeO.refl _)
      | (with_reducible exact LeO.none _)
      | (with_reducible refine LeO.ite ?_ ?_)
      | (with_reducible refine LeO.bind ?_ (fun _ => ?_))
      | exact ih0 _ _ _ _
      | exact LeO.none _
      | refine LeO.ite ?_ ?_
      | refine LeO.bind ?_ (fun _ => ?_)
theorem laws_wants.mono : ∀ a0 k, LeO (laws_wants.f k a0) (laws_wants.f (k + 1) a0) := by
  intro a0 k
  have ih0 := laws_wants.mono_l k
  unfold laws_wants.f
  repeat' first
      | (with_reducible exact ih0 _ _ _ _)
      | (with_reducible exact LeO.refl _)
      | (with_reducible exact LeO.none _)
      | (with_reducible refine LeO.ite ?_ ?_)
      | (with_reducible refine LeO.bind ?_ (fun _ => ?_))
      | exact ih0 _ _ _ _
      | exact LeO.none _
      | refine LeO.ite ?_ ?_
      | refine LeO.bind ?_ (fun _ => ?_)
def laws_wants.T5 : Bool × List (List Nat × List Nat) := (true, [([], []), ([], []), ([1], [1]), ([2], [2]), ([3], [3]), ([], []), ([5], [5]), ([4, 6], [4, 6]), ([7], [7]), ([0, 8, 6], [0, 8]), ([9, 9, 0, 1, 2, 3, 4, 5, 6, 7, 8, 9], [0, 9])])
def laws_wants.B5 : List Nat := [0, 0, 2, 6, 14, 0, 32, 126, 254, 511, 1023]
theorem laws_wants.tab5 : rtab .any (opsOf Tryd.f9 5) = laws_wants.T5 := by kernel_rfl
theorem laws_wants.bits5 : waitsOk laws_wants.T5.2 laws_wants.B5 = true := by kernel_rfl
set_option maxHeartbeats 8000000 in
set_option maxRecDepth 100000 in
theorem laws_wants.calls (k : Nat) (A0 : Option Addr) (c0 : Nat) (l0 : List (S73)) (r : List (S31)) (w : World) (hr0 : Kd.C k73 w A0 l0.length l0) (hc0 : l0.length ≤ c0) (h : laws_wants.f k l0 = some r) :
    Calls Tryd.prog 9 #[.slice A0 l0.length c0] w fun e w' => ∃ v0_ : Value, e = .returned (v0_) ∧ Kd.S k31 31 w' w.heap.size (fun _ => True) v0_ r ∧ Below w.heap.size w w' := by
  have hu73 := Tryd.underlying73
  have hu31 := Tryd.underlying31
  have HR0 := Aside0.mk hr0
  have HC0 := Aside0.mk hc0
  clear hr0 hc0
  have HB := Aside0.mk (Below.refl w.heap.size w)
  have H : (laws_wants.l0 k ([] : List (S31)) l0 (l0.length : Int) 0) = some r := h
  clear h
  have H' := Aside0.mk H
  clear H
  go_enter Tryd.func9, Tryd.ntmps9
  go_wp2
  go_loopg [3, 8] k (fun kq v3 v8 w' => ∃ (x3_1 : List (S31)) (x8_1 : Int), v8 = .int .i64 x8_1 ∧ Aside0 (laws_wants.l0 kq x3_1 l0 (l0.length : Int) x8_1 = some r) ∧ Aside0 (kq ≤ k) ∧ Aside0 (Kd.S k31 31 w' w.heap.size (fun _ => True) v3 x3_1) ∧ Aside0 (Below w.heap.size w w'))
  case atStart => exact ⟨(([] : List (S31))), (0), (by first | rfl | (simp; done) | (simp [*]; done)), H', ⟨Nat.le_refl _⟩, ⟨by first | exact Kd.S_nil _ _ _ _ _ | exact Kd.N_nil _ _ _ _ _ | exact Kd.V_nil _ _ _ _ _ | exact Kd.Q_nil _ _ _ _ _ | exact Kd.R_nil _ _ _ _ _⟩, ⟨by repeat (first | (with_reducible first | exact HB.out | apply below_alloc | apply pw_below_drewN | apply below_drew1) | exact HB.out)⟩⟩
  case round =>
    clear H'
    obtain ⟨x3_1, x8_1, rfl, HA, HK1, HO_3, HB⟩ := hrel
    cases gk with
    | zero => exact absurd HA.out (by simp [laws_wants.l0])
    | succ k1 =>
      have H := HA.out
      clear HA
      simp only [laws_wants.l0] at H
      by_cases c2 : x8_1 < (l0.length : Int)
      · rw [if_pos c2] at H
        have c2b0 : decide (x8_1 < (l0.length : Int)) = true := decide_eq_true c2
        clear c2
        by_cases c3 : 0 ≤ x8_1
        · rw [if_pos c3] at H
          have c3b0 : decide (0 ≤ x8_1) = true := decide_eq_true c3
          clear c3
          by_cases c4 : x8_1 < (l0.length : Int)
          · rw [if_pos c4] at H
            have c4b0 : decide (x8_1 < (l0.length : Int)) = true := decide_eq_true c4
            clear c4
            replace H := Option.bind_eq_some_iff.mp H
            obtain ⟨⟨t218, t221, t222⟩, A50, H⟩ := H
            replace H : (if x3_1.length < 3518437208883 then (laws_wants.l0 k1 (x3_1 ++ [(⟨wrap64 (Int.tmod ((rd_T73 l0 x8_1).f0) 4), (⟨t218, t221, t222⟩ : S27)⟩ : S31)]) l0 (l0.length : Int) (wrap64 (x8_1 + 1))) else (none)) = some r := H
            have A5 := Aside0.mk A50
            clear A50
            by_cases c6 : x3_1.length < 3518437208883
            · rw [if_pos c6] at H
              have LMc6 := Aside0.mk c6
              clear c6
              obtain ⟨y223, hy223⟩ : ∃ y_ : List (S31), y_ = (x3_1 ++ [(⟨wrap64 (Int.tmod ((rd_T73 l0 x8_1).f0) 4), (⟨t218, t221, t222⟩ : S27)⟩ : S31)]) := ⟨_, rfl⟩
              replace H : (laws_wants.l0 k1 y223 l0 (l0.length : Int) (wrap64 (x8_1 + 1))) = some r := by first | (rw [hy223]; with_reducible exact H) | (have H2_ := (Option.bind_some _ _).symm.trans H; rw [hy223]; with_reducible exact H2_) | (have H2_ := (Option.bind_some _ _).symm.trans H; with_reducible exact H2_) | with_reducible exact H | (rw [hy223]; exact H) | exact H
              have Ny223 := Aside0.mk hy223
              clear hy223
              have H' := Aside0.mk H
              clear H
              have p216 : 0 ≤ (x8_1 : Int) := of_decide_eq_true (by first | (with_reducible assumption) | assumption)
              have q216 : x8_1 < (l0.length : Int) := of_decide_eq_true (by first | (with_reducible assumption) | assumption)
              obtain ⟨ad216, e216, hx216_0, hx216_1, hx216_2, hx216_3⟩ := at_T73 HR0.out x8_1 p216 q216
              cases e216
              replace hx216_0 := (HB.out.cell (World.block_lt_of_cell? w _ hx216_0)).trans hx216_0
              replace hx216_1 := (HB.out.cell (World.block_lt_of_cell? w _ hx216_1)).trans hx216_1
              replace hx216_2 := (HB.out.cell (World.block_lt_of_cell? w _ hx216_2)).trans hx216_2
              replace hx216_3 := (HB.out.cell (World.block_lt_of_cell? w _ hx216_3)).trans hx216_3
              replace p216 := eq_true p216
              replace q216 := eq_true q216
              try go_wp2_with (first | ((with_reducible refine gate_dst (N := 5) rfl ?_); refine box_event ?hg (N := 5) ?hd (cs := #[.int .u8 0, .int .u8 0, .int .i32 0, .bool false]) (t := 73) ?hr ?_; (case hd => rfl); (case hg => rfl); (case hr => first | (go_simp; done) | (go_simp; rfl)); intro gb217 hg w7 hbox hb; have n0_ := Aside0.mk (Kd.S_below (by (with_reducible repeat (first | apply Kd.S_alloc | apply Kd.S_drewN | apply Kd.S_drew)); exact HO_3.out) hb); have n1_ := Aside0.mk (below_step (by repeat (first | (with_reducible first | exact HB.out | apply below_alloc | apply pw_below_drewN | apply below_drew1) | exact HB.out)) hb); have n2_ := Aside0.mk (hbox); have n3_ := Aside0.mk ((by rw [hg]; exact (below_size (by repeat (first | (with_reducible first | exact HB.out | apply below_alloc | apply pw_below_drewN | apply below_drew1) | exact HB.out))) : w.heap.size ≤ gb217)); have n4_ := Aside0.mk ((by rw [hg]; exact (below_size (by repeat (first | (with_reducible first | exact HB.out | apply below_alloc | apply pw_below_drewN | apply below_drew1) | exact HB.out))) : w.heap.size ≤ gb217)); clear HO_3; clear HB; have HO_3 := n0_; have HB := n1_; have BK217 := n2_; have GW217 := n3_; have GE217 := n4_; clear n0_ n1_ n2_ n3_ n4_; clear hb hbox hg; have hcz8_0 : w7.cell? ⟨gb217, 0, none⟩ = some (.int .u8 0) := (blk_cell BK217.out 0).trans rfl; have hcz8_1 : w7.cell? ⟨gb217, 1, none⟩ = some (.int .u8 0) := (blk_cell BK217.out 1).trans rfl; have hcz8_2 : w7.cell? ⟨gb217, 2, none⟩ = some (.int .i32 0) := (blk_cell BK217.out 2).trans rfl; have hcz8_3 : w7.cell? ⟨gb217, 3, none⟩ = some (.bool false) := (blk_cell BK217.out 3).trans rfl; have hfz8_0 := blk_frozen BK217.out 0; have hfz8_1 := blk_frozen BK217.out 1; have hfz8_2 := blk_frozen BK217.out 2; have hfz8_3 := blk_frozen BK217.out 3))
              have n0_ : Aside0 (Kd.S k31 31 ((((w7.setCell ⟨gb217, 0, none⟩ (.int .u8 ((rd_T73 l0 x8_1).f0))).setCell ⟨gb217, 1, none⟩ (.int .u8 ((rd_T73 l0 x8_1).f1))).setCell ⟨gb217, 2, none⟩ (.int .i32 ((rd_T73 l0 x8_1).f2))).setCell ⟨gb217, 3, none⟩ (.bool ((rd_T73 l0 x8_1).f3))) w.heap.size (fun _ => True) u3 x3_1) := ⟨by (with_reducible repeat (first | apply Kd.S_alloc | apply Kd.S_drewN | apply Kd.S_drew)); exact Kd.S_mono (Kd.S_far (p := ⟨gb217, 3, none⟩) (Kd.S_far (p := ⟨gb217, 2, none⟩) (Kd.S_far (p := ⟨gb217, 1, none⟩) (Kd.S_far (p := ⟨gb217, 0, none⟩) (Kd.S_types HO_3.out BK217.out (by decide)) (fun _ hk => hk.2) (.int .u8 ((rd_T73 l0 x8_1).f0))) (fun _ hk => hk.2) (.int .u8 ((rd_T73 l0 x8_1).f1))) (fun _ hk => hk.2) (.int .i32 ((rd_T73 l0 x8_1).f2))) (fun _ hk => hk.2) (.bool ((rd_T73 l0 x8_1).f3))) (fun _ hk => trivial)⟩
              have n1_ : Aside0 (((((w7.setCell ⟨gb217, 0, none⟩ (.int .u8 ((rd_T73 l0 x8_1).f0))).setCell ⟨gb217, 1, none⟩ (.int .u8 ((rd_T73 l0 x8_1).f1))).setCell ⟨gb217, 2, none⟩ (.int .i32 ((rd_T73 l0 x8_1).f2))).setCell ⟨gb217, 3, none⟩ (.bool ((rd_T73 l0 x8_1).f3))).heap[gb217]? = some (.cells #[.int .u8 ((rd_T73 l0 x8_1).f0), .int .u8 ((rd_T73 l0 x8_1).f1), .int .i32 ((rd_T73 l0 x8_1).f2), .bool ((rd_T73 l0 x8_1).f3)] 73 (0, 0))) := ⟨by (with_reducible repeat (first | refine blk_drewN ?_ _ | refine blk_drew ?_ | refine blk_alloc ?_ _)); refine blk_put (cs := #[.int .u8 ((rd_T73 l0 x8_1).f0), .int .u8 ((rd_T73 l0 x8_1).f1), .int .i32 ((rd_T73 l0 x8_1).f2), .bool false]) ?_ 3 _ rfl; (with_reducible repeat (first | refine blk_drewN ?_ _ | refine blk_drew ?_ | refine blk_alloc ?_ _)); refine blk_put (cs := #[.int .u8 ((rd_T73 l0 x8_1).f0), .int .u8 ((rd_T73 l0 x8_1).f1), .int .i32 0, .bool false]) ?_ 2 _ rfl; (with_reducible repeat (first | refine blk_drewN ?_ _ | refine blk_drew ?_ | refine blk_alloc ?_ _)); refine blk_put (cs := #[.int .u8 ((rd_T73 l0 x8_1).f0), .int .u8 0, .int .i32 0, .bool false]) ?_ 1 _ rfl; (with_reducible repeat (first | refine blk_drewN ?_ _ | refine blk_drew ?_ | refine blk_alloc ?_ _)); refine blk_put (cs := #[.int .u8 0, .int .u8 0, .int .i32 0, .bool false]) ?_ 0 _ rfl; (with_reducible repeat (first | refine blk_drewN ?_ _ | refine blk_drew ?_ | refine blk_alloc ?_ _)); exact BK217.out⟩
              have n2_ : Aside0 (Below w.heap.size w ((((w7.setCell ⟨gb217, 0, none⟩ (.int .u8 ((rd_T73 l0 x8_1).f0))).setCell ⟨gb217, 1, none⟩ (.int .u8 ((rd_T73 l0 x8_1).f1))).setCell ⟨gb217, 2, none⟩ (.int .i32 ((rd_T73 l0 x8_1).f2))).setCell ⟨gb217, 3, none⟩ (.bool ((rd_T73 l0 x8_1).f3)))) := ⟨by repeat (first | (with_reducible first | exact HB.out | apply below_alloc | apply pw_below_drewN | apply below_drew1 | refine below_set ?_ GE217.out) | exact HB.out)⟩
              (try clear HO_3)
              (try clear BK217)
              (try clear HB)
              generalize ((((w7.setCell ⟨gb217, 0, none⟩ (.int .u8 ((rd_T73 l0 x8_1).f0))).setCell ⟨gb217, 1, none⟩ (.int .u8 ((rd_T73 l0 x8_1).f1))).setCell ⟨gb217, 2, none⟩ (.int .i32 ((rd_T73 l0 x8_1).f2))).setCell ⟨gb217, 3, none⟩ (.bool ((rd_T73 l0 x8_1).f3))) = w9 at n0_ n1_ n2_ ⊢
              have HO_3 := n0_
              have BK217 := n1_
              have HB := n2_
              clear n0_ n1_ n2_
              have n0_ := Aside0.mk (Kd.S_drew HO_3.out)
              have n1_ := Aside0.mk (blk_drew BK217.out)
              have n2_ := Aside0.mk (below_drew1 HB.out)
              clear HO_3
              clear BK217
              clear HB
              have HO_3 := n0_
              have BK217 := n1_
              have HB := n2_
              clear n0_ n1_ n2_
              refine start_ (n := 11) (S := fun w' => w'.cell? ⟨gb217, 0, none⟩ = some (.int .u8 ((rd_T73 l0 x8_1).f0)) ∧ w'.cell? ⟨gb217, 1, none⟩ = some (.int .u8 ((rd_T73 l0 x8_1).f1)) ∧ w'.cell? ⟨gb217, 2, none⟩ = some (.int .i32 ((rd_T73 l0 x8_1).f2)) ∧ w'.cell? ⟨gb217, 3, none⟩ = some (.bool ((rd_T73 l0 x8_1).f3))) (ds := []) #[false, false, false, false, false, false, false, false, false, false, false] (by kernel_rfl) rfl rfl ⟨(blk_cell BK217.out 0).trans rfl, (blk_cell BK217.out 1).trans rfl, (blk_cell BK217.out 2).trans rfl, (blk_cell BK217.out 3).trans rfl⟩ (fun hHeld => ?_); refine with_tabW laws_wants.tab5 laws_wants.bits5 (fun HT_ HW_ => ?_)
              generalize w9.drew = w10 at HO_3 BK217 HB hHeld ⊢
              refine pure_ (i := 0) (N := some 12) (v := ?_) (a' := ?_) #[true, false, false, false, false, false, false, false, false, false, false] rfl rfl (any_of HT_.out (by kernel_rfl)) (fun _ _ _ h => h) (Or.inl ⟨by rfl, ?_⟩) ?_ ?_
              rotate_left
              · intro w'
                go_simp
                with_reducible rfl
              rotate_left
              · simp only [Act.put, List.setIfInBounds_toArray, List.set_cons_zero, List.set_cons_succ, i64_w, i32_w]
                rfl
              refine pure_ (i := 1) (N := some 13) (v := ?_) (a' := ?_) #[true, true, false, false, false, false, false, false, false, false, false] rfl rfl (any_of HT_.out (by kernel_rfl)) (fun _ _ _ h => h) (Or.inl ⟨by rfl, ?_⟩) ?_ ?_
              rotate_left
              · intro w'
                go_simp
                with_reducible rfl
              rotate_left
              · simp only [Act.put, List.setIfInBounds_toArray, List.set_cons_zero, List.set_cons_succ, i64_w, i32_w]
                rfl
              refine take_ (i := 2) (N := some 14) (v := ?_) (a' := ?_) #[true, true, true, false, false, false, false, false, false, false, false] rfl rfl (take_ofW HT_.out HW_.out (by kernel_rfl)) (fun _ _ _ h => h) (Or.inl ⟨by rfl, ?_⟩) hHeld ?_ ?_
              rotate_left
              · rintro w' ⟨s0, s1, s2, s3⟩
                go_simp
                with_reducible rfl
              rotate_left
              · simp only [Act.put, List.setIfInBounds_toArray, List.set_cons_zero, List.set_cons_succ, i64_w, i32_w]
                rfl
              refine pure_ (i := 3) (N := some 15) (v := ?_) (a' := ?_) #[true, true, true, true, false, false, false, false, false, false, false] rfl rfl (any_of HT_.out (by kernel_rfl)) (fun _ _ _ h => h) (Or.inl ⟨by rfl, ?_⟩) ?_ ?_
              rotate_left
              · intro w'
                go_simp
                with_reducible rfl
              rotate_left
              · simp only [Act.put, List.setIfInBounds_toArray, List.set_cons_zero, List.set_cons_succ, i64_w, i32_w]
                rfl
              refine pure_ (i := 4) (N := some 16) (v := ?_) (a' := ?_) #[true, true, true, true, true, false, false, false, false, false, false] rfl rfl (any_of HT_.out (by kernel_rfl)) (fun _ _ _ h => h) (Or.inl ⟨by rfl, ?_⟩) ?_ ?_
              rotate_left
              · intro w'
                go_simp
                with_reducible rfl
              rotate_left
              · simp only [Act.put, List.setIfInBounds_toArray, List.set_cons_zero, List.set_cons_succ, i64_w, i32_w]
                rfl
              refine take_ (i := 5) (N := some 17) (v := ?_) (a' := ?_) #[true, true, true, true, true, true, false, false, false, false, false] rfl rfl (take_ofW HT_.out HW_.out (by kernel_rfl)) (fun _ _ _ h => h) (Or.inl ⟨by rfl, ?_⟩) hHeld ?_ ?_
              rotate_left
              · rintro w' ⟨s0, s1, s2, s3⟩
                go_simp
                with_reducible rfl
              rotate_left
              · simp only [Act.put, List.setIfInBounds_toArray, List.set_cons_zero, List.set_cons_succ, i64_w, i32_w]
                rfl
              refine one_ (i := 6) (N := some 18) #[true, true, true, true, true, true, true, false, false, false, false] rfl rfl (one_of HT_.out (by kernel_rfl)) (by decide) (fun K hK => ?_)
              refine goes_ Tryd.func31 (by kernel_rfl) rfl #[.agg #[.int .u8 ((rd_T73 l0 x8_1).f0), .int .u8 ((rd_T73 l0 x8_1).f1), .int .i32 ((rd_T73 l0 x8_1).f2), .bool ((rd_T73 l0 x8_1).f3)]] (by rfl) rfl rfl (by (try simp only [List.map_toArray, List.map_cons, List.map_nil]); first | done | rfl | (simp only [List.length_drop, List.length_take]; rfl)) ?_
              with_reducible refine (laws_Step_entry.calls ((rd_T73 l0 x8_1).f0) ((rd_T73 l0 x8_1).f1) ((rd_T73 l0 x8_1).f2) ((rd_T73 l0 x8_1).f3) t218 t221 t222 _ A5.out).mono ?_
              rintro e w11 ⟨v219, rfl, ho0, hb⟩
              refine ⟨_, rfl, ?_⟩
              have n0_ := Aside0.mk (Kd.S_elder' (by (with_reducible repeat (first | apply Kd.S_alloc | apply Kd.S_drewN | apply Kd.S_drew)); exact HO_3.out) (Kd.R_base ho0) hb)
              have n1_ := Aside0.mk (Kd.R_lower ho0 (below_size (by repeat (first | (with_reducible first | exact HB.out | apply below_alloc | apply pw_below_drewN | apply below_drew1 | refine below_set ?_ GE217.out) | exact HB.out))))
              have n2_ := Aside0.mk (blk_below (g := gb217) (o := .cells #[.int .u8 ((rd_T73 l0 x8_1).f0), .int .u8 ((rd_T73 l0 x8_1).f1), .int .i32 ((rd_T73 l0 x8_1).f2), .bool ((rd_T73 l0 x8_1).f3)] 73 (0, 0)) (by (with_reducible repeat (first | refine blk_drewN ?_ _ | refine blk_drew ?_ | refine blk_alloc ?_ _)); exact BK217.out) hb)
              have n3_ := Aside0.mk (below_step (by repeat (first | (with_reducible first | exact HB.out | apply below_alloc | apply pw_below_drewN | apply below_drew1 | refine below_set ?_ GE217.out) | exact HB.out)) hb)
              clear HO_3
              clear BK217
              clear HB
              have HO_3 := n0_
              have HO220 := n1_
              have BK217 := n2_
              have HB := n3_
              clear n0_ n1_ n2_ n3_
              (try clear hb)
              (try clear hb2)
              (try clear hk)
              (try clear hi)
              (try clear ho0)
              obtain ⟨Ao12, co12, eo12⟩ := Kd.R_slice HO220.out
              (first | subst eo12 | (injection eo12 with f1_ f2_ f3_; have f4_ := f1_.symm; have f5_ := f3_.symm; clear f1_ f2_ f3_; subst f4_; subst f5_))
              refine hK.out _ _ ⟨(blk_cell BK217.out 0).trans rfl, (blk_cell BK217.out 1).trans rfl, (blk_cell BK217.out 2).trans rfl, (blk_cell BK217.out 3).trans rfl⟩ (fun hHeld => ?_)
              clear hK K
              refine norm_ (a' := ?_) ?_ ?_
              rotate_left
              · show Act.put _ (some 18) _ = _
                simp only [Act.put, List.setIfInBounds_toArray, List.set_cons_zero, List.set_cons_succ, i64_w, i32_w]
                rfl
              refine pure_ (i := 7) (N := some 19) (v := ?_) (a' := ?_) #[true, true, true, true, true, true, true, true, false, false, false] rfl rfl (any_of HT_.out (by kernel_rfl)) (fun _ _ _ h => h) (Or.inl ⟨by rfl, ?_⟩) ?_ ?_
              rotate_left
              · intro w'
                go_simp
                with_reducible rfl
              rotate_left
              · simp only [Act.put, List.setIfInBounds_toArray, List.set_cons_zero, List.set_cons_succ, i64_w, i32_w]
                rfl
              refine one_ (i := 8) (N := some 20) #[true, true, true, true, true, true, true, true, true, false, false] rfl rfl (one_of HT_.out (by kernel_rfl)) (by decide) (fun K hK => ?_)
              refine value_ (w1 := ?_) (v := ?_) (by rfl) rfl ?_ ?_
              rotate_left 2
              · go_simp
                constructor
                · rfl
                · rfl
              refine hK.out _ _ ⟨(blk_cell (blk_alloc BK217.out _) 0).trans rfl, (blk_cell (blk_alloc BK217.out _) 1).trans rfl, (blk_cell (blk_alloc BK217.out _) 2).trans rfl, (blk_cell (blk_alloc BK217.out _) 3).trans rfl⟩ (fun hHeld => ?_)
              clear hK K
              refine norm_ (a' := ?_) ?_ ?_
              rotate_left
              · show Act.put _ (some 20) _ = _
                simp only [Act.put, List.setIfInBounds_toArray, List.set_cons_zero, List.set_cons_succ, i64_w, i32_w]
                rfl
              refine one_ (i := 9) (N := some 21) #[true, true, true, true, true, true, true, true, true, true, false] rfl rfl (one_of HT_.out (by kernel_rfl)) (by decide) (fun K hK => ?_)
              refine Kd.S_append_step k31 (w0 := w) w.heap.size (by rfl) (.tmp 12) (.tmp 20) 28 31 (.agg #[(.int .i64 0), (.slice none 0 0), (.int .i32 0), (.bool false)]) 40 rfl Tryd.underlying28 info31 rfl (by decide) (by omega) u3 x3_1 (⟨wrap64 (Int.tmod ((rd_T73 l0 x8_1).f0) 4), (⟨t218, t221, t222⟩ : S27)⟩ : S31) [.int .i64 (wrap64 (Int.tmod ((rd_T73 l0 x8_1).f0) 4)), .slice Ao12 t218.length co12, .int .i32 t221, .bool t222] (fun _ => True) (fun k_ => some k_ = (.slice Ao12 t218.length co12 : Value).ownBlock) rfl rfl ?aP (fun k_ hk_ => ((Kd.R_mono (ok' := fun k_ => ((fun _ => True)) k_ ∧ some k_ ≠ (u3 : Value).ownBlock) (Kd.R_apart' (HO220.out) (Kd.S_typed HO_3.out) (by decide)) (fun k_ hk => ⟨trivial, hk.2⟩))).1 k_ hk_.symm) ?aF ?aO ?aB ?aS ?aL ?_
              (case aP => exact k31_mkM _ _ _ (⟨wrap64 (Int.tmod ((rd_T73 l0 x8_1).f0) 4), (⟨t218, t221, t222⟩ : S27)⟩ : S31) (Kd.R_mono (Kd.R_tight rfl (Kd.R_mono (ok' := fun k_ => ((fun _ => True)) k_ ∧ some k_ ≠ (u3 : Value).ownBlock) (Kd.R_apart' (HO220.out) (Kd.S_typed HO_3.out) (by decide)) (fun k_ hk => ⟨trivial, hk.2⟩))) (fun _ h_ => h_)))
              (case aB => exact (by repeat (first | (with_reducible first | exact HB.out | apply below_alloc | apply pw_below_drewN | apply below_drew1 | refine below_set ?_ GE217.out) | exact HB.out)))
              (case aF => exact (fun _ _ => trivial))
              (case aO => exact (by (with_reducible repeat (first | apply Kd.S_alloc | apply Kd.S_drewN | apply Kd.S_drew)); exact Kd.S_mono HO_3.out (fun k_ hk => ⟨trivial, fun e_ => hk.2 e_⟩)))
              (case aS => exact (below_size (by repeat (first | (with_reducible first | exact HB.out | apply below_alloc | apply pw_below_drewN | apply below_drew1 | refine below_set ?_ GE217.out) | exact HB.out))))
              (case aL => have := LMc6.out; omega)
              intro v224 w13 ho hb hg hat
              rw [← Ny223.out] at ho
              have n0_ := Aside0.mk (blk_grown (g := gb217) (o := .cells #[.int .u8 ((rd_T73 l0 x8_1).f0), .int .u8 ((rd_T73 l0 x8_1).f1), .int .i32 ((rd_T73 l0 x8_1).f2), .bool ((rd_T73 l0 x8_1).f3)] 73 (0, 0)) (by (with_reducible repeat (first | refine blk_drewN ?_ _ | refine blk_drew ?_ | refine blk_alloc ?_ _)); exact BK217.out) hg (Kd.S_ne HO_3.out BK217.out (by decide)))
              have n1_ := Aside0.mk (hb)
              have n2_ := Aside0.mk (ho)
              clear BK217
              clear HB
              clear HO_3
              clear HO220
              have BK217 := n0_
              have HB := n1_
              have HO225 := n2_
              clear n0_ n1_ n2_
              clear ho hb hg hat
              refine hK.out _ _ ⟨(blk_cell BK217.out 0).trans rfl, (blk_cell BK217.out 1).trans rfl, (blk_cell BK217.out 2).trans rfl, (blk_cell BK217.out 3).trans rfl⟩ (fun hHeld => ?_)
              clear hK K
              refine norm_ (a' := ?_) ?_ ?_
              rotate_left
              · show Act.put _ (some 21) _ = _
                simp only [Act.put, List.setIfInBounds_toArray, List.set_cons_zero, List.set_cons_succ, i64_w, i32_w]
                rfl
              refine pure_ (i := 10) (N := some 3) (v := ?_) (a' := ?_) #[true, true, true, true, true, true, true, true, true, true, true] rfl rfl (any_of HT_.out (by kernel_rfl)) (fun _ _ _ h => h) (Or.inl ⟨by rfl, ?_⟩) ?_ ?_
              rotate_left
              · intro w'
                go_simp
                with_reducible rfl
              rotate_left
              · simp only [Act.put, List.setIfInBounds_toArray, List.set_cons_zero, List.set_cons_succ, i64_w, i32_w]
                rfl
              refine done_ (done_of HT_.out (by kernel_rfl)) ?_
              try go_wp2
              go_roundg k1
              case measure => have := HK1.out; omega
              case rel => exact ⟨(y223), (wrap64 (x8_1 + 1)), (by first | rfl | (simp; done) | (simp [*]; done)), H', ⟨by have := HK1.out; omega⟩, ⟨by (with_reducible repeat (first | apply Kd.S_alloc | apply Kd.S_drewN | apply Kd.S_drew)); exact HO225.out⟩, ⟨by repeat (first | (with_reducible first | exact HB.out | apply below_alloc | apply pw_below_drewN | apply below_drew1 | refine below_set ?_ GE217.out) | exact HB.out)⟩⟩
            · rw [if_neg c6] at H
              exact absurd H (by simp)
          · rw [if_neg c4] at H
            exact absurd H (by simp)
        · rw [if_neg c3] at H
          exact absurd H (by simp)
      · rw [if_neg c2] at H
        have c2b0 : decide (x8_1 < (l0.length : Int)) = false := decide_eq_false c2
        clear c2
        obtain rfl := Option.some.inj H
        go_wp2
        go_ret
        exact ⟨_, by first | rfl | (simp [errV_none, errV_some] <;> rfl) | (simp [*, errV_none, errV_some] <;> rfl), by (with_reducible repeat (first | apply Kd.S_alloc | apply Kd.S_drewN | apply Kd.S_drew)); exact HO_3.out, by repeat (first | (with_reducible first | exact HB.out | apply below_alloc | apply pw_below_drewN | apply below_drew1) | exact HB.out)⟩

-- NOT PRINTED: function 3 (laws_FnWantedAgain)

end Go.Proofs.YteekkpofcbcikaaDoor.PWan
