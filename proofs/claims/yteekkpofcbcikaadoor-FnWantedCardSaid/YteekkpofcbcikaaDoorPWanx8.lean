/- Printed by a program of this session (it drives the print of the kit, with contracts proved by hand beside): the Go functions of one law as Lean functions, and that the Go code comes to what they say. -/
import Derived.Test.YteekkpofcbcikaaDoorPWanx0
import Derived.Test.YteekkpofcbcikaaDoorPWanx1
namespace Go.Proofs.YteekkpofcbcikaaDoor.PWan
open Go.RowKit Go.Proofs.YteekkpofcbcikaaDoorL Go.Proofs.YteekkpofcbcikaaDoorW.PrintWords Go.Proofs.YteekkpofcbcikaaDoorW.PrintLast Go.Proofs.YteekkpofcbcikaaDoorW.PrintMore
attribute [local go_sem] max2_int min2_int max_two min_two max_three min_three max_four min_four   -- for this text's walks alone
set_option linter.unusedVariables false
set_option linter.unusedSimpArgs false

/-! ### laws_Step_entry: function 31 -/
def laws_Step_entry.f (a0_0 : Int) (a0_1 : Int) (a0_2 : Int) (a0_3 : Bool) : Option (List Int × Int × Bool) := (laws_identifier.f a0_1).bind fun t213 => (some (t213, a0_2, a0_3))
def laws_Step_entry.T1 : Bool × List (List Nat × List Nat) := (true, [([], []), ([0], [0]), ([1], [1]), ([], []), ([3], [3]), ([], []), ([5], [5]), ([2, 4, 6], [2, 4, 6]), ([7, 2, 0, 1, 2, 3, 4, 5, 6, 7], [7])])
def laws_Step_entry.B1 : List Nat := [0, 1, 3, 0, 8, 0, 32, 127, 255]
theorem laws_Step_entry.tab1 : rtab .any (opsOf Tryd.f31 1) = laws_Step_entry.T1 := by kernel_rfl
theorem laws_Step_entry.bits1 : waitsOk laws_Step_entry.T1.2 laws_Step_entry.B1 = true := by kernel_rfl
set_option maxHeartbeats 8000000 in
set_option maxRecDepth 100000 in
theorem laws_Step_entry.calls (a0_0 : Int) (a0_1 : Int) (a0_2 : Int) (a0_3 : Bool) (r1 : List Int) (r2 : Int) (r3 : Bool) (w : World) (h : laws_Step_entry.f a0_0 a0_1 a0_2 a0_3 = some (r1, r2, r3)) :
    Calls Tryd.prog 31 #[.agg #[.int .u8 a0_0, .int .u8 a0_1, .int .i32 a0_2, .bool a0_3]] w fun e w' => ∃ v0_ : Value, e = .returned (.agg #[v0_, .int .i32 r2, .bool r3]) ∧ Kd.R (Kd.int .u8) 5 w' w.heap.size (fun _ => True) v0_ r1 ∧ Below w.heap.size w w' := by
  have hu73 := Tryd.underlying73
  have hu27 := Tryd.underlying27
  have HB := Aside0.mk (Below.refl w.heap.size w)
  have H : ((laws_identifier.f a0_1).bind fun t213 => (some (t213, a0_2, a0_3))) = some (r1, r2, r3) := h
  clear h
  replace H := Option.bind_eq_some_iff.mp H
  obtain ⟨t213, A20, H⟩ := H
  replace H : (some (t213, a0_2, a0_3)) = some (r1, r2, r3) := H
  have A2 := Aside0.mk A20
  clear A20
  simp only [Option.some.injEq, Prod.mk.injEq] at H
  obtain ⟨rfl, rfl, rfl⟩ := H
  go_enter Tryd.func31, Tryd.ntmps31
  try go_wp2_with (first | ((with_reducible refine gate_dst (N := 1) rfl ?_); refine box_event ?hg (N := 1) ?hd (cs := #[.int .u8 a0_0, .int .u8 a0_1, .int .i32 a0_2, .bool a0_3]) (t := 73) ?hr ?_; (case hd => rfl); (case hg => rfl); (case hr => first | (go_simp; done) | (go_simp; rfl)); intro gb211 hg w3 hbox hb; have n0_ := Aside0.mk (below_step (by repeat (first | (with_reducible first | exact HB.out | apply below_alloc | apply pw_below_drewN | apply below_drew1) | exact HB.out)) hb); have n1_ := Aside0.mk (hbox); have n2_ := Aside0.mk ((by rw [hg]; exact (below_size (by repeat (first | (with_reducible first | exact HB.out | apply below_alloc | apply pw_below_drewN | apply below_drew1) | exact HB.out))) : w.heap.size ≤ gb211)); have n3_ := Aside0.mk ((by rw [hg]; exact (below_size (by repeat (first | (with_reducible first | exact HB.out | apply below_alloc | apply pw_below_drewN | apply below_drew1) | exact HB.out))) : w.heap.size ≤ gb211)); clear HB; have HB := n0_; have BK211 := n1_; have GW211 := n2_; have GE211 := n3_; clear n0_ n1_ n2_ n3_; clear hb hbox hg) | ((with_reducible refine gate_dst (N := 2) rfl ?_); refine box_event ?hg (N := 2) ?hd (cs := #[.slice none 0 0, .int .i32 0, .bool false]) (t := 27) ?hr ?_; (case hd => rfl); (case hg => rfl); (case hr => first | (go_simp; done) | (go_simp; rfl)); intro gb212 hg w4 hbox hb; have n0_ := Aside0.mk (blk_below (g := gb211) (o := .cells #[.int .u8 a0_0, .int .u8 a0_1, .int .i32 a0_2, .bool a0_3] 73 (0, 0)) (by (with_reducible repeat (first | refine blk_drewN ?_ _ | refine blk_drew ?_ | refine blk_alloc ?_ _)); exact BK211.out) hb); have n1_ := Aside0.mk (below_step (by repeat (first | (with_reducible first | exact HB.out | apply below_alloc | apply pw_below_drewN | apply below_drew1 | refine below_set ?_ GE211.out) | exact HB.out)) hb); have n2_ := Aside0.mk (hbox); have n3_ := Aside0.mk ((by rw [hg]; exact (below_size (by repeat (first | (with_reducible first | exact HB.out | apply below_alloc | apply pw_below_drewN | apply below_drew1 | refine below_set ?_ GE211.out) | exact HB.out))) : w.heap.size ≤ gb212)); have n4_ := Aside0.mk ((by rw [hg]; exact (below_size (by repeat (first | (with_reducible first | exact HB.out | apply below_alloc | apply pw_below_drewN | apply below_drew1 | refine below_set ?_ GE211.out) | exact HB.out))) : w.heap.size ≤ gb212)); have n5_ := Aside0.mk ((by rw [hg]; exact Nat.ne_of_lt (blk_lt (g := gb211) (o := .cells #[.int .u8 a0_0, .int .u8 a0_1, .int .i32 a0_2, .bool a0_3] 73 (0, 0)) (by (with_reducible repeat (first | refine blk_drewN ?_ _ | refine blk_drew ?_ | refine blk_alloc ?_ _)); exact BK211.out)) : gb211 ≠ gb212)); have n6_ := Aside0.mk ((by rw [hg]; exact Nat.ne_of_gt (blk_lt (g := gb211) (o := .cells #[.int .u8 a0_0, .int .u8 a0_1, .int .i32 a0_2, .bool a0_3] 73 (0, 0)) (by (with_reducible repeat (first | refine blk_drewN ?_ _ | refine blk_drew ?_ | refine blk_alloc ?_ _)); exact BK211.out)) : gb212 ≠ gb211)); clear BK211; clear HB; have BK211 := n0_; have HB := n1_; have BK212 := n2_; have GW212 := n3_; have GE212 := n4_; have NB211_212 := n5_; have NB212_211 := n6_; clear n0_ n1_ n2_ n3_ n4_ n5_ n6_; clear hb hbox hg))
  have n0_ := Aside0.mk (blk_drew BK211.out)
  have n1_ := Aside0.mk (blk_drew BK212.out)
  have n2_ := Aside0.mk (below_drew1 HB.out)
  clear BK211
  clear BK212
  clear HB
  have BK211 := n0_
  have BK212 := n1_
  have HB := n2_
  clear n0_ n1_ n2_
  refine start_ (n := 9) (S := fun w' => w'.cell? ⟨gb211, 0, none⟩ = some (.int .u8 a0_0) ∧ w'.cell? ⟨gb211, 1, none⟩ = some (.int .u8 a0_1) ∧ w'.cell? ⟨gb211, 2, none⟩ = some (.int .i32 a0_2) ∧ w'.cell? ⟨gb211, 3, none⟩ = some (.bool a0_3)) (ds := []) #[false, false, false, false, false, false, false, false, false] (by kernel_rfl) rfl rfl ⟨(blk_cell BK211.out 0).trans rfl, (blk_cell BK211.out 1).trans rfl, (blk_cell BK211.out 2).trans rfl, (blk_cell BK211.out 3).trans rfl⟩ (fun hHeld => ?_); refine with_tabW laws_Step_entry.tab1 laws_Step_entry.bits1 (fun HT_ HW_ => ?_)
  generalize w4.drew = w5 at BK211 BK212 HB hHeld ⊢
  refine pure_ (i := 0) (N := some 3) (v := ?_) (a' := ?_) #[true, false, false, false, false, false, false, false, false] rfl rfl (any_of HT_.out (by kernel_rfl)) (fun _ _ _ h => h) (Or.inl ⟨by rfl, ?_⟩) ?_ ?_
  rotate_left
  · intro w'
    go_simp
    with_reducible rfl
  rotate_left
  · simp only [Act.put, List.setIfInBounds_toArray, List.set_cons_zero, List.set_cons_succ, i64_w, i32_w]
    rfl
  refine pure_ (i := 3) (N := some 6) (v := ?_) (a' := ?_) #[true, false, false, true, false, false, false, false, false] rfl rfl (any_of HT_.out (by kernel_rfl)) (fun _ _ _ h => h) (Or.inl ⟨by rfl, ?_⟩) ?_ ?_
  rotate_left
  · intro w'
    go_simp
    with_reducible rfl
  rotate_left
  · simp only [Act.put, List.setIfInBounds_toArray, List.set_cons_zero, List.set_cons_succ, i64_w, i32_w]
    rfl
  refine pure_ (i := 5) (N := some 8) (v := ?_) (a' := ?_) #[true, false, false, true, false, true, false, false, false] rfl rfl (any_of HT_.out (by kernel_rfl)) (fun _ _ _ h => h) (Or.inl ⟨by rfl, ?_⟩) ?_ ?_
  rotate_left
  · intro w'
    go_simp
    with_reducible rfl
  rotate_left
  · simp only [Act.put, List.setIfInBounds_toArray, List.set_cons_zero, List.set_cons_succ, i64_w, i32_w]
    rfl
  refine take_ (i := 1) (N := some 4) (v := ?_) (a' := ?_) #[true, true, false, true, false, true, false, false, false] rfl rfl (take_ofW HT_.out HW_.out (by kernel_rfl)) (fun _ _ _ h => h) (Or.inl ⟨by rfl, ?_⟩) hHeld ?_ ?_
  rotate_left
  · rintro w' ⟨s0, s1, s2, s3⟩
    go_simp
    with_reducible rfl
  rotate_left
  · simp only [Act.put, List.setIfInBounds_toArray, List.set_cons_zero, List.set_cons_succ, i64_w, i32_w]
    rfl
  refine take_ (i := 4) (N := some 7) (v := ?_) (a' := ?_) #[true, true, false, true, true, true, false, false, false] rfl rfl (take_ofW HT_.out HW_.out (by kernel_rfl)) (fun _ _ _ h => h) (Or.inl ⟨by rfl, ?_⟩) hHeld ?_ ?_
  rotate_left
  · rintro w' ⟨s0, s1, s2, s3⟩
    go_simp
    with_reducible rfl
  rotate_left
  · simp only [Act.put, List.setIfInBounds_toArray, List.set_cons_zero, List.set_cons_succ, i64_w, i32_w]
    rfl
  refine take_ (i := 6) (N := some 9) (v := ?_) (a' := ?_) #[true, true, false, true, true, true, true, false, false] rfl rfl (take_ofW HT_.out HW_.out (by kernel_rfl)) (fun _ _ _ h => h) (Or.inl ⟨by rfl, ?_⟩) hHeld ?_ ?_
  rotate_left
  · rintro w' ⟨s0, s1, s2, s3⟩
    go_simp
    with_reducible rfl
  rotate_left
  · simp only [Act.put, List.setIfInBounds_toArray, List.set_cons_zero, List.set_cons_succ, i64_w, i32_w]
    rfl
  refine one_ (i := 2) (N := some 5) #[true, true, true, true, true, true, true, false, false] rfl rfl (one_of HT_.out (by kernel_rfl)) (by decide) (fun K hK => ?_)
  refine goes_ Tryd.func8 (by kernel_rfl) rfl #[.int .u8 a0_1] (by rfl) rfl rfl (by (try simp only [List.map_toArray, List.map_cons, List.map_nil]); first | done | rfl | (simp only [List.length_drop, List.length_take]; rfl)) ?_
  with_reducible refine (laws_identifier.calls a0_1 t213 _ A2.out).mono ?_
  rintro e w6 ⟨v214, rfl, ho0, hb⟩
  refine ⟨_, rfl, ?_⟩
  have n0_ := Aside0.mk (Kd.R_lower ho0 (below_size (by repeat (first | (with_reducible first | exact HB.out | apply below_alloc | apply pw_below_drewN | apply below_drew1 | refine below_set ?_ GE211.out | refine below_set ?_ GE212.out) | exact HB.out))))
  have n1_ := Aside0.mk (blk_below (g := gb211) (o := .cells #[.int .u8 a0_0, .int .u8 a0_1, .int .i32 a0_2, .bool a0_3] 73 (0, 0)) (by (with_reducible repeat (first | refine blk_drewN ?_ _ | refine blk_drew ?_ | refine blk_alloc ?_ _)); exact BK211.out) hb)
  have n2_ := Aside0.mk (blk_below (g := gb212) (o := .cells #[.slice none 0 0, .int .i32 0, .bool false] 27 (0, 0)) (by (with_reducible repeat (first | refine blk_drewN ?_ _ | refine blk_drew ?_ | refine blk_alloc ?_ _)); exact BK212.out) hb)
  have n3_ := Aside0.mk (below_step (by repeat (first | (with_reducible first | exact HB.out | apply below_alloc | apply pw_below_drewN | apply below_drew1 | refine below_set ?_ GE211.out | refine below_set ?_ GE212.out) | exact HB.out)) hb)
  clear BK211
  clear BK212
  clear HB
  have HO215 := n0_
  have BK211 := n1_
  have BK212 := n2_
  have HB := n3_
  clear n0_ n1_ n2_ n3_
  (try clear hb)
  (try clear hb2)
  (try clear hk)
  (try clear hi)
  (try clear ho0)
  obtain ⟨Ao7, co7, eo7⟩ := Kd.R_slice HO215.out
  (first | subst eo7 | (injection eo7 with f1_ f2_ f3_; have f4_ := f1_.symm; have f5_ := f3_.symm; clear f1_ f2_ f3_; subst f4_; subst f5_))
  refine hK.out _ _ ⟨(blk_cell BK211.out 0).trans rfl, (blk_cell BK211.out 1).trans rfl, (blk_cell BK211.out 2).trans rfl, (blk_cell BK211.out 3).trans rfl⟩ (fun hHeld => ?_)
  clear hK K
  refine norm_ (a' := ?_) ?_ ?_
  rotate_left
  · show Act.put _ (some 5) _ = _
    simp only [Act.put, List.setIfInBounds_toArray, List.set_cons_zero, List.set_cons_succ, i64_w, i32_w]
    rfl
  refine pure_ (i := 7) (N := some 10) (v := ?_) (a' := ?_) #[true, true, true, true, true, true, true, true, false] rfl rfl (any_of HT_.out (by kernel_rfl)) (fun _ _ _ h => h) (Or.inl ⟨by rfl, ?_⟩) ?_ ?_
  rotate_left
  · intro w'
    go_simp
    with_reducible rfl
  rotate_left
  · simp only [Act.put, List.setIfInBounds_toArray, List.set_cons_zero, List.set_cons_succ, i64_w, i32_w]
    rfl
  refine one_ (i := 8) (N := none) #[true, true, true, true, true, true, true, true, true] rfl rfl (one_of HT_.out (by kernel_rfl)) (by decide) (fun K hK => ?_)
  have hs8 : w6.cell? ⟨gb212, 0, none⟩ = some (.slice none 0 0) := (blk_cell BK212.out 0).trans rfl
  have hfs8 := blk_frozen BK212.out 0
  have hns8_0 := NB211_212.out
  have hms8_0 := NB212_211.out
  have hs9 : w6.cell? ⟨gb212, 1, none⟩ = some (.int .i32 0) := (blk_cell BK212.out 1).trans rfl
  have hfs9 := blk_frozen BK212.out 1
  have hns9_0 := NB211_212.out
  have hms9_0 := NB212_211.out
  have hs10 : w6.cell? ⟨gb212, 2, none⟩ = some (.bool false) := (blk_cell BK212.out 2).trans rfl
  have hfs10 := blk_frozen BK212.out 2
  have hns10_0 := NB211_212.out
  have hms10_0 := NB212_211.out
  refine skip_ (w1 := ?_) (by rfl) rfl ?_ ?_
  rotate_left
  · go_simp
    rfl
  refine hK.out _ _ ⟨((cell_far (p := ⟨gb212, _, none⟩) NB211_212.out _).trans (((cell_far (p := ⟨gb212, _, none⟩) NB211_212.out _).trans (((cell_far (p := ⟨gb212, _, none⟩) NB211_212.out _).trans (hHeld.1)))))), ((cell_far (p := ⟨gb212, _, none⟩) NB211_212.out _).trans (((cell_far (p := ⟨gb212, _, none⟩) NB211_212.out _).trans (((cell_far (p := ⟨gb212, _, none⟩) NB211_212.out _).trans (hHeld.2.1)))))), ((cell_far (p := ⟨gb212, _, none⟩) NB211_212.out _).trans (((cell_far (p := ⟨gb212, _, none⟩) NB211_212.out _).trans (((cell_far (p := ⟨gb212, _, none⟩) NB211_212.out _).trans (hHeld.2.2.1)))))), ((cell_far (p := ⟨gb212, _, none⟩) NB211_212.out _).trans (((cell_far (p := ⟨gb212, _, none⟩) NB211_212.out _).trans (((cell_far (p := ⟨gb212, _, none⟩) NB211_212.out _).trans (hHeld.2.2.2))))))⟩ (fun hHeld => ?_)
  clear hK K
  refine done_ (done_of HT_.out (by kernel_rfl)) ?_
  try go_wp2
  refine bodyPost_ret (results_cell_row rfl _ _ gb212 27 #[.slice Ao7 t213.length co7, .int .i32 a0_2, .bool a0_3] (0, 0) _ rfl (by (with_reducible repeat (first | refine blk_drewN ?_ _ | refine blk_drew ?_ | refine blk_alloc ?_ _)); refine blk_put (cs := #[.slice Ao7 t213.length co7, .int .i32 a0_2, .bool false]) ?_ 2 _ rfl; (with_reducible repeat (first | refine blk_drewN ?_ _ | refine blk_drew ?_ | refine blk_alloc ?_ _)); refine blk_put (cs := #[.slice Ao7 t213.length co7, .int .i32 0, .bool false]) ?_ 1 _ rfl; (with_reducible repeat (first | refine blk_drewN ?_ _ | refine blk_drew ?_ | refine blk_alloc ?_ _)); refine blk_put (cs := #[.slice none 0 0, .int .i32 0, .bool false]) ?_ 0 _ rfl; (with_reducible repeat (first | refine blk_drewN ?_ _ | refine blk_drew ?_ | refine blk_alloc ?_ _)); exact BK212.out) Tryd.underlying27 rfl (by kernel_rfl)) rfl ?_
  exact ⟨_, by first | rfl | (simp [errV_none, errV_some] <;> rfl) | (simp [*, errV_none, errV_some] <;> rfl), by (with_reducible repeat (first | apply Kd.R_alloc | apply Kd.R_drewN | apply Kd.R_drew)); exact Kd.R_mono (Kd.R_far (p := ⟨gb212, 2, none⟩) (Kd.R_far (p := ⟨gb212, 1, none⟩) (Kd.R_far (p := ⟨gb212, 0, none⟩) (Kd.R_types HO215.out BK212.out (by decide)) (fun _ hk => hk.2) (.slice Ao7 t213.length co7)) (fun _ hk => hk.2) (.int .i32 a0_2)) (fun _ hk => hk.2) (.bool a0_3)) (fun _ hk => trivial), by repeat (first | (with_reducible first | exact HB.out | apply below_alloc | apply pw_below_drewN | apply below_drew1 | refine below_set ?_ GE211.out | refine below_set ?_ GE212.out) | exact HB.out)⟩

end Go.Proofs.YteekkpofcbcikaaDoor.PWan
