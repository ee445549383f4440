/- Printed by a program of this session (it drives the print of the kit, with contracts proved by hand beside): the Go functions of one law as Lean functions, and that the Go code comes to what they say. -/
import Derived.Test.YteekkpofcbcikaaDoorPWanx0
import Derived.Test.YteekkpofcbcikaaDoorPWanx4
namespace Go.Proofs.YteekkpofcbcikaaDoor.PWan
open Go.RowKit Go.Proofs.YteekkpofcbcikaaDoorL Go.Proofs.YteekkpofcbcikaaDoorW.PrintWords Go.Proofs.YteekkpofcbcikaaDoorW.PrintLast Go.Proofs.YteekkpofcbcikaaDoorW.PrintMore
attribute [local go_sem] max2_int min2_int max_two min_two max_three min_three max_four min_four   -- for this text's walks alone
set_option linter.unusedVariables false
set_option linter.unusedSimpArgs false

/-! ### gomultihash_decode: function 144 -/
def gomultihash_decode.f (k : Nat) (l0 : List Int) : Option (Int × ByteArray × Int × List Int × Option Int) := (gomultihash_readMultihashFromBuf.f k l0).bind fun bt138 => (if bt138.2.2.2.isNone = true then (if (l0.length : Int) = bt138.1 then (some (bt138.2.1, (⟨#[]⟩ : ByteArray), (bt138.2.2.1.length : Int), bt138.2.2.1, none)) else (none)) else (some (0, (⟨#[]⟩ : ByteArray), 0, ([] : List Int), some (bt138.2.2.2.getD 0))))
theorem gomultihash_decode.mono : ∀ a0 k, LeO (gomultihash_decode.f k a0) (gomultihash_decode.f (k + 1) a0) := by
  intro a0 k
  unfold gomultihash_decode.f
  repeat' first
      | (with_reducible exact gomultihash_readMultihashFromBuf.mono _ _)
      | (with_reducible exact LeO.refl _)
      | (with_reducible exact LeO.none _)
      | (with_reducible refine LeO.ite ?_ ?_)
      | (with_reducible refine LeO.bind ?_ (fun _ => ?_))
      | exact gomultihash_readMultihashFromBuf.mono _ _
      | exact LeO.none _
      | refine LeO.ite ?_ ?_
      | refine LeO.bind ?_ (fun _ => ?_)
set_option maxHeartbeats 8000000 in
set_option maxRecDepth 100000 in
theorem gomultihash_decode.calls (k : Nat) (P0_ : Nat → Prop) (A0 : Option Addr) (c0 : Nat) (l0 : List Int) (r1 : Int) (r2 : ByteArray) (r3 : Int) (r4 : List Int) (r5 : Option Int) (w : World) (hs0 : Kd.V (Kd.int .u8) 5 w w.heap.size (fun k_ => P0_ k_) (.slice A0 l0.length c0) l0) (h : gomultihash_decode.f k l0 = some (r1, r2, r3, r4, r5)) :
    Calls Tryd.prog 144 #[.slice A0 l0.length c0] w fun e w' => ∃ v3_ : Value, ExE fun eT4_ eX4_ => e = .returned (.tuple #[.agg #[.int .u64 r1, .string r2, .int .i64 r3, v3_], errV r5 eT4_ eX4_]) ∧ Kd.V (Kd.int .u8) 5 w' w.heap.size (fun k_ => (P0_ k_ ∨ w.heap.size ≤ k_)) v3_ r4 ∧ Below w.heap.size w w' := by
  have hu228 := Tryd.underlying228
  have hu235 := Tryd.underlying235
  have hu83 := Tryd.underlying83
  have HO0 := Aside0.mk (show Kd.V (Kd.int .u8) 5 w w.heap.size (fun k_ => (P0_ k_ ∨ w.heap.size ≤ k_)) (.slice A0 l0.length c0) l0 from Kd.V_mono hs0 (fun k_ hk => .inl hk))
  have HB := Aside0.mk (Below.refl w.heap.size w)
  have H : ((gomultihash_readMultihashFromBuf.f k l0).bind fun bt138 => (if bt138.2.2.2.isNone = true then (if (l0.length : Int) = bt138.1 then (some (bt138.2.1, (⟨#[]⟩ : ByteArray), (bt138.2.2.1.length : Int), bt138.2.2.1, none)) else (none)) else (some (0, (⟨#[]⟩ : ByteArray), 0, ([] : List Int), some (bt138.2.2.2.getD 0))))) = some (r1, r2, r3, r4, r5) := h
  clear h
  replace H := Option.bind_eq_some_iff.mp H
  obtain ⟨⟨t138, t139, t140, t143⟩, A20, H⟩ := H
  replace H : (if t143.isNone = true then (if (l0.length : Int) = t138 then (some (t139, (⟨#[]⟩ : ByteArray), (t140.length : Int), t140, none)) else (none)) else (some (0, (⟨#[]⟩ : ByteArray), 0, ([] : List Int), some (t143.getD 0)))) = some (r1, r2, r3, r4, r5) := H
  have A2 := Aside0.mk A20
  clear A20
  rcases t143 with _ | q144
  · have H1 : (if (l0.length : Int) = t138 then (some (t139, (⟨#[]⟩ : ByteArray), (t140.length : Int), t140, none)) else (none)) = some (r1, r2, r3, r4, r5) := by rw [if_pos (show (none : Option Int).isNone = true by rfl)] at H; exact H
    clear H
    have H := H1
    clear H1
    try simp only [errV_none, errV_some]
    by_cases c3 : (l0.length : Int) = t138
    · rw [if_pos c3] at H
      have c3b0 : ((l0.length : Int) == t138) = true := beq_iff_eq.mpr c3
      have c3b1 : ((l0.length : Int) != t138) = false := bne_eq_false_iff_eq.mpr c3
      clear c3
      simp only [Option.some.injEq, Prod.mk.injEq] at H
      obtain ⟨rfl, rfl, rfl, rfl, rfl⟩ := H
      go_enter Tryd.func144, Tryd.ntmps144
      go_wp2_with (first | ((with_reducible refine gate_dst (N := 2) rfl ?_); refine box_event ?hg (N := 2) ?hd (cs := #[.int .u64 0, .string (⟨#[]⟩ : ByteArray), .int .i64 0, .slice none 0 0]) (t := 228) ?hr ?_; (case hd => rfl); (case hg => rfl); (case hr => first | (go_simp; done) | (go_simp; rfl)); intro gb137 hg w4 hbox hb; have n0_ := Aside0.mk (Kd.V_below (Kd.V_elderB (by (with_reducible repeat (first | apply Kd.V_alloc | apply Kd.V_drewN | apply Kd.V_drew)); exact HO0.out) gb137 (Nat.le_of_eq hg.symm)) hb); have n1_ := Aside0.mk (below_step (by repeat (first | (with_reducible first | exact HB.out | apply below_alloc | apply pw_below_drewN | apply below_drew1) | exact HB.out)) hb); have n2_ := Aside0.mk (hbox); have n3_ := Aside0.mk ((by rw [hg]; exact (below_size (by repeat (first | (with_reducible first | exact HB.out | apply below_alloc | apply pw_below_drewN | apply below_drew1) | exact HB.out))) : w.heap.size ≤ gb137)); have n4_ := Aside0.mk ((by rw [hg]; exact (below_size (by repeat (first | (with_reducible first | exact HB.out | apply below_alloc | apply pw_below_drewN | apply below_drew1) | exact HB.out))) : w.heap.size ≤ gb137)); clear HO0; clear HB; have HO0 := n0_; have HB := n1_; have BK137 := n2_; have GW137 := n3_; have GE137 := n4_; clear n0_ n1_ n2_ n3_ n4_; clear hb hbox hg) | ((with_reducible refine gate_callee (f := 136) rfl ?_); refine goesL_ (some 9) rfl rfl Tryd.func136 (by kernel_rfl) rfl #[.slice A0 l0.length c0] rfl (by (try simp only [List.map_toArray, List.map_cons, List.map_nil]); first | done | rfl | (simp only [List.length_drop, List.length_take]; rfl)) ?_; (with_reducible refine (gomultihash_readMultihashFromBuf.calls k (fun k_ => ((P0_ k_ ∨ w.heap.size ≤ k_) ∧ k_ ≠ gb137)) _ _ l0 t138 t139 t140 none _ ?side1 A2.out).mono ?_); (case side1 => exact HO0.out); rintro e w5 ⟨v141, eT_t143, eX_t143, rfl, ho0, hb⟩; refine ⟨_, rfl, ?_⟩; have n0_ := Aside0.mk (Kd.V_below (by (with_reducible repeat (first | apply Kd.V_alloc | apply Kd.V_drewN | apply Kd.V_drew)); exact HO0.out) hb); have n1_ := Aside0.mk (Kd.V_lower (Kd.V_mono (ok' := fun k_ => (P0_ k_ ∨ w.heap.size ≤ k_) ∧ k_ ≠ gb137) ho0 (fun k_ hk_ => ⟨Or.elim hk_ (fun hs_ => hs_.1) (fun hn_ => (.inr (Nat.le_trans (below_size (by repeat (first | (with_reducible first | exact HB.out | apply below_alloc | apply pw_below_drewN | apply below_drew1 | refine below_set ?_ GE137.out) | exact HB.out))) hn_))), Or.elim hk_ (fun hs_ => hs_.2) (fun hn_ => (Kd.freshB (g := gb137) (o := .cells #[.int .u64 0, .string (⟨#[]⟩ : ByteArray), .int .i64 0, .slice none 0 0] 228 (0, 0)) (by (with_reducible repeat (first | refine blk_drewN ?_ _ | refine blk_drew ?_ | refine blk_alloc ?_ _)); exact BK137.out) k_ hn_))⟩)) (below_size (by repeat (first | (with_reducible first | exact HB.out | apply below_alloc | apply pw_below_drewN | apply below_drew1 | refine below_set ?_ GE137.out) | exact HB.out)))); have n2_ := Aside0.mk (blk_below (g := gb137) (o := .cells #[.int .u64 0, .string (⟨#[]⟩ : ByteArray), .int .i64 0, .slice none 0 0] 228 (0, 0)) (by (with_reducible repeat (first | refine blk_drewN ?_ _ | refine blk_drew ?_ | refine blk_alloc ?_ _)); exact BK137.out) hb); have n3_ := Aside0.mk (below_step (by repeat (first | (with_reducible first | exact HB.out | apply below_alloc | apply pw_below_drewN | apply below_drew1 | refine below_set ?_ GE137.out) | exact HB.out)) hb); clear HO0; clear BK137; clear HB; have HO0 := n0_; have HO142 := n1_; have BK137 := n2_; have HB := n3_; clear n0_ n1_ n2_ n3_; (try clear hb); (try clear hb2); (try clear hk); (try clear hi); (try clear ho0); (try simp only [errV_none, errV_some]); obtain ⟨Ao6, co6, eo6⟩ := Kd.V_slice HO142.out; subst eo6; have hcz7_0 : w5.cell? ⟨gb137, 0, none⟩ = some (.int .u64 0) := (blk_cell BK137.out 0).trans rfl; have hcz7_1 : w5.cell? ⟨gb137, 1, none⟩ = some (.string (⟨#[]⟩ : ByteArray)) := (blk_cell BK137.out 1).trans rfl; have hcz7_2 : w5.cell? ⟨gb137, 2, none⟩ = some (.int .i64 0) := (blk_cell BK137.out 2).trans rfl; have hcz7_3 : w5.cell? ⟨gb137, 3, none⟩ = some (.slice none 0 0) := (blk_cell BK137.out 3).trans rfl; have hfz7_0 := blk_frozen BK137.out 0; have hfz7_1 := blk_frozen BK137.out 1; have hfz7_2 := blk_frozen BK137.out 2; have hfz7_3 := blk_frozen BK137.out 3))
      refine bodyPost_ret (results_ct rfl _ _ gb137 228 #[.int .u64 t139, .string (⟨#[]⟩ : ByteArray), .int .i64 (t140.length : Int), .slice Ao6 t140.length co6] (0, 0) _ rfl (by (with_reducible repeat (first | refine blk_drewN ?_ _ | refine blk_drew ?_ | refine blk_alloc ?_ _)); refine blk_put (cs := #[.int .u64 t139, .string (⟨#[]⟩ : ByteArray), .int .i64 (t140.length : Int), .slice Ao6 t140.length co6]) ?_ 3 _ rfl; (with_reducible repeat (first | refine blk_drewN ?_ _ | refine blk_drew ?_ | refine blk_alloc ?_ _)); refine blk_put (cs := #[.int .u64 t139, .string (⟨#[]⟩ : ByteArray), .int .i64 (t140.length : Int), .slice Ao6 t140.length co6]) ?_ 2 _ rfl; (with_reducible repeat (first | refine blk_drewN ?_ _ | refine blk_drew ?_ | refine blk_alloc ?_ _)); refine blk_put (cs := #[.int .u64 t139, .string (⟨#[]⟩ : ByteArray), .int .i64 (t140.length : Int), .slice Ao6 t140.length co6]) ?_ 1 _ rfl; (with_reducible repeat (first | refine blk_drewN ?_ _ | refine blk_drew ?_ | refine blk_alloc ?_ _)); refine blk_put (cs := #[.int .u64 t139, .string (⟨#[]⟩ : ByteArray), .int .i64 (t140.length : Int), .slice Ao6 t140.length co6]) ?_ 0 _ rfl; (with_reducible repeat (first | refine blk_drewN ?_ _ | refine blk_drew ?_ | refine blk_alloc ?_ _)); refine blk_put (cs := #[.int .u64 t139, .string (⟨#[]⟩ : ByteArray), .int .i64 (t140.length : Int), .slice none 0 0]) ?_ 3 _ rfl; (with_reducible repeat (first | refine blk_drewN ?_ _ | refine blk_drew ?_ | refine blk_alloc ?_ _)); refine blk_put (cs := #[.int .u64 t139, .string (⟨#[]⟩ : ByteArray), .int .i64 0, .slice none 0 0]) ?_ 2 _ rfl; (with_reducible repeat (first | refine blk_drewN ?_ _ | refine blk_drew ?_ | refine blk_alloc ?_ _)); refine blk_put (cs := #[.int .u64 t139, .string (⟨#[]⟩ : ByteArray), .int .i64 0, .slice none 0 0]) ?_ 1 _ rfl; (with_reducible repeat (first | refine blk_drewN ?_ _ | refine blk_drew ?_ | refine blk_alloc ?_ _)); refine blk_put (cs := #[.int .u64 0, .string (⟨#[]⟩ : ByteArray), .int .i64 0, .slice none 0 0]) ?_ 0 _ rfl; (with_reducible repeat (first | refine blk_drewN ?_ _ | refine blk_drew ?_ | refine blk_alloc ?_ _)); exact BK137.out) Tryd.underlying228 rfl (by kernel_rfl)) rfl ?_
      exact ⟨_, ExE.intro 0 .nilIface (⟨by first | rfl | (simp [errV_none, errV_some] <;> rfl) | (simp [*, errV_none, errV_some] <;> rfl), by (with_reducible repeat (first | apply Kd.V_alloc | apply Kd.V_drewN | apply Kd.V_drew)); exact Kd.V_mono (Kd.V_far (p := ⟨gb137, 3, none⟩) (Kd.V_far (p := ⟨gb137, 2, none⟩) (Kd.V_far (p := ⟨gb137, 1, none⟩) (Kd.V_far (p := ⟨gb137, 0, none⟩) (Kd.V_far (p := ⟨gb137, 3, none⟩) (Kd.V_far (p := ⟨gb137, 2, none⟩) (Kd.V_far (p := ⟨gb137, 1, none⟩) (Kd.V_far (p := ⟨gb137, 0, none⟩) (Kd.V_mono HO142.out (fun k_ hk => (⟨hk, hk.2⟩ : _ ∧ k_ ≠ gb137))) (fun _ hk => hk.2) (.int .u64 t139)) (fun _ hk => hk.2) (.string (⟨#[]⟩ : ByteArray))) (fun _ hk => hk.2) (.int .i64 (t140.length : Int))) (fun _ hk => hk.2) (.slice Ao6 t140.length co6)) (fun _ hk => hk.2) (.int .u64 t139)) (fun _ hk => hk.2) (.string (⟨#[]⟩ : ByteArray))) (fun _ hk => hk.2) (.int .i64 (t140.length : Int))) (fun _ hk => hk.2) (.slice Ao6 t140.length co6)) (fun _ hk => hk.1.1), by repeat (first | (with_reducible first | exact HB.out | apply below_alloc | apply pw_below_drewN | apply below_drew1 | refine below_set ?_ GE137.out) | exact HB.out)⟩)⟩
    · rw [if_neg c3] at H
      have c3b0 : ((l0.length : Int) == t138) = false := beq_eq_false_iff_ne.mpr c3
      have c3b1 : ((l0.length : Int) != t138) = true := bne_iff_ne.mpr c3
      exact absurd H (by simp)
  · have H1 : (some (0, (⟨#[]⟩ : ByteArray), 0, ([] : List Int), some q144)) = some (r1, r2, r3, r4, r5) := by rw [if_neg (show ¬ (some q144).isNone = true by simp)] at H; exact H
    clear H
    have H := H1
    clear H1
    try simp only [errV_none, errV_some]
    simp only [Option.some.injEq, Prod.mk.injEq] at H
    obtain ⟨rfl, rfl, rfl, rfl, rfl⟩ := H
    go_enter Tryd.func144, Tryd.ntmps144
    go_wp2_with (first | ((with_reducible refine gate_dst (N := 2) rfl ?_); refine box_event ?hg (N := 2) ?hd (cs := #[.int .u64 0, .string (⟨#[]⟩ : ByteArray), .int .i64 0, .slice none 0 0]) (t := 228) ?hr ?_; (case hd => rfl); (case hg => rfl); (case hr => first | (go_simp; done) | (go_simp; rfl)); intro gb137 hg w8 hbox hb; have n0_ := Aside0.mk (Kd.V_below (Kd.V_elderB (by (with_reducible repeat (first | apply Kd.V_alloc | apply Kd.V_drewN | apply Kd.V_drew)); exact HO0.out) gb137 (Nat.le_of_eq hg.symm)) hb); have n1_ := Aside0.mk (below_step (by repeat (first | (with_reducible first | exact HB.out | apply below_alloc | apply pw_below_drewN | apply below_drew1) | exact HB.out)) hb); have n2_ := Aside0.mk (hbox); have n3_ := Aside0.mk ((by rw [hg]; exact (below_size (by repeat (first | (with_reducible first | exact HB.out | apply below_alloc | apply pw_below_drewN | apply below_drew1) | exact HB.out))) : w.heap.size ≤ gb137)); have n4_ := Aside0.mk ((by rw [hg]; exact (below_size (by repeat (first | (with_reducible first | exact HB.out | apply below_alloc | apply pw_below_drewN | apply below_drew1) | exact HB.out))) : w.heap.size ≤ gb137)); clear HO0; clear HB; have HO0 := n0_; have HB := n1_; have BK137 := n2_; have GW137 := n3_; have GE137 := n4_; clear n0_ n1_ n2_ n3_ n4_; clear hb hbox hg) | ((with_reducible refine gate_callee (f := 136) rfl ?_); refine goesL_ (some 9) rfl rfl Tryd.func136 (by kernel_rfl) rfl #[.slice A0 l0.length c0] rfl (by (try simp only [List.map_toArray, List.map_cons, List.map_nil]); first | done | rfl | (simp only [List.length_drop, List.length_take]; rfl)) ?_; (with_reducible refine (gomultihash_readMultihashFromBuf.calls k (fun k_ => ((P0_ k_ ∨ w.heap.size ≤ k_) ∧ k_ ≠ gb137)) _ _ l0 t138 t139 t140 (some q144) _ ?side1 A2.out).mono ?_); (case side1 => exact HO0.out); rintro e w9 ⟨v141, eT_t143, eX_t143, rfl, ho0, hb⟩; refine ⟨_, rfl, ?_⟩; have n0_ := Aside0.mk (Kd.V_below (by (with_reducible repeat (first | apply Kd.V_alloc | apply Kd.V_drewN | apply Kd.V_drew)); exact HO0.out) hb); have n1_ := Aside0.mk (Kd.V_lower (Kd.V_mono (ok' := fun k_ => (P0_ k_ ∨ w.heap.size ≤ k_) ∧ k_ ≠ gb137) ho0 (fun k_ hk_ => ⟨Or.elim hk_ (fun hs_ => hs_.1) (fun hn_ => (.inr (Nat.le_trans (below_size (by repeat (first | (with_reducible first | exact HB.out | apply below_alloc | apply pw_below_drewN | apply below_drew1 | refine below_set ?_ GE137.out) | exact HB.out))) hn_))), Or.elim hk_ (fun hs_ => hs_.2) (fun hn_ => (Kd.freshB (g := gb137) (o := .cells #[.int .u64 0, .string (⟨#[]⟩ : ByteArray), .int .i64 0, .slice none 0 0] 228 (0, 0)) (by (with_reducible repeat (first | refine blk_drewN ?_ _ | refine blk_drew ?_ | refine blk_alloc ?_ _)); exact BK137.out) k_ hn_))⟩)) (below_size (by repeat (first | (with_reducible first | exact HB.out | apply below_alloc | apply pw_below_drewN | apply below_drew1 | refine below_set ?_ GE137.out) | exact HB.out)))); have n2_ := Aside0.mk (blk_below (g := gb137) (o := .cells #[.int .u64 0, .string (⟨#[]⟩ : ByteArray), .int .i64 0, .slice none 0 0] 228 (0, 0)) (by (with_reducible repeat (first | refine blk_drewN ?_ _ | refine blk_drew ?_ | refine blk_alloc ?_ _)); exact BK137.out) hb); have n3_ := Aside0.mk (below_step (by repeat (first | (with_reducible first | exact HB.out | apply below_alloc | apply pw_below_drewN | apply below_drew1 | refine below_set ?_ GE137.out) | exact HB.out)) hb); clear HO0; clear BK137; clear HB; have HO0 := n0_; have HO142 := n1_; have BK137 := n2_; have HB := n3_; clear n0_ n1_ n2_ n3_; (try clear hb); (try clear hb2); (try clear hk); (try clear hi); (try clear ho0); (try simp only [errV_none, errV_some]); have hcz10_0 : w9.cell? ⟨gb137, 0, none⟩ = some (.int .u64 0) := (blk_cell BK137.out 0).trans rfl; have hcz10_1 : w9.cell? ⟨gb137, 1, none⟩ = some (.string (⟨#[]⟩ : ByteArray)) := (blk_cell BK137.out 1).trans rfl; have hcz10_2 : w9.cell? ⟨gb137, 2, none⟩ = some (.int .i64 0) := (blk_cell BK137.out 2).trans rfl; have hcz10_3 : w9.cell? ⟨gb137, 3, none⟩ = some (.slice none 0 0) := (blk_cell BK137.out 3).trans rfl; have hfz10_0 := blk_frozen BK137.out 0; have hfz10_1 := blk_frozen BK137.out 1; have hfz10_2 := blk_frozen BK137.out 2; have hfz10_3 := blk_frozen BK137.out 3))
    refine bodyPost_ret (results_ct rfl _ _ gb137 228 #[.int .u64 0, .string (⟨#[]⟩ : ByteArray), .int .i64 0, .slice none 0 0] (0, 0) _ rfl (by (with_reducible repeat (first | refine blk_drewN ?_ _ | refine blk_drew ?_ | refine blk_alloc ?_ _)); refine blk_put (cs := #[.int .u64 0, .string (⟨#[]⟩ : ByteArray), .int .i64 0, .slice none 0 0]) ?_ 3 _ rfl; (with_reducible repeat (first | refine blk_drewN ?_ _ | refine blk_drew ?_ | refine blk_alloc ?_ _)); refine blk_put (cs := #[.int .u64 0, .string (⟨#[]⟩ : ByteArray), .int .i64 0, .slice none 0 0]) ?_ 2 _ rfl; (with_reducible repeat (first | refine blk_drewN ?_ _ | refine blk_drew ?_ | refine blk_alloc ?_ _)); refine blk_put (cs := #[.int .u64 0, .string (⟨#[]⟩ : ByteArray), .int .i64 0, .slice none 0 0]) ?_ 1 _ rfl; (with_reducible repeat (first | refine blk_drewN ?_ _ | refine blk_drew ?_ | refine blk_alloc ?_ _)); refine blk_put (cs := #[.int .u64 0, .string (⟨#[]⟩ : ByteArray), .int .i64 0, .slice none 0 0]) ?_ 0 _ rfl; (with_reducible repeat (first | refine blk_drewN ?_ _ | refine blk_drew ?_ | refine blk_alloc ?_ _)); exact BK137.out) Tryd.underlying228 rfl (by kernel_rfl)) rfl ?_
    exact ⟨_, ExE.intro _ _ (⟨by first | rfl | (simp [errV_none, errV_some] <;> rfl) | (simp [*, errV_none, errV_some] <;> rfl), by first | exact Kd.V_nil _ _ _ _ _ | exact Kd.R_V (Kd.R_nil _ _ _ _ _), by repeat (first | (with_reducible first | exact HB.out | apply below_alloc | apply pw_below_drewN | apply below_drew1 | refine below_set ?_ GE137.out) | exact HB.out)⟩)⟩

/-! ### gomultihash_Decode: function 135, by hand -/
-- HAND pub-tholos/pub/gomultihash.Decode
-- callable: no
/-- Decode, where decode has no error: what it hands back beside nil is not told. -/
theorem gomultihash_Decode.ok (k : Nat) (P0_ : Nat → Prop) (A0 : Option Addr) (c0 : Nat) (l0 : List Int) (r1 : Int) (r2 : ByteArray) (r3 : Int) (r4 : List Int) (w : World) (hs0 : Kd.V (Kd.int .u8) 5 w w.heap.size (fun k_ => P0_ k_) (.slice A0 l0.length c0) l0) (h : gomultihash_decode.f k l0 = some (r1, r2, r3, r4, none)) :
    Calls Tryd.prog 135 #[.slice A0 l0.length c0] w fun e w' => ∃ p : Value, e = .returned (.tuple #[p, .nilIface]) ∧ Below w.heap.size w w' := by
  have HS := Aside0.mk hs0
  have HD := Aside0.mk h
  have HB := Aside0.mk (Below.refl w.heap.size w)
  clear hs0 h
  go_enter Tryd.func135, Tryd.ntmps135
  go_wp2_with (go_at_call 144; refine (gomultihash_decode.calls k P0_ A0 c0 l0 r1 r2 r3 r4 none _ HS.out HD.out).mono ?_; rintro e w5 ⟨v3, eT, eX, rfl, hv, hb⟩; obtain ⟨A3, c3, rfl⟩ := Kd.V_slice hv; simp only [errV_none]; have HB1 := Aside0.mk hb; clear hb hv)
  go_ret2
  exact ⟨_, rfl, below_alloc HB1.out _⟩


/-! ### gomultihash_Cast: function 108, by hand -/
-- HAND pub-tholos/pub/gomultihash.Cast
-- making: yes
-- rounds: yes
-- share: 0.0
-- rsh: 0
/-- Cast, where Decode has no error: the bytes themselves. -/
def gomultihash_Cast.f (k : Nat) (l0 : List Int) : Option (List Int × Option Int) := (gomultihash_decode.f k l0).bind fun d => if d.2.2.2.2.isNone = true then some (l0, none) else none
theorem gomultihash_Cast.mono : ∀ a0 k, LeO (gomultihash_Cast.f k a0) (gomultihash_Cast.f (k + 1) a0) := by
  intro a0 k
  unfold gomultihash_Cast.f
  exact LeO.bind (gomultihash_decode.mono _ _) (fun _ => LeO.refl _)
theorem gomultihash_Cast.calls (k : Nat) (P0_ : Nat → Prop) (A0 : Option Addr) (c0 : Nat) (l0 : List Int) (r1 : List Int) (r2 : Option Int) (w : World) (hs0 : Kd.V (Kd.int .u8) 5 w w.heap.size (fun k_ => P0_ k_) (.slice A0 l0.length c0) l0) (h : gomultihash_Cast.f k l0 = some (r1, r2)) :
    Calls Tryd.prog 108 #[.slice A0 l0.length c0] w fun e w' => ∃ v0_ : Value, ExE fun eT1_ eX1_ => e = .returned (.tuple #[v0_, errV r2 eT1_ eX1_]) ∧ Kd.V (Kd.int .u8) 5 w' w.heap.size (fun k_ => (P0_ k_ ∨ w.heap.size ≤ k_)) v0_ r1 ∧ Below w.heap.size w w' := by
  unfold gomultihash_Cast.f at h
  obtain ⟨⟨q1, q2, q3, q4, q5⟩, hd, h⟩ := Option.bind_eq_some_iff.mp h
  rcases q5 with _ | q
  case some => exact absurd h (by simp)
  have h' : (some (l0, none) : Option (List Int × Option Int)) = some (r1, r2) := h
  clear h
  simp only [Option.some.injEq, Prod.mk.injEq] at h'
  obtain ⟨rfl, rfl⟩ := h'
  have HS := Aside0.mk hs0
  have HD := Aside0.mk hd
  clear hs0 hd
  go_enter Tryd.func108, Tryd.ntmps108
  go_wp2_with (go_at_call 135; refine (gomultihash_Decode.ok k P0_ A0 c0 l0 q1 q2 q3 q4 _ HS.out HD.out).mono ?_; rintro e w5 ⟨p, rfl, hb⟩; have HB1 := Aside0.mk hb; clear hb)
  go_ret2
  exact ⟨_, ExE.intro 0 .nilIface ⟨rfl, Kd.V_mono (Kd.V_below HS.out HB1.out) (fun _ hk => .inl hk), HB1.out⟩⟩


/-! ### gomultihash_MHFromBytes: function 110 -/
def gomultihash_MHFromBytes.f (k : Nat) (l0 : List Int) : Option (Int × List Int × Option Int) := (gomultihash_readMultihashFromBuf.f k l0).bind fun bt145 => (if bt145.2.2.2.isNone = true then (if 0 ≤ bt145.1 then (if bt145.1 ≤ (l0.length : Int) then (some (bt145.1, (l0.take (bt145.1 : Int).toNat), none)) else (none)) else (none)) else (some (0, ([] : List Int), some (bt145.2.2.2.getD 0))))
theorem gomultihash_MHFromBytes.mono : ∀ a0 k, LeO (gomultihash_MHFromBytes.f k a0) (gomultihash_MHFromBytes.f (k + 1) a0) := by
  intro a0 k
  unfold gomultihash_MHFromBytes.f
  repeat' first
      | (with_reducible exact gomultihash_readMultihashFromBuf.mono _ _)
      | (with_reducible exact LeO.refl _)
      | (with_reducible exact LeO.none _)
      | (with_reducible refine LeO.ite ?_ ?_)
      | (with_reducible refine LeO.bind ?_ (fun _ => ?_))
      | exact gomultihash_readMultihashFromBuf.mono _ _
      | exact LeO.none _
      | refine LeO.ite ?_ ?_
      | refine LeO.bind ?_ (fun _ => ?_)
set_option maxHeartbeats 8000000 in
set_option maxRecDepth 100000 in
theorem gomultihash_MHFromBytes.calls (k : Nat) (P0_ : Nat → Prop) (A0 : Option Addr) (c0 : Nat) (l0 : List Int) (r1 : Int) (r2 : List Int) (r3 : Option Int) (w : World) (hs0 : Kd.V (Kd.int .u8) 5 w w.heap.size (fun k_ => P0_ k_) (.slice A0 l0.length c0) l0) (h : gomultihash_MHFromBytes.f k l0 = some (r1, r2, r3)) :
    Calls Tryd.prog 110 #[.slice A0 l0.length c0] w fun e w' => ∃ v1_ : Value, ExE fun eT2_ eX2_ => e = .returned (.tuple #[.int .i64 r1, v1_, errV r3 eT2_ eX2_]) ∧ Kd.V (Kd.int .u8) 5 w' w.heap.size (fun k_ => (P0_ k_ ∨ w.heap.size ≤ k_)) v1_ r2 ∧ Below w.heap.size w w' := by
  have hu83 := Tryd.underlying83
  have HO0 := Aside0.mk (show Kd.V (Kd.int .u8) 5 w w.heap.size (fun k_ => (P0_ k_ ∨ w.heap.size ≤ k_)) (.slice A0 l0.length c0) l0 from Kd.V_mono hs0 (fun k_ hk => .inl hk))
  have HB := Aside0.mk (Below.refl w.heap.size w)
  have H : ((gomultihash_readMultihashFromBuf.f k l0).bind fun bt145 => (if bt145.2.2.2.isNone = true then (if 0 ≤ bt145.1 then (if bt145.1 ≤ (l0.length : Int) then (some (bt145.1, (l0.take (bt145.1 : Int).toNat), none)) else (none)) else (none)) else (some (0, ([] : List Int), some (bt145.2.2.2.getD 0))))) = some (r1, r2, r3) := h
  clear h
  replace H := Option.bind_eq_some_iff.mp H
  obtain ⟨⟨t145, t146, t147, t150⟩, A20, H⟩ := H
  replace H : (if t150.isNone = true then (if 0 ≤ t145 then (if t145 ≤ (l0.length : Int) then (some (t145, (l0.take (t145 : Int).toNat), none)) else (none)) else (none)) else (some (0, ([] : List Int), some (t150.getD 0)))) = some (r1, r2, r3) := H
  have A2 := Aside0.mk A20
  clear A20
  rcases t150 with _ | q151
  · have H1 : (if 0 ≤ t145 then (if t145 ≤ (l0.length : Int) then (some (t145, (l0.take (t145 : Int).toNat), none)) else (none)) else (none)) = some (r1, r2, r3) := by rw [if_pos (show (none : Option Int).isNone = true by rfl)] at H; exact H
    clear H
    have H := H1
    clear H1
    try simp only [errV_none, errV_some]
    by_cases c3 : 0 ≤ t145
    · rw [if_pos c3] at H
      have c3b0 := eq_true c3
      have c3b1 : decide (0 ≤ t145) = true := decide_eq_true c3
      clear c3
      by_cases c4 : t145 ≤ (l0.length : Int)
      · rw [if_pos c4] at H
        have c4b0 := eq_true c4
        have c4b1 : decide (t145 ≤ (l0.length : Int)) = true := decide_eq_true c4
        clear c4
        obtain ⟨y152, hy152⟩ : ∃ y_ : List Int, y_ = (l0.take (t145 : Int).toNat) := ⟨_, rfl⟩
        replace H : (some (t145, y152, none)) = some (r1, r2, r3) := by first | (rw [hy152]; with_reducible exact H) | (have H2_ := (Option.bind_some _ _).symm.trans H; rw [hy152]; with_reducible exact H2_) | (have H2_ := (Option.bind_some _ _).symm.trans H; with_reducible exact H2_) | with_reducible exact H | (rw [hy152]; exact H) | exact H
        have Ny152 := Aside0.mk hy152
        clear hy152
        simp only [Option.some.injEq, Prod.mk.injEq] at H
        obtain ⟨rfl, rfl, rfl⟩ := H
        go_enter Tryd.func110, Tryd.ntmps110
        go_wp2_with (first | (go_at_call 136; (with_reducible refine (gomultihash_readMultihashFromBuf.calls k (fun k_ => (P0_ k_ ∨ w.heap.size ≤ k_)) _ _ l0 t145 t146 t147 none _ ?side1 A2.out).mono ?_); (case side1 => exact HO0.out); rintro e w5 ⟨v148, eT_t150, eX_t150, rfl, ho0, hb⟩; have n0_ := Aside0.mk (Kd.V_below (by (with_reducible repeat (first | apply Kd.V_alloc | apply Kd.V_drewN | apply Kd.V_drew)); exact HO0.out) hb); have n1_ := Aside0.mk (Kd.V_lower (Kd.V_mono (ok' := fun k_ => (P0_ k_ ∨ w.heap.size ≤ k_)) ho0 (fun k_ hk_ => Or.elim hk_ (fun hs_ => hs_) (fun hn_ => (.inr (Nat.le_trans (below_size (by repeat (first | (with_reducible first | exact HB.out | apply below_alloc | apply pw_below_drewN | apply below_drew1) | exact HB.out))) hn_))))) (below_size (by repeat (first | (with_reducible first | exact HB.out | apply below_alloc | apply pw_below_drewN | apply below_drew1) | exact HB.out)))); have n2_ := Aside0.mk (below_step (by repeat (first | (with_reducible first | exact HB.out | apply below_alloc | apply pw_below_drewN | apply below_drew1) | exact HB.out)) hb); clear HO0; clear HB; have HO0 := n0_; have HO149 := n1_; have HB := n2_; clear n0_ n1_ n2_; (try clear hb); (try clear hb2); (try clear hk); (try clear hi); (try clear ho0); (try simp only [errV_none, errV_some]); have q6 : (t145 : Int) ≤ ((l0.length : Int) : Int) := of_decide_eq_true (by first | (with_reducible assumption) | assumption); obtain ⟨i06, hi06, _, hsz6, _⟩ := info_parts info5; have hroom6 : l0.length ≤ c0 := (Kd.V_reads' HO0.out).2.1; have hC6 : Kd.F (Kd.int .u8) _ _ A0 l0.length l0 := (Kd.V_at (base := w.heap.size) HO0.out).2.2; have hcut6 := cut_to (P := Tryd.prog) 24 5 .i64 Tryd.underlying24 hi06 A0 l0.length c0 t145 (of_decide_eq_true (by first | (with_reducible assumption) | assumption)) q6 hroom6; have hr6 := Kd.F_take (m := (t145 : Int).toNat) hC6 (by omega); have hy6 : y152.length = (t145 : Int).toNat := (by rw [Ny152.out, List.length_take]; omega); rw [← Ny152.out] at hr6; rw [← hy6] at hcut6; have HO156 := Aside0.mk (show Kd.V (Kd.int .u8) 5 _ w.heap.size _ (.slice A0 y152.length c0) y152 from Kd.V_mk (by omega) hr6); have HC156 := Aside0.mk (show y152.length ≤ c0 from by omega); clear hr6 hC6 hroom6 hi06 hsz6; have KY6 := Aside0.mk hy6; clear hy6; replace q6 := eq_true q6))
        repeat (go_quiet (first | (go_at_call 136; (with_reducible refine (gomultihash_readMultihashFromBuf.calls k (fun k_ => (P0_ k_ ∨ w.heap.size ≤ k_)) _ _ l0 t145 t146 t147 none _ ?side1 A2.out).mono ?_); (case side1 => exact HO0.out); rintro e w5 ⟨v148, eT_t150, eX_t150, rfl, ho0, hb⟩; have n0_ := Aside0.mk (Kd.V_below (by (with_reducible repeat (first | apply Kd.V_alloc | apply Kd.V_drewN | apply Kd.V_drew)); exact HO0.out) hb); have n1_ := Aside0.mk (Kd.V_lower (Kd.V_mono (ok' := fun k_ => (P0_ k_ ∨ w.heap.size ≤ k_)) ho0 (fun k_ hk_ => Or.elim hk_ (fun hs_ => hs_) (fun hn_ => (.inr (Nat.le_trans (below_size (by repeat (first | (with_reducible first | exact HB.out | apply below_alloc | apply pw_below_drewN | apply below_drew1) | exact HB.out))) hn_))))) (below_size (by repeat (first | (with_reducible first | exact HB.out | apply below_alloc | apply pw_below_drewN | apply below_drew1) | exact HB.out)))); have n2_ := Aside0.mk (below_step (by repeat (first | (with_reducible first | exact HB.out | apply below_alloc | apply pw_below_drewN | apply below_drew1) | exact HB.out)) hb); clear HO0; clear HB; have HO0 := n0_; have HO149 := n1_; have HB := n2_; clear n0_ n1_ n2_; (try clear hb); (try clear hb2); (try clear hk); (try clear hi); (try clear ho0); (try simp only [errV_none, errV_some]); have q6 : (t145 : Int) ≤ ((l0.length : Int) : Int) := of_decide_eq_true (by first | (with_reducible assumption) | assumption); obtain ⟨i06, hi06, _, hsz6, _⟩ := info_parts info5; have hroom6 : l0.length ≤ c0 := (Kd.V_reads' HO0.out).2.1; have hC6 : Kd.F (Kd.int .u8) _ _ A0 l0.length l0 := (Kd.V_at (base := w.heap.size) HO0.out).2.2; have hcut6 := cut_to (P := Tryd.prog) 24 5 .i64 Tryd.underlying24 hi06 A0 l0.length c0 t145 (of_decide_eq_true (by first | (with_reducible assumption) | assumption)) q6 hroom6; have hr6 := Kd.F_take (m := (t145 : Int).toNat) hC6 (by omega); have hy6 : y152.length = (t145 : Int).toNat := (by rw [Ny152.out, List.length_take]; omega); rw [← Ny152.out] at hr6; rw [← hy6] at hcut6; have HO156 := Aside0.mk (show Kd.V (Kd.int .u8) 5 _ w.heap.size _ (.slice A0 y152.length c0) y152 from Kd.V_mk (by omega) hr6); have HC156 := Aside0.mk (show y152.length ≤ c0 from by omega); clear hr6 hC6 hroom6 hi06 hsz6; have KY6 := Aside0.mk hy6; clear hy6; replace q6 := eq_true q6)); try go_wp2_with (first | (go_at_call 136; (with_reducible refine (gomultihash_readMultihashFromBuf.calls k (fun k_ => (P0_ k_ ∨ w.heap.size ≤ k_)) _ _ l0 t145 t146 t147 none _ ?side1 A2.out).mono ?_); (case side1 => exact HO0.out); rintro e w5 ⟨v148, eT_t150, eX_t150, rfl, ho0, hb⟩; have n0_ := Aside0.mk (Kd.V_below (by (with_reducible repeat (first | apply Kd.V_alloc | apply Kd.V_drewN | apply Kd.V_drew)); exact HO0.out) hb); have n1_ := Aside0.mk (Kd.V_lower (Kd.V_mono (ok' := fun k_ => (P0_ k_ ∨ w.heap.size ≤ k_)) ho0 (fun k_ hk_ => Or.elim hk_ (fun hs_ => hs_) (fun hn_ => (.inr (Nat.le_trans (below_size (by repeat (first | (with_reducible first | exact HB.out | apply below_alloc | apply pw_below_drewN | apply below_drew1) | exact HB.out))) hn_))))) (below_size (by repeat (first | (with_reducible first | exact HB.out | apply below_alloc | apply pw_below_drewN | apply below_drew1) | exact HB.out)))); have n2_ := Aside0.mk (below_step (by repeat (first | (with_reducible first | exact HB.out | apply below_alloc | apply pw_below_drewN | apply below_drew1) | exact HB.out)) hb); clear HO0; clear HB; have HO0 := n0_; have HO149 := n1_; have HB := n2_; clear n0_ n1_ n2_; (try clear hb); (try clear hb2); (try clear hk); (try clear hi); (try clear ho0); (try simp only [errV_none, errV_some]); have q6 : (t145 : Int) ≤ ((l0.length : Int) : Int) := of_decide_eq_true (by first | (with_reducible assumption) | assumption); obtain ⟨i06, hi06, _, hsz6, _⟩ := info_parts info5; have hroom6 : l0.length ≤ c0 := (Kd.V_reads' HO0.out).2.1; have hC6 : Kd.F (Kd.int .u8) _ _ A0 l0.length l0 := (Kd.V_at (base := w.heap.size) HO0.out).2.2; have hcut6 := cut_to (P := Tryd.prog) 24 5 .i64 Tryd.underlying24 hi06 A0 l0.length c0 t145 (of_decide_eq_true (by first | (with_reducible assumption) | assumption)) q6 hroom6; have hr6 := Kd.F_take (m := (t145 : Int).toNat) hC6 (by omega); have hy6 : y152.length = (t145 : Int).toNat := (by rw [Ny152.out, List.length_take]; omega); rw [← Ny152.out] at hr6; rw [← hy6] at hcut6; have HO156 := Aside0.mk (show Kd.V (Kd.int .u8) 5 _ w.heap.size _ (.slice A0 y152.length c0) y152 from Kd.V_mk (by omega) hr6); have HC156 := Aside0.mk (show y152.length ≤ c0 from by omega); clear hr6 hC6 hroom6 hi06 hsz6; have KY6 := Aside0.mk hy6; clear hy6; replace q6 := eq_true q6)))
        go_ret3
        exact ⟨_, ExE.intro 0 .nilIface (⟨by first | rfl | (simp [errV_none, errV_some] <;> rfl) | (simp [*, errV_none, errV_some] <;> rfl), by (with_reducible repeat (first | apply Kd.V_alloc | apply Kd.V_drewN | apply Kd.V_drew)); exact HO156.out, by repeat (first | (with_reducible first | exact HB.out | apply below_alloc | apply pw_below_drewN | apply below_drew1) | exact HB.out)⟩)⟩
      · rw [if_neg c4] at H
        exact absurd H (by simp)
    · rw [if_neg c3] at H
      exact absurd H (by simp)
  · have H1 : (some (0, ([] : List Int), some q151)) = some (r1, r2, r3) := by rw [if_neg (show ¬ (some q151).isNone = true by simp)] at H; exact H
    clear H
    have H := H1
    clear H1
    try simp only [errV_none, errV_some]
    simp only [Option.some.injEq, Prod.mk.injEq] at H
    obtain ⟨rfl, rfl, rfl⟩ := H
    go_enter Tryd.func110, Tryd.ntmps110
    go_wp2_with (first | (go_at_call 136; (with_reducible refine (gomultihash_readMultihashFromBuf.calls k (fun k_ => (P0_ k_ ∨ w.heap.size ≤ k_)) _ _ l0 t145 t146 t147 (some q151) _ ?side1 A2.out).mono ?_); (case side1 => exact HO0.out); rintro e w7 ⟨v148, eT_t150, eX_t150, rfl, ho0, hb⟩; have n0_ := Aside0.mk (Kd.V_below (by (with_reducible repeat (first | apply Kd.V_alloc | apply Kd.V_drewN | apply Kd.V_drew)); exact HO0.out) hb); have n1_ := Aside0.mk (Kd.V_lower (Kd.V_mono (ok' := fun k_ => (P0_ k_ ∨ w.heap.size ≤ k_)) ho0 (fun k_ hk_ => Or.elim hk_ (fun hs_ => hs_) (fun hn_ => (.inr (Nat.le_trans (below_size (by repeat (first | (with_reducible first | exact HB.out | apply below_alloc | apply pw_below_drewN | apply below_drew1) | exact HB.out))) hn_))))) (below_size (by repeat (first | (with_reducible first | exact HB.out | apply below_alloc | apply pw_below_drewN | apply below_drew1) | exact HB.out)))); have n2_ := Aside0.mk (below_step (by repeat (first | (with_reducible first | exact HB.out | apply below_alloc | apply pw_below_drewN | apply below_drew1) | exact HB.out)) hb); clear HO0; clear HB; have HO0 := n0_; have HO149 := n1_; have HB := n2_; clear n0_ n1_ n2_; (try clear hb); (try clear hb2); (try clear hk); (try clear hi); (try clear ho0); (try simp only [errV_none, errV_some])))
    repeat (go_quiet (first | (go_at_call 136; (with_reducible refine (gomultihash_readMultihashFromBuf.calls k (fun k_ => (P0_ k_ ∨ w.heap.size ≤ k_)) _ _ l0 t145 t146 t147 (some q151) _ ?side1 A2.out).mono ?_); (case side1 => exact HO0.out); rintro e w7 ⟨v148, eT_t150, eX_t150, rfl, ho0, hb⟩; have n0_ := Aside0.mk (Kd.V_below (by (with_reducible repeat (first | apply Kd.V_alloc | apply Kd.V_drewN | apply Kd.V_drew)); exact HO0.out) hb); have n1_ := Aside0.mk (Kd.V_lower (Kd.V_mono (ok' := fun k_ => (P0_ k_ ∨ w.heap.size ≤ k_)) ho0 (fun k_ hk_ => Or.elim hk_ (fun hs_ => hs_) (fun hn_ => (.inr (Nat.le_trans (below_size (by repeat (first | (with_reducible first | exact HB.out | apply below_alloc | apply pw_below_drewN | apply below_drew1) | exact HB.out))) hn_))))) (below_size (by repeat (first | (with_reducible first | exact HB.out | apply below_alloc | apply pw_below_drewN | apply below_drew1) | exact HB.out)))); have n2_ := Aside0.mk (below_step (by repeat (first | (with_reducible first | exact HB.out | apply below_alloc | apply pw_below_drewN | apply below_drew1) | exact HB.out)) hb); clear HO0; clear HB; have HO0 := n0_; have HO149 := n1_; have HB := n2_; clear n0_ n1_ n2_; (try clear hb); (try clear hb2); (try clear hk); (try clear hi); (try clear ho0); (try simp only [errV_none, errV_some]))); try go_wp2_with (first | (go_at_call 136; (with_reducible refine (gomultihash_readMultihashFromBuf.calls k (fun k_ => (P0_ k_ ∨ w.heap.size ≤ k_)) _ _ l0 t145 t146 t147 (some q151) _ ?side1 A2.out).mono ?_); (case side1 => exact HO0.out); rintro e w7 ⟨v148, eT_t150, eX_t150, rfl, ho0, hb⟩; have n0_ := Aside0.mk (Kd.V_below (by (with_reducible repeat (first | apply Kd.V_alloc | apply Kd.V_drewN | apply Kd.V_drew)); exact HO0.out) hb); have n1_ := Aside0.mk (Kd.V_lower (Kd.V_mono (ok' := fun k_ => (P0_ k_ ∨ w.heap.size ≤ k_)) ho0 (fun k_ hk_ => Or.elim hk_ (fun hs_ => hs_) (fun hn_ => (.inr (Nat.le_trans (below_size (by repeat (first | (with_reducible first | exact HB.out | apply below_alloc | apply pw_below_drewN | apply below_drew1) | exact HB.out))) hn_))))) (below_size (by repeat (first | (with_reducible first | exact HB.out | apply below_alloc | apply pw_below_drewN | apply below_drew1) | exact HB.out)))); have n2_ := Aside0.mk (below_step (by repeat (first | (with_reducible first | exact HB.out | apply below_alloc | apply pw_below_drewN | apply below_drew1) | exact HB.out)) hb); clear HO0; clear HB; have HO0 := n0_; have HO149 := n1_; have HB := n2_; clear n0_ n1_ n2_; (try clear hb); (try clear hb2); (try clear hk); (try clear hi); (try clear ho0); (try simp only [errV_none, errV_some]))))
    go_ret3
    exact ⟨_, ExE.intro _ _ (⟨by first | rfl | (simp [errV_none, errV_some] <;> rfl) | (simp [*, errV_none, errV_some] <;> rfl), by first | exact Kd.V_nil _ _ _ _ _ | exact Kd.R_V (Kd.R_nil _ _ _ _ _), by repeat (first | (with_reducible first | exact HB.out | apply below_alloc | apply pw_below_drewN | apply below_drew1) | exact HB.out)⟩)⟩

end Go.Proofs.YteekkpofcbcikaaDoor.PWan
