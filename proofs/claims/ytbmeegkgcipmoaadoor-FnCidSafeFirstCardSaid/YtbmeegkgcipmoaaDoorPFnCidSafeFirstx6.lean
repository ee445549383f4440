/- Printed by a program of this session (it drives the print of the kit, with contracts proved by hand beside): the Go functions of one law as Lean functions, and that the Go code comes to what they say. -/
import Derived.Test.YtbmeegkgcipmoaaDoorPFnCidSafeFirstx0
import Derived.Test.YtbmeegkgcipmoaaDoorPFnCidSafeFirstx1
import Derived.Test.YtbmeegkgcipmoaaDoorPFnCidSafeFirstx5
namespace Go.Proofs.YtbmeegkgcipmoaaDoor.PFnCidSafeFirst
open Go.RowKit Go.Proofs.YtbmeegkgcipmoaaDoorL Go.Proofs.YtbmeegkgcipmoaaDoorW.PrintWords Go.Proofs.YtbmeegkgcipmoaaDoorW.PrintLast Go.Proofs.YtbmeegkgcipmoaaDoorW.PrintMore
attribute [local go_sem] max2_int min2_int max_two min_two max_three min_three max_four min_four   -- for this text's walks alone
set_option linter.unusedVariables false
set_option linter.unusedSimpArgs false

/-! ### gocid_Cast: function 19 -/
def gocid_Cast.f (k : Nat) (l0 : List Int) : Option (ByteArray × Option Int) := (gocid_CidFromBytes.f k l0).bind fun bt196 => (if bt196.2.2.isNone = true then (if bt196.1 = (l0.length : Int) then (some (bt196.2.1, none)) else ((errors_New.f (⟨#[116, 114, 97, 105, 108, 105, 110, 103, 32, 98, 121, 116, 101, 115, 32, 105, 110, 32, 100, 97, 116, 97, 32, 98, 117, 102, 102, 101, 114, 32, 112, 97, 115, 115, 101, 100, 32, 116, 111, 32, 99, 105, 100, 32, 67, 97, 115, 116]⟩ : ByteArray)).bind fun t201 => (none))) else (none))
theorem gocid_Cast.mono : ∀ a0 k, LeO (gocid_Cast.f k a0) (gocid_Cast.f (k + 1) a0) := by
  intro a0 k
  unfold gocid_Cast.f
  repeat' first
      | (with_reducible exact gocid_CidFromBytes.mono _ _)
      | (with_reducible exact LeO.refl _)
      | (with_reducible exact LeO.none _)
      | (with_reducible refine LeO.ite ?_ ?_)
      | (with_reducible refine LeO.bind ?_ (fun _ => ?_))
      | exact gocid_CidFromBytes.mono _ _
      | exact LeO.none _
      | refine LeO.ite ?_ ?_
      | refine LeO.bind ?_ (fun _ => ?_)
set_option maxHeartbeats 8000000 in
set_option maxRecDepth 100000 in
theorem gocid_Cast.calls (k : Nat) (A0 : Option Addr) (c0 : Nat) (l0 : List Int) (r1 : ByteArray) (r2 : Option Int) (w : World) (hr0 : Kd.C (Kd.int .u8) w A0 l0.length l0) (hc0 : l0.length ≤ c0) (h : gocid_Cast.f k l0 = some (r1, r2)) :
    Calls Tryd.prog 19 #[.slice A0 l0.length c0] w fun e w' => ExE fun eT1_ eX1_ => e = .returned (.tuple #[.agg #[.string r1], errV r2 eT1_ eX1_]) ∧ Below w.heap.size w w' := by
  have hu47 := Tryd.underlying47
  have hu38 := Tryd.underlying38
  have HR0 := Aside0.mk hr0
  have HC0 := Aside0.mk hc0
  clear hr0 hc0
  have HB := Aside0.mk (Below.refl w.heap.size w)
  have H : ((gocid_CidFromBytes.f k l0).bind fun bt196 => (if bt196.2.2.isNone = true then (if bt196.1 = (l0.length : Int) then (some (bt196.2.1, none)) else ((errors_New.f (⟨#[116, 114, 97, 105, 108, 105, 110, 103, 32, 98, 121, 116, 101, 115, 32, 105, 110, 32, 100, 97, 116, 97, 32, 98, 117, 102, 102, 101, 114, 32, 112, 97, 115, 115, 101, 100, 32, 116, 111, 32, 99, 105, 100, 32, 67, 97, 115, 116]⟩ : ByteArray)).bind fun t201 => (none))) else (none))) = some (r1, r2) := h
  clear h
  replace H := Option.bind_eq_some_iff.mp H
  obtain ⟨⟨t196, t197, t198⟩, A20, H⟩ := H
  replace H : (if t198.isNone = true then (if t196 = (l0.length : Int) then (some (t197, none)) else ((errors_New.f (⟨#[116, 114, 97, 105, 108, 105, 110, 103, 32, 98, 121, 116, 101, 115, 32, 105, 110, 32, 100, 97, 116, 97, 32, 98, 117, 102, 102, 101, 114, 32, 112, 97, 115, 115, 101, 100, 32, 116, 111, 32, 99, 105, 100, 32, 67, 97, 115, 116]⟩ : ByteArray)).bind fun t201 => (none))) else (none)) = some (r1, r2) := H
  have A2 := Aside0.mk A20
  clear A20
  rcases t198 with _ | q200
  · have H1 : (if t196 = (l0.length : Int) then (some (t197, none)) else ((errors_New.f (⟨#[116, 114, 97, 105, 108, 105, 110, 103, 32, 98, 121, 116, 101, 115, 32, 105, 110, 32, 100, 97, 116, 97, 32, 98, 117, 102, 102, 101, 114, 32, 112, 97, 115, 115, 101, 100, 32, 116, 111, 32, 99, 105, 100, 32, 67, 97, 115, 116]⟩ : ByteArray)).bind fun t201 => (none))) = some (r1, r2) := by rw [if_pos (show (none : Option Int).isNone = true by rfl)] at H; exact H
    clear H
    have H := H1
    clear H1
    try simp only [errV_none, errV_some]
    by_cases c3 : t196 = (l0.length : Int)
    · rw [if_pos c3] at H
      have c3b0 : (t196 == (l0.length : Int)) = true := beq_iff_eq.mpr c3
      have c3b1 : (t196 != (l0.length : Int)) = false := bne_eq_false_iff_eq.mpr c3
      clear c3
      simp only [Option.some.injEq, Prod.mk.injEq] at H
      obtain ⟨rfl, rfl⟩ := H
      go_enter Tryd.func19, Tryd.ntmps19
      go_wp2_with (first | ((with_reducible refine gate_dst (N := 2) rfl ?_); refine box_event ?hg (N := 2) ?hd (cs := #[.string (⟨#[]⟩ : ByteArray)]) (t := 47) ?hr ?_; (case hd => rfl); (case hg => rfl); (case hr => first | (go_simp; done) | (go_simp; rfl)); intro gb195 hg w4 hbox hb; have n0_ := Aside0.mk (below_step (by repeat (first | (with_reducible first | exact HB.out | apply below_alloc | apply pw_below_drewN | apply below_drew1) | exact HB.out)) hb); have n1_ := Aside0.mk (hbox); have n2_ := Aside0.mk ((by rw [hg]; exact (below_size (by repeat (first | (with_reducible first | exact HB.out | apply below_alloc | apply pw_below_drewN | apply below_drew1) | exact HB.out))) : w.heap.size ≤ gb195)); have n3_ := Aside0.mk ((by rw [hg]; exact (below_size (by repeat (first | (with_reducible first | exact HB.out | apply below_alloc | apply pw_below_drewN | apply below_drew1) | exact HB.out))) : w.heap.size ≤ gb195)); clear HB; have HB := n0_; have BK195 := n1_; have GW195 := n2_; have GE195 := n3_; clear n0_ n1_ n2_ n3_; clear hb hbox hg) | ((with_reducible refine gate_callee (f := 28) rfl ?_); refine goesL_ (some 9) rfl rfl Tryd.func28 (by kernel_rfl) rfl #[.slice A0 l0.length c0] rfl (by (try simp only [List.map_toArray, List.map_cons, List.map_nil]); first | done | rfl | (simp only [List.length_drop, List.length_take]; rfl)) ?_; (with_reducible refine (gocid_CidFromBytes.calls k _ _ l0 t196 t197 none _ ?side1 ?side2 A2.out).mono ?_); (case side1 => repeat (first | exact (Kd.C_below HR0.out HB.out) | (with_reducible refine Kd.C_alloc ?_ _) | (with_reducible refine Kd.C_drewN ?_ _) | (with_reducible refine Kd.C_drew ?_))); (case side2 => exact HC0.out); rintro e w5 ⟨eT_t198, eX_t198, rfl, hb⟩; refine ⟨_, rfl, ?_⟩; have n0_ := Aside0.mk (blk_below (g := gb195) (o := .cells #[.string (⟨#[]⟩ : ByteArray)] 47 (0, 0)) (by (with_reducible repeat (first | refine blk_drewN ?_ _ | refine blk_drew ?_ | refine blk_alloc ?_ _)); exact BK195.out) hb); have n1_ := Aside0.mk (below_step (by repeat (first | (with_reducible first | exact HB.out | apply below_alloc | apply pw_below_drewN | apply below_drew1 | refine below_set ?_ GE195.out) | exact HB.out)) hb); clear BK195; clear HB; have BK195 := n0_; have HB := n1_; clear n0_ n1_; (try clear hb); (try clear hb2); (try clear hk); (try clear hi); (try simp only [errV_none, errV_some])) | ((with_reducible refine gate_dst (N := 5) rfl ?_); refine box_event ?hg (N := 5) ?hd (cs := #[.string (⟨#[]⟩ : ByteArray)]) (t := 47) ?hr ?_; (case hd => rfl); (case hg => rfl); (case hr => first | (go_simp; done) | (go_simp; rfl)); intro gb199 hg w6 hbox hb; have n0_ := Aside0.mk (blk_below (g := gb195) (o := .cells #[.string (⟨#[]⟩ : ByteArray)] 47 (0, 0)) (by (with_reducible repeat (first | refine blk_drewN ?_ _ | refine blk_drew ?_ | refine blk_alloc ?_ _)); exact BK195.out) hb); have n1_ := Aside0.mk (below_step (by repeat (first | (with_reducible first | exact HB.out | apply below_alloc | apply pw_below_drewN | apply below_drew1 | refine below_set ?_ GE195.out) | exact HB.out)) hb); have n2_ := Aside0.mk (hbox); have n3_ := Aside0.mk ((by rw [hg]; exact (below_size (by repeat (first | (with_reducible first | exact HB.out | apply below_alloc | apply pw_below_drewN | apply below_drew1 | refine below_set ?_ GE195.out) | exact HB.out))) : w.heap.size ≤ gb199)); have n4_ := Aside0.mk ((by rw [hg]; exact (below_size (by repeat (first | (with_reducible first | exact HB.out | apply below_alloc | apply pw_below_drewN | apply below_drew1 | refine below_set ?_ GE195.out) | exact HB.out))) : w.heap.size ≤ gb199)); have n5_ := Aside0.mk ((by rw [hg]; exact Nat.ne_of_lt (blk_lt (g := gb195) (o := .cells #[.string (⟨#[]⟩ : ByteArray)] 47 (0, 0)) (by (with_reducible repeat (first | refine blk_drewN ?_ _ | refine blk_drew ?_ | refine blk_alloc ?_ _)); exact BK195.out)) : gb195 ≠ gb199)); have n6_ := Aside0.mk ((by rw [hg]; exact Nat.ne_of_gt (blk_lt (g := gb195) (o := .cells #[.string (⟨#[]⟩ : ByteArray)] 47 (0, 0)) (by (with_reducible repeat (first | refine blk_drewN ?_ _ | refine blk_drew ?_ | refine blk_alloc ?_ _)); exact BK195.out)) : gb199 ≠ gb195)); clear BK195; clear HB; have BK195 := n0_; have HB := n1_; have BK199 := n2_; have GW199 := n3_; have GE199 := n4_; have NB195_199 := n5_; have NB199_195 := n6_; clear n0_ n1_ n2_ n3_ n4_ n5_ n6_; clear hb hbox hg; have hnb7 := NB199_195.out; have hnc7 := NB195_199.out; have hcz8_0 : w6.cell? ⟨gb199, 0, none⟩ = some (.string (⟨#[]⟩ : ByteArray)) := (blk_cell BK199.out 0).trans rfl; have hfz8_0 := blk_frozen BK199.out 0; have hcz9_0 : w6.cell? ⟨gb195, 0, none⟩ = some (.string (⟨#[]⟩ : ByteArray)) := (blk_cell BK195.out 0).trans rfl; have hfz9_0 := blk_frozen BK195.out 0))
      refine bodyPost_ret (results_ct rfl _ _ gb195 47 #[.string t197] (0, 0) _ rfl (by (with_reducible repeat (first | refine blk_drewN ?_ _ | refine blk_drew ?_ | refine blk_alloc ?_ _)); refine blk_put (cs := #[.string (⟨#[]⟩ : ByteArray)]) ?_ 0 _ rfl; (with_reducible repeat (first | refine blk_drewN ?_ _ | refine blk_drew ?_ | refine blk_alloc ?_ _)); refine blk_far ?_ NB195_199.out _; (with_reducible repeat (first | refine blk_drewN ?_ _ | refine blk_drew ?_ | refine blk_alloc ?_ _)); exact BK195.out) Tryd.underlying47 rfl (by kernel_rfl)) rfl ?_
      exact ExE.intro 0 .nilIface (⟨by first | rfl | (simp [errV_none, errV_some] <;> rfl) | (simp [*, errV_none, errV_some] <;> rfl), by repeat (first | (with_reducible first | exact HB.out | apply below_alloc | apply pw_below_drewN | apply below_drew1 | refine below_set ?_ GE195.out | refine below_set ?_ GE199.out) | exact HB.out)⟩)
    · rw [if_neg c3] at H
      have c3b0 : (t196 == (l0.length : Int)) = false := beq_eq_false_iff_ne.mpr c3
      have c3b1 : (t196 != (l0.length : Int)) = true := bne_iff_ne.mpr c3
      replace H := Option.bind_eq_some_iff.mp H
      obtain ⟨t201, A100, H⟩ := H
      replace H : (none) = some (r1, r2) := H
      have A10 := Aside0.mk A100
      clear A100
      exact absurd H (by simp)
  · have H1 : (none) = some (r1, r2) := by rw [if_neg (show ¬ (some q200).isNone = true by simp)] at H; exact H
    clear H
    have H := H1
    clear H1
    try simp only [errV_none, errV_some]
    exact absurd H (by simp)

/-! ### gocid_Cid_Version: function 36 -/
def gocid_Cid_Version.f (a0_0 : ByteArray) : Option (Int) := if (a0_0.size : Int) = 34 then (if 0 < (a0_0.size : Int) then (if (bt a0_0 0) = 18 then (if 1 < (a0_0.size : Int) then (if (bt a0_0 1) = 32 then (some 0) else (some 1)) else (none)) else (some 1)) else (none)) else (some 1)
set_option maxHeartbeats 8000000 in
set_option maxRecDepth 100000 in
theorem gocid_Cid_Version.calls (a0_0 : ByteArray) (r : Int) (w : World) (h : gocid_Cid_Version.f a0_0 = some r) :
    Calls Tryd.prog 36 #[.agg #[.string a0_0]] w fun e w' => e = .returned (.int .u64 r) ∧ Below w.heap.size w w' := by
  have hu47 := Tryd.underlying47
  have HB := Aside0.mk (Below.refl w.heap.size w)
  have H : (if (a0_0.size : Int) = 34 then (if 0 < (a0_0.size : Int) then (if (bt a0_0 0) = 18 then (if 1 < (a0_0.size : Int) then (if (bt a0_0 1) = 32 then (some 0) else (some 1)) else (none)) else (some 1)) else (none)) else (some 1)) = some r := h
  clear h
  by_cases c2 : (a0_0.size : Int) = 34
  · rw [if_pos c2] at H
    have c2b0 : ((a0_0.size : Int) == 34) = true := beq_iff_eq.mpr c2
    have c2b1 : ((a0_0.size : Int) != 34) = false := bne_eq_false_iff_eq.mpr c2
    clear c2
    by_cases c3 : 0 < (a0_0.size : Int)
    · rw [if_pos c3] at H
      have c3b0 : decide (0 < (a0_0.size : Int)) = true := decide_eq_true c3
      have c3b1 : decide (0 < a0_0.size) = true := decide_eq_true (by omega)
      clear c3
      by_cases c5 : (bt a0_0 0) = 18
      · rw [if_pos c5] at H
        have c5b0 : ((bt a0_0 0) == 18) = true := beq_iff_eq.mpr c5
        have c5b1 : ((bt a0_0 0) != 18) = false := bne_eq_false_iff_eq.mpr c5
        clear c5
        by_cases c6 : 1 < (a0_0.size : Int)
        · rw [if_pos c6] at H
          have c6b0 : decide (1 < (a0_0.size : Int)) = true := decide_eq_true c6
          have c6b1 : decide (1 < a0_0.size) = true := decide_eq_true (by omega)
          clear c6
          by_cases c8 : (bt a0_0 1) = 32
          · rw [if_pos c8] at H
            have c8b0 : ((bt a0_0 1) == 32) = true := beq_iff_eq.mpr c8
            have c8b1 : ((bt a0_0 1) != 32) = false := bne_eq_false_iff_eq.mpr c8
            clear c8
            obtain rfl := Option.some.inj H
            go_enter Tryd.func36, Tryd.ntmps36
            go_wp2_with (first | ((with_reducible refine gate_dst (N := 1) rfl ?_); refine box_event ?hg (N := 1) ?hd (cs := #[.string a0_0]) (t := 47) ?hr ?_; (case hd => rfl); (case hg => rfl); (case hr => first | (go_simp; done) | (go_simp; rfl)); intro gb202 hg w9 hbox hb; have n0_ := Aside0.mk (below_step (by repeat (first | (with_reducible first | exact HB.out | apply below_alloc | apply pw_below_drewN | apply below_drew1) | exact HB.out)) hb); have n1_ := Aside0.mk (hbox); have n2_ := Aside0.mk ((by rw [hg]; exact (below_size (by repeat (first | (with_reducible first | exact HB.out | apply below_alloc | apply pw_below_drewN | apply below_drew1) | exact HB.out))) : w.heap.size ≤ gb202)); have n3_ := Aside0.mk ((by rw [hg]; exact (below_size (by repeat (first | (with_reducible first | exact HB.out | apply below_alloc | apply pw_below_drewN | apply below_drew1) | exact HB.out))) : w.heap.size ≤ gb202)); clear HB; have HB := n0_; have BK202 := n1_; have GW202 := n2_; have GE202 := n3_; clear n0_ n1_ n2_ n3_; clear hb hbox hg; have hcz10_0 : w9.cell? ⟨gb202, 0, none⟩ = some (.string a0_0) := (blk_cell BK202.out 0).trans rfl; have hfz10_0 := blk_frozen BK202.out 0; have p4 : 0 ≤ (0 : Int) := (by omega); have q4 : 0 < a0_0.size := (by have : (0 : Int) < (a0_0.size : Int) := of_decide_eq_true (by first | (with_reducible assumption) | assumption); omega); have hx4 : ∀ h : 0 < a0_0.size, ((a0_0[0]'h).toNat : Int) = bt a0_0 0 := bt_at a0_0 0; clear p4; have qi4 : (0 < (a0_0.size : Int)) = True := eq_true (of_decide_eq_true (by first | (with_reducible assumption) | assumption)); replace q4 := eq_true q4; have p7 : 0 ≤ (1 : Int) := (by omega); have q7 : 1 < a0_0.size := (by have : (1 : Int) < (a0_0.size : Int) := of_decide_eq_true (by first | (with_reducible assumption) | assumption); omega); have hx7 : ∀ h : 1 < a0_0.size, ((a0_0[1]'h).toNat : Int) = bt a0_0 1 := bt_at a0_0 1; clear p7; have qi7 : (1 < (a0_0.size : Int)) = True := eq_true (of_decide_eq_true (by first | (with_reducible assumption) | assumption)); replace q7 := eq_true q7))
            go_ret
            exact ⟨by first | rfl | (simp [errV_none, errV_some] <;> rfl) | (simp [*, errV_none, errV_some] <;> rfl), by repeat (first | (with_reducible first | exact HB.out | apply below_alloc | apply pw_below_drewN | apply below_drew1 | refine below_set ?_ GE202.out) | exact HB.out)⟩
          · rw [if_neg c8] at H
            have c8b0 : ((bt a0_0 1) == 32) = false := beq_eq_false_iff_ne.mpr c8
            have c8b1 : ((bt a0_0 1) != 32) = true := bne_iff_ne.mpr c8
            obtain rfl := Option.some.inj H
            go_enter Tryd.func36, Tryd.ntmps36
            go_wp2_with (first | ((with_reducible refine gate_dst (N := 1) rfl ?_); refine box_event ?hg (N := 1) ?hd (cs := #[.string a0_0]) (t := 47) ?hr ?_; (case hd => rfl); (case hg => rfl); (case hr => first | (go_simp; done) | (go_simp; rfl)); intro gb202 hg w11 hbox hb; have n0_ := Aside0.mk (below_step (by repeat (first | (with_reducible first | exact HB.out | apply below_alloc | apply pw_below_drewN | apply below_drew1) | exact HB.out)) hb); have n1_ := Aside0.mk (hbox); have n2_ := Aside0.mk ((by rw [hg]; exact (below_size (by repeat (first | (with_reducible first | exact HB.out | apply below_alloc | apply pw_below_drewN | apply below_drew1) | exact HB.out))) : w.heap.size ≤ gb202)); have n3_ := Aside0.mk ((by rw [hg]; exact (below_size (by repeat (first | (with_reducible first | exact HB.out | apply below_alloc | apply pw_below_drewN | apply below_drew1) | exact HB.out))) : w.heap.size ≤ gb202)); clear HB; have HB := n0_; have BK202 := n1_; have GW202 := n2_; have GE202 := n3_; clear n0_ n1_ n2_ n3_; clear hb hbox hg; have hcz12_0 : w11.cell? ⟨gb202, 0, none⟩ = some (.string a0_0) := (blk_cell BK202.out 0).trans rfl; have hfz12_0 := blk_frozen BK202.out 0; have p4 : 0 ≤ (0 : Int) := (by omega); have q4 : 0 < a0_0.size := (by have : (0 : Int) < (a0_0.size : Int) := of_decide_eq_true (by first | (with_reducible assumption) | assumption); omega); have hx4 : ∀ h : 0 < a0_0.size, ((a0_0[0]'h).toNat : Int) = bt a0_0 0 := bt_at a0_0 0; clear p4; have qi4 : (0 < (a0_0.size : Int)) = True := eq_true (of_decide_eq_true (by first | (with_reducible assumption) | assumption)); replace q4 := eq_true q4; have p7 : 0 ≤ (1 : Int) := (by omega); have q7 : 1 < a0_0.size := (by have : (1 : Int) < (a0_0.size : Int) := of_decide_eq_true (by first | (with_reducible assumption) | assumption); omega); have hx7 : ∀ h : 1 < a0_0.size, ((a0_0[1]'h).toNat : Int) = bt a0_0 1 := bt_at a0_0 1; clear p7; have qi7 : (1 < (a0_0.size : Int)) = True := eq_true (of_decide_eq_true (by first | (with_reducible assumption) | assumption)); replace q7 := eq_true q7))
            go_ret
            exact ⟨by first | rfl | (simp [errV_none, errV_some] <;> rfl) | (simp [*, errV_none, errV_some] <;> rfl), by repeat (first | (with_reducible first | exact HB.out | apply below_alloc | apply pw_below_drewN | apply below_drew1 | refine below_set ?_ GE202.out) | exact HB.out)⟩
        · rw [if_neg c6] at H
          exact absurd H (by simp)
      · rw [if_neg c5] at H
        have c5b0 : ((bt a0_0 0) == 18) = false := beq_eq_false_iff_ne.mpr c5
        have c5b1 : ((bt a0_0 0) != 18) = true := bne_iff_ne.mpr c5
        obtain rfl := Option.some.inj H
        go_enter Tryd.func36, Tryd.ntmps36
        go_wp2_with (first | ((with_reducible refine gate_dst (N := 1) rfl ?_); refine box_event ?hg (N := 1) ?hd (cs := #[.string a0_0]) (t := 47) ?hr ?_; (case hd => rfl); (case hg => rfl); (case hr => first | (go_simp; done) | (go_simp; rfl)); intro gb202 hg w13 hbox hb; have n0_ := Aside0.mk (below_step (by repeat (first | (with_reducible first | exact HB.out | apply below_alloc | apply pw_below_drewN | apply below_drew1) | exact HB.out)) hb); have n1_ := Aside0.mk (hbox); have n2_ := Aside0.mk ((by rw [hg]; exact (below_size (by repeat (first | (with_reducible first | exact HB.out | apply below_alloc | apply pw_below_drewN | apply below_drew1) | exact HB.out))) : w.heap.size ≤ gb202)); have n3_ := Aside0.mk ((by rw [hg]; exact (below_size (by repeat (first | (with_reducible first | exact HB.out | apply below_alloc | apply pw_below_drewN | apply below_drew1) | exact HB.out))) : w.heap.size ≤ gb202)); clear HB; have HB := n0_; have BK202 := n1_; have GW202 := n2_; have GE202 := n3_; clear n0_ n1_ n2_ n3_; clear hb hbox hg; have hcz14_0 : w13.cell? ⟨gb202, 0, none⟩ = some (.string a0_0) := (blk_cell BK202.out 0).trans rfl; have hfz14_0 := blk_frozen BK202.out 0; have p4 : 0 ≤ (0 : Int) := (by omega); have q4 : 0 < a0_0.size := (by have : (0 : Int) < (a0_0.size : Int) := of_decide_eq_true (by first | (with_reducible assumption) | assumption); omega); have hx4 : ∀ h : 0 < a0_0.size, ((a0_0[0]'h).toNat : Int) = bt a0_0 0 := bt_at a0_0 0; clear p4; have qi4 : (0 < (a0_0.size : Int)) = True := eq_true (of_decide_eq_true (by first | (with_reducible assumption) | assumption)); replace q4 := eq_true q4))
        go_ret
        exact ⟨by first | rfl | (simp [errV_none, errV_some] <;> rfl) | (simp [*, errV_none, errV_some] <;> rfl), by repeat (first | (with_reducible first | exact HB.out | apply below_alloc | apply pw_below_drewN | apply below_drew1 | refine below_set ?_ GE202.out) | exact HB.out)⟩
    · rw [if_neg c3] at H
      exact absurd H (by simp)
  · rw [if_neg c2] at H
    have c2b0 : ((a0_0.size : Int) == 34) = false := beq_eq_false_iff_ne.mpr c2
    have c2b1 : ((a0_0.size : Int) != 34) = true := bne_iff_ne.mpr c2
    obtain rfl := Option.some.inj H
    go_enter Tryd.func36, Tryd.ntmps36
    go_wp2_with (first | ((with_reducible refine gate_dst (N := 1) rfl ?_); refine box_event ?hg (N := 1) ?hd (cs := #[.string a0_0]) (t := 47) ?hr ?_; (case hd => rfl); (case hg => rfl); (case hr => first | (go_simp; done) | (go_simp; rfl)); intro gb202 hg w15 hbox hb; have n0_ := Aside0.mk (below_step (by repeat (first | (with_reducible first | exact HB.out | apply below_alloc | apply pw_below_drewN | apply below_drew1) | exact HB.out)) hb); have n1_ := Aside0.mk (hbox); have n2_ := Aside0.mk ((by rw [hg]; exact (below_size (by repeat (first | (with_reducible first | exact HB.out | apply below_alloc | apply pw_below_drewN | apply below_drew1) | exact HB.out))) : w.heap.size ≤ gb202)); have n3_ := Aside0.mk ((by rw [hg]; exact (below_size (by repeat (first | (with_reducible first | exact HB.out | apply below_alloc | apply pw_below_drewN | apply below_drew1) | exact HB.out))) : w.heap.size ≤ gb202)); clear HB; have HB := n0_; have BK202 := n1_; have GW202 := n2_; have GE202 := n3_; clear n0_ n1_ n2_ n3_; clear hb hbox hg; have hcz16_0 : w15.cell? ⟨gb202, 0, none⟩ = some (.string a0_0) := (blk_cell BK202.out 0).trans rfl; have hfz16_0 := blk_frozen BK202.out 0))
    go_ret
    exact ⟨by first | rfl | (simp [errV_none, errV_some] <;> rfl) | (simp [*, errV_none, errV_some] <;> rfl), by repeat (first | (with_reducible first | exact HB.out | apply below_alloc | apply pw_below_drewN | apply below_drew1 | refine below_set ?_ GE202.out) | exact HB.out)⟩

end Go.Proofs.YtbmeegkgcipmoaaDoor.PFnCidSafeFirst
