/- Printed by a program of this session (it drives the print of the kit, with contracts proved by hand beside): the Go functions of one law as Lean functions, and that the Go code comes to what they say. -/
import Derived.Test.YteekkpofcbcikaaDoorPWanx0
import Derived.Test.YteekkpofcbcikaaDoorPWanx2
import Derived.Test.YteekkpofcbcikaaDoorPWanx6
namespace Go.Proofs.YteekkpofcbcikaaDoor.PWan
open Go.RowKit Go.Proofs.YteekkpofcbcikaaDoorL Go.Proofs.YteekkpofcbcikaaDoorW.PrintWords Go.Proofs.YteekkpofcbcikaaDoorW.PrintLast Go.Proofs.YteekkpofcbcikaaDoorW.PrintMore
attribute [local go_sem] max2_int min2_int max_two min_two max_three min_three max_four min_four   -- for this text's walks alone
set_option linter.unusedVariables false
set_option linter.unusedSimpArgs false

/-! ### gocid_Cast: function 35 -/
def gocid_Cast.f (k : Nat) (l0 : List Int) : Option (ByteArray × Option Int) := (gocid_CidFromBytes.f k l0).bind fun bt198 => (if bt198.2.2.isNone = true then (if bt198.1 = (l0.length : Int) then (some (bt198.2.1, none)) else ((errors_New.f (⟨#[116, 114, 97, 105, 108, 105, 110, 103, 32, 98, 121, 116, 101, 115, 32, 105, 110, 32, 100, 97, 116, 97, 32, 98, 117, 102, 102, 101, 114, 32, 112, 97, 115, 115, 101, 100, 32, 116, 111, 32, 99, 105, 100, 32, 67, 97, 115, 116]⟩ : ByteArray)).bind fun t203 => (none))) else (none))
theorem gocid_Cast.mono : ∀ a0 k, LeO (gocid_Cast.f k a0) (gocid_Cast.f (k + 1) a0) := by
  intro a0 k
  unfold gocid_Cast.f
  repeat' first
      | (with_reducible exact gocid_CidFromBytes.mono _ _)
      | (with_reducible exact LeO.refl _)
      | (with_reducible exact LeO.none _)
      | (with_reducible refine LeO.ite ?_ ?_)
      | (with_reducible refine LeO.bind ?_ (fun _ => ?_))
      | exact gocid_CidFromBytes.mono _ _
      | exact LeO.none _
      | refine LeO.ite ?_ ?_
      | refine LeO.bind ?_ (fun _ => ?_)
set_option maxHeartbeats 8000000 in
set_option maxRecDepth 100000 in
theorem gocid_Cast.calls (k : Nat) (A0 : Option Addr) (c0 : Nat) (l0 : List Int) (r1 : ByteArray) (r2 : Option Int) (w : World) (hr0 : Kd.C (Kd.int .u8) w A0 l0.length l0) (hc0 : l0.length ≤ c0) (h : gocid_Cast.f k l0 = some (r1, r2)) :
    Calls Tryd.prog 35 #[.slice A0 l0.length c0] w fun e w' => ExE fun eT1_ eX1_ => e = .returned (.tuple #[.agg #[.string r1], errV r2 eT1_ eX1_]) ∧ Below w.heap.size w w' := by
  have hu81 := Tryd.underlying81
  have hu83 := Tryd.underlying83
  have HR0 := Aside0.mk hr0
  have HC0 := Aside0.mk hc0
  clear hr0 hc0
  have HB := Aside0.mk (Below.refl w.heap.size w)
  have H : ((gocid_CidFromBytes.f k l0).bind fun bt198 => (if bt198.2.2.isNone = true then (if bt198.1 = (l0.length : Int) then (some (bt198.2.1, none)) else ((errors_New.f (⟨#[116, 114, 97, 105, 108, 105, 110, 103, 32, 98, 121, 116, 101, 115, 32, 105, 110, 32, 100, 97, 116, 97, 32, 98, 117, 102, 102, 101, 114, 32, 112, 97, 115, 115, 101, 100, 32, 116, 111, 32, 99, 105, 100, 32, 67, 97, 115, 116]⟩ : ByteArray)).bind fun t203 => (none))) else (none))) = some (r1, r2) := h
  clear h
  replace H := Option.bind_eq_some_iff.mp H
  obtain ⟨⟨t198, t199, t200⟩, A20, H⟩ := H
  replace H : (if t200.isNone = true then (if t198 = (l0.length : Int) then (some (t199, none)) else ((errors_New.f (⟨#[116, 114, 97, 105, 108, 105, 110, 103, 32, 98, 121, 116, 101, 115, 32, 105, 110, 32, 100, 97, 116, 97, 32, 98, 117, 102, 102, 101, 114, 32, 112, 97, 115, 115, 101, 100, 32, 116, 111, 32, 99, 105, 100, 32, 67, 97, 115, 116]⟩ : ByteArray)).bind fun t203 => (none))) else (none)) = some (r1, r2) := H
  have A2 := Aside0.mk A20
  clear A20
  rcases t200 with _ | q202
  · have H1 : (if t198 = (l0.length : Int) then (some (t199, none)) else ((errors_New.f (⟨#[116, 114, 97, 105, 108, 105, 110, 103, 32, 98, 121, 116, 101, 115, 32, 105, 110, 32, 100, 97, 116, 97, 32, 98, 117, 102, 102, 101, 114, 32, 112, 97, 115, 115, 101, 100, 32, 116, 111, 32, 99, 105, 100, 32, 67, 97, 115, 116]⟩ : ByteArray)).bind fun t203 => (none))) = some (r1, r2) := by rw [if_pos (show (none : Option Int).isNone = true by rfl)] at H; exact H
    clear H
    have H := H1
    clear H1
    try simp only [errV_none, errV_some]
    by_cases c3 : t198 = (l0.length : Int)
    · rw [if_pos c3] at H
      have c3b0 : (t198 == (l0.length : Int)) = true := beq_iff_eq.mpr c3
      have c3b1 : (t198 != (l0.length : Int)) = false := bne_eq_false_iff_eq.mpr c3
      clear c3
      simp only [Option.some.injEq, Prod.mk.injEq] at H
      obtain ⟨rfl, rfl⟩ := H
      go_enter Tryd.func35, Tryd.ntmps35
      go_wp2_with (first | ((with_reducible refine gate_dst (N := 2) rfl ?_); refine box_event ?hg (N := 2) ?hd (cs := #[.string (⟨#[]⟩ : ByteArray)]) (t := 81) ?hr ?_; (case hd => rfl); (case hg => rfl); (case hr => first | (go_simp; done) | (go_simp; rfl)); intro gb197 hg w4 hbox hb; have n0_ := Aside0.mk (below_step (by repeat (first | (with_reducible first | exact HB.out | apply below_alloc | apply pw_below_drewN | apply below_drew1) | exact HB.out)) hb); have n1_ := Aside0.mk (hbox); have n2_ := Aside0.mk ((by rw [hg]; exact (below_size (by repeat (first | (with_reducible first | exact HB.out | apply below_alloc | apply pw_below_drewN | apply below_drew1) | exact HB.out))) : w.heap.size ≤ gb197)); have n3_ := Aside0.mk ((by rw [hg]; exact (below_size (by repeat (first | (with_reducible first | exact HB.out | apply below_alloc | apply pw_below_drewN | apply below_drew1) | exact HB.out))) : w.heap.size ≤ gb197)); clear HB; have HB := n0_; have BK197 := n1_; have GW197 := n2_; have GE197 := n3_; clear n0_ n1_ n2_ n3_; clear hb hbox hg) | ((with_reducible refine gate_callee (f := 75) rfl ?_); refine goesL_ (some 9) rfl rfl Tryd.func75 (by kernel_rfl) rfl #[.slice A0 l0.length c0] rfl (by (try simp only [List.map_toArray, List.map_cons, List.map_nil]); first | done | rfl | (simp only [List.length_drop, List.length_take]; rfl)) ?_; (with_reducible refine (gocid_CidFromBytes.calls k _ _ l0 t198 t199 none _ ?side1 ?side2 A2.out).mono ?_); (case side1 => repeat (first | exact (Kd.C_below HR0.out HB.out) | (with_reducible refine Kd.C_alloc ?_ _) | (with_reducible refine Kd.C_drewN ?_ _) | (with_reducible refine Kd.C_drew ?_))); (case side2 => exact HC0.out); rintro e w5 ⟨eT_t200, eX_t200, rfl, hb⟩; refine ⟨_, rfl, ?_⟩; have n0_ := Aside0.mk (blk_below (g := gb197) (o := .cells #[.string (⟨#[]⟩ : ByteArray)] 81 (0, 0)) (by (with_reducible repeat (first | refine blk_drewN ?_ _ | refine blk_drew ?_ | refine blk_alloc ?_ _)); exact BK197.out) hb); have n1_ := Aside0.mk (below_step (by repeat (first | (with_reducible first | exact HB.out | apply below_alloc | apply pw_below_drewN | apply below_drew1 | refine below_set ?_ GE197.out) | exact HB.out)) hb); clear BK197; clear HB; have BK197 := n0_; have HB := n1_; clear n0_ n1_; (try clear hb); (try clear hb2); (try clear hk); (try clear hi); (try simp only [errV_none, errV_some])) | ((with_reducible refine gate_dst (N := 5) rfl ?_); refine box_event ?hg (N := 5) ?hd (cs := #[.string (⟨#[]⟩ : ByteArray)]) (t := 81) ?hr ?_; (case hd => rfl); (case hg => rfl); (case hr => first | (go_simp; done) | (go_simp; rfl)); intro gb201 hg w6 hbox hb; have n0_ := Aside0.mk (blk_below (g := gb197) (o := .cells #[.string (⟨#[]⟩ : ByteArray)] 81 (0, 0)) (by (with_reducible repeat (first | refine blk_drewN ?_ _ | refine blk_drew ?_ | refine blk_alloc ?_ _)); exact BK197.out) hb); have n1_ := Aside0.mk (below_step (by repeat (first | (with_reducible first | exact HB.out | apply below_alloc | apply pw_below_drewN | apply below_drew1 | refine below_set ?_ GE197.out) | exact HB.out)) hb); have n2_ := Aside0.mk (hbox); have n3_ := Aside0.mk ((by rw [hg]; exact (below_size (by repeat (first | (with_reducible first | exact HB.out | apply below_alloc | apply pw_below_drewN | apply below_drew1 | refine below_set ?_ GE197.out) | exact HB.out))) : w.heap.size ≤ gb201)); have n4_ := Aside0.mk ((by rw [hg]; exact (below_size (by repeat (first | (with_reducible first | exact HB.out | apply below_alloc | apply pw_below_drewN | apply below_drew1 | refine below_set ?_ GE197.out) | exact HB.out))) : w.heap.size ≤ gb201)); have n5_ := Aside0.mk ((by rw [hg]; exact Nat.ne_of_lt (blk_lt (g := gb197) (o := .cells #[.string (⟨#[]⟩ : ByteArray)] 81 (0, 0)) (by (with_reducible repeat (first | refine blk_drewN ?_ _ | refine blk_drew ?_ | refine blk_alloc ?_ _)); exact BK197.out)) : gb197 ≠ gb201)); have n6_ := Aside0.mk ((by rw [hg]; exact Nat.ne_of_gt (blk_lt (g := gb197) (o := .cells #[.string (⟨#[]⟩ : ByteArray)] 81 (0, 0)) (by (with_reducible repeat (first | refine blk_drewN ?_ _ | refine blk_drew ?_ | refine blk_alloc ?_ _)); exact BK197.out)) : gb201 ≠ gb197)); clear BK197; clear HB; have BK197 := n0_; have HB := n1_; have BK201 := n2_; have GW201 := n3_; have GE201 := n4_; have NB197_201 := n5_; have NB201_197 := n6_; clear n0_ n1_ n2_ n3_ n4_ n5_ n6_; clear hb hbox hg; have hnb7 := NB201_197.out; have hnc7 := NB197_201.out; have hcz8_0 : w6.cell? ⟨gb201, 0, none⟩ = some (.string (⟨#[]⟩ : ByteArray)) := (blk_cell BK201.out 0).trans rfl; have hfz8_0 := blk_frozen BK201.out 0; have hcz9_0 : w6.cell? ⟨gb197, 0, none⟩ = some (.string (⟨#[]⟩ : ByteArray)) := (blk_cell BK197.out 0).trans rfl; have hfz9_0 := blk_frozen BK197.out 0))
      refine bodyPost_ret (results_ct rfl _ _ gb197 81 #[.string t199] (0, 0) _ rfl (by (with_reducible repeat (first | refine blk_drewN ?_ _ | refine blk_drew ?_ | refine blk_alloc ?_ _)); refine blk_put (cs := #[.string (⟨#[]⟩ : ByteArray)]) ?_ 0 _ rfl; (with_reducible repeat (first | refine blk_drewN ?_ _ | refine blk_drew ?_ | refine blk_alloc ?_ _)); refine blk_far ?_ NB197_201.out _; (with_reducible repeat (first | refine blk_drewN ?_ _ | refine blk_drew ?_ | refine blk_alloc ?_ _)); exact BK197.out) Tryd.underlying81 rfl (by kernel_rfl)) rfl ?_
      exact ExE.intro 0 .nilIface (⟨by first | rfl | (simp [errV_none, errV_some] <;> rfl) | (simp [*, errV_none, errV_some] <;> rfl), by repeat (first | (with_reducible first | exact HB.out | apply below_alloc | apply pw_below_drewN | apply below_drew1 | refine below_set ?_ GE197.out | refine below_set ?_ GE201.out) | exact HB.out)⟩)
    · rw [if_neg c3] at H
      have c3b0 : (t198 == (l0.length : Int)) = false := beq_eq_false_iff_ne.mpr c3
      have c3b1 : (t198 != (l0.length : Int)) = true := bne_iff_ne.mpr c3
      replace H := Option.bind_eq_some_iff.mp H
      obtain ⟨t203, A100, H⟩ := H
      replace H : (none) = some (r1, r2) := H
      have A10 := Aside0.mk A100
      clear A100
      exact absurd H (by simp)
  · have H1 : (none) = some (r1, r2) := by rw [if_neg (show ¬ (some q202).isNone = true by simp)] at H; exact H
    clear H
    have H := H1
    clear H1
    try simp only [errV_none, errV_some]
    exact absurd H (by simp)

-- NOT PRINTED: function 77 (wantlist_Wantlist_put)

-- NOT PRINTED: function 36 (wantlist_Wantlist_Add)

/-! ### impl_wantType: function 37 -/
def impl_wantType.f (a0 : Bool) : Option (Int) := if a0 = true then (some 1) else (some 0)
set_option maxHeartbeats 8000000 in
set_option maxRecDepth 100000 in
theorem impl_wantType.calls (a0 : Bool) (r : Int) (w : World) (h : impl_wantType.f a0 = some r) :
    Calls Tryd.prog 37 #[.bool a0] w fun e w' => e = .returned (.int .i32 r) ∧ Drawn0 w w' := by
  have H : (if a0 = true then (some 1) else (some 0)) = some r := h
  clear h
  by_cases c2 : a0 = true
  · subst c2
    have H1 : (some 1) = some r := by rw [if_pos rfl] at H; exact H
    clear H
    have H := H1
    clear H1
    obtain rfl := Option.some.inj H
    go_enter Tryd.func37, Tryd.ntmps37
    go_wp2
    go_ret
    exact ⟨by first | rfl | (simp; done) | (simp [*]; done), by repeat (first | exact Drawn0.refl _ | apply Drawn0.step)⟩
  · replace c2 := Bool.eq_false_iff.mpr c2
    subst c2
    have H1 : (some 0) = some r := by rw [if_neg (show ¬ (false = true) by decide)] at H; exact H
    clear H
    have H := H1
    clear H1
    obtain rfl := Option.some.inj H
    go_enter Tryd.func37, Tryd.ntmps37
    go_wp2
    go_ret
    exact ⟨by first | rfl | (simp; done) | (simp [*]; done), by repeat (first | exact Drawn0.refl _ | apply Drawn0.step)⟩

-- NOT PRINTED: function 78 (wantlist_Wantlist_delete)

-- NOT PRINTED: function 38 (wantlist_Wantlist_Remove)

-- NOT PRINTED: function 39 (wantlist_Wantlist_RemoveType)

-- NOT PRINTED: function 40 (wantlist_Wantlist_Contains)

/-! ### gocid_Cid_Defined: function 111, by hand -/
-- HAND (pub-tholos/pub/gocid.Cid).Defined
-- making: yes
/-- Told by hand elsewhere. -/
def gocid_Cid_Defined.f : Unit := ()


-- NOT PRINTED: function 79 (gocid_Cid_Bytes)

-- NOT PRINTED: function 41 (impl_plainEntry)

-- NOT PRINTED: function 42 (wantlist_Wantlist_Len)

/-! ### impl_Wanted: function 10, by hand -/
-- HAND pub-tholos/impl.Wanted
-- making: yes
/-- Told by hand elsewhere: here for its kinds alone. -/
def impl_Wanted.f (l0 : List S31) : Option (List S36) := none


/-! ### bytes_Equal: function 28 -/
def bytes_Equal.f (l0 : List Int) (l1 : List Int) : Option (Bool) := some ((strOfNums l0).toList == (strOfNums l1).toList)
set_option maxHeartbeats 8000000 in
set_option maxRecDepth 100000 in
theorem bytes_Equal.calls (A0 : Option Addr) (c0 : Nat) (l0 : List Int) (A1 : Option Addr) (c1 : Nat) (l1 : List Int) (r : Bool) (w : World) (hr0 : Kd.C (Kd.int .u8) w A0 l0.length l0) (hc0 : l0.length ≤ c0) (hr1 : Kd.C (Kd.int .u8) w A1 l1.length l1) (hc1 : l1.length ≤ c1) (h : bytes_Equal.f l0 l1 = some r) :
    Calls Tryd.prog 28 #[.slice A0 l0.length c0, .slice A1 l1.length c1] w fun e w' => e = .returned (.bool r) ∧ Drawn0 w w' := by
  have HR0 := Aside0.mk hr0
  have HC0 := Aside0.mk hc0
  clear hr0 hc0
  have HR1 := Aside0.mk hr1
  have HC1 := Aside0.mk hc1
  clear hr1 hc1
  have H : (some ((strOfNums l0).toList == (strOfNums l1).toList)) = some r := h
  clear h
  obtain rfl := Option.some.inj H
  have hcv3 := Kd.C_string (P := Tryd.prog) (A := A0) (c := c0) Tryd.underlying24 Tryd.underlying5 Tryd.underlying9 HR0.out
  have hcv4 := Kd.C_string (P := Tryd.prog) (A := A1) (c := c1) Tryd.underlying24 Tryd.underlying5 Tryd.underlying9 HR1.out
  go_enter Tryd.func28, Tryd.ntmps28
  go_wp2
  go_ret
  exact ⟨by first | rfl | (simp; done) | (simp [*]; done), by repeat (first | exact Drawn0.refl _ | apply Drawn0.step)⟩

/-! ### laws_sameEntry: function 11 -/
def laws_sameEntry.f (l0_0 : List Int) (a0_1 : Int) (a0_2 : Bool) (l1_0 : List Int) (a1_1 : Int) (a1_2 : Bool) : Option (Bool) := (bytes_Equal.f l0_0 l1_0).bind fun t210 => (if t210 = true then (if a0_1 = a1_1 then (some (a0_2 == a1_2)) else (some false)) else (some false))
set_option maxHeartbeats 8000000 in
set_option maxRecDepth 100000 in
theorem laws_sameEntry.calls (A0_0 : Option Addr) (c0_0 : Nat) (l0_0 : List Int) (a0_1 : Int) (a0_2 : Bool) (A1_0 : Option Addr) (c1_0 : Nat) (l1_0 : List Int) (a1_1 : Int) (a1_2 : Bool) (r : Bool) (w : World) (hr0_0 : Kd.C (Kd.int .u8) w A0_0 l0_0.length l0_0) (hc0_0 : l0_0.length ≤ c0_0) (hr1_0 : Kd.C (Kd.int .u8) w A1_0 l1_0.length l1_0) (hc1_0 : l1_0.length ≤ c1_0) (h : laws_sameEntry.f l0_0 a0_1 a0_2 l1_0 a1_1 a1_2 = some r) :
    Calls Tryd.prog 11 #[.agg #[.slice A0_0 l0_0.length c0_0, .int .i32 a0_1, .bool a0_2], .agg #[.slice A1_0 l1_0.length c1_0, .int .i32 a1_1, .bool a1_2]] w fun e w' => e = .returned (.bool r) ∧ Below w.heap.size w w' := by
  have hu27 := Tryd.underlying27
  have HR0_0 := Aside0.mk hr0_0
  have HC0_0 := Aside0.mk hc0_0
  clear hr0_0 hc0_0
  have HR1_0 := Aside0.mk hr1_0
  have HC1_0 := Aside0.mk hc1_0
  clear hr1_0 hc1_0
  have HB := Aside0.mk (Below.refl w.heap.size w)
  have H : ((bytes_Equal.f l0_0 l1_0).bind fun t210 => (if t210 = true then (if a0_1 = a1_1 then (some (a0_2 == a1_2)) else (some false)) else (some false))) = some r := h
  clear h
  replace H := Option.bind_eq_some_iff.mp H
  obtain ⟨t210, A30, H⟩ := H
  replace H : (if t210 = true then (if a0_1 = a1_1 then (some (a0_2 == a1_2)) else (some false)) else (some false)) = some r := H
  have A3 := Aside0.mk A30
  clear A30
  by_cases c4 : t210 = true
  · subst c4
    have H1 : (if a0_1 = a1_1 then (some (a0_2 == a1_2)) else (some false)) = some r := by rw [if_pos rfl] at H; exact H
    clear H
    have H := H1
    clear H1
    by_cases c5 : a0_1 = a1_1
    · rw [if_pos c5] at H
      have c5b0 : (a0_1 == a1_1) = true := beq_iff_eq.mpr c5
      have c5b1 : (a0_1 != a1_1) = false := bne_eq_false_iff_eq.mpr c5
      clear c5
      obtain rfl := Option.some.inj H
      go_enter Tryd.func11, Tryd.ntmps11
      go_wp2_with (first | ((with_reducible refine gate_dst (N := 2) rfl ?_); refine box_event ?hg (N := 2) ?hd (cs := #[.slice A0_0 l0_0.length c0_0, .int .i32 a0_1, .bool a0_2]) (t := 27) ?hr ?_; (case hd => rfl); (case hg => rfl); (case hr => first | (go_simp; done) | (go_simp; rfl)); intro gb208 hg w6 hbox hb; have n0_ := Aside0.mk (below_step (by repeat (first | (with_reducible first | exact HB.out | apply below_alloc | apply pw_below_drewN | apply below_drew1) | exact HB.out)) hb); have n1_ := Aside0.mk (hbox); have n2_ := Aside0.mk ((by rw [hg]; exact (below_size (by repeat (first | (with_reducible first | exact HB.out | apply below_alloc | apply pw_below_drewN | apply below_drew1) | exact HB.out))) : w.heap.size ≤ gb208)); have n3_ := Aside0.mk ((by rw [hg]; exact (below_size (by repeat (first | (with_reducible first | exact HB.out | apply below_alloc | apply pw_below_drewN | apply below_drew1) | exact HB.out))) : w.heap.size ≤ gb208)); clear HB; have HB := n0_; have BK208 := n1_; have GW208 := n2_; have GE208 := n3_; clear n0_ n1_ n2_ n3_; clear hb hbox hg) | ((with_reducible refine gate_dst (N := 3) rfl ?_); refine box_event ?hg (N := 3) ?hd (cs := #[.slice A1_0 l1_0.length c1_0, .int .i32 a1_1, .bool a1_2]) (t := 27) ?hr ?_; (case hd => rfl); (case hg => rfl); (case hr => first | (go_simp; done) | (go_simp; rfl)); intro gb209 hg w7 hbox hb; have n0_ := Aside0.mk (blk_below (g := gb208) (o := .cells #[.slice A0_0 l0_0.length c0_0, .int .i32 a0_1, .bool a0_2] 27 (0, 0)) (by (with_reducible repeat (first | refine blk_drewN ?_ _ | refine blk_drew ?_ | refine blk_alloc ?_ _)); exact BK208.out) hb); have n1_ := Aside0.mk (below_step (by repeat (first | (with_reducible first | exact HB.out | apply below_alloc | apply pw_below_drewN | apply below_drew1 | refine below_set ?_ GE208.out) | exact HB.out)) hb); have n2_ := Aside0.mk (hbox); have n3_ := Aside0.mk ((by rw [hg]; exact (below_size (by repeat (first | (with_reducible first | exact HB.out | apply below_alloc | apply pw_below_drewN | apply below_drew1 | refine below_set ?_ GE208.out) | exact HB.out))) : w.heap.size ≤ gb209)); have n4_ := Aside0.mk ((by rw [hg]; exact (below_size (by repeat (first | (with_reducible first | exact HB.out | apply below_alloc | apply pw_below_drewN | apply below_drew1 | refine below_set ?_ GE208.out) | exact HB.out))) : w.heap.size ≤ gb209)); have n5_ := Aside0.mk ((by rw [hg]; exact Nat.ne_of_lt (blk_lt (g := gb208) (o := .cells #[.slice A0_0 l0_0.length c0_0, .int .i32 a0_1, .bool a0_2] 27 (0, 0)) (by (with_reducible repeat (first | refine blk_drewN ?_ _ | refine blk_drew ?_ | refine blk_alloc ?_ _)); exact BK208.out)) : gb208 ≠ gb209)); have n6_ := Aside0.mk ((by rw [hg]; exact Nat.ne_of_gt (blk_lt (g := gb208) (o := .cells #[.slice A0_0 l0_0.length c0_0, .int .i32 a0_1, .bool a0_2] 27 (0, 0)) (by (with_reducible repeat (first | refine blk_drewN ?_ _ | refine blk_drew ?_ | refine blk_alloc ?_ _)); exact BK208.out)) : gb209 ≠ gb208)); clear BK208; clear HB; have BK208 := n0_; have HB := n1_; have BK209 := n2_; have GW209 := n3_; have GE209 := n4_; have NB208_209 := n5_; have NB209_208 := n6_; clear n0_ n1_ n2_ n3_ n4_ n5_ n6_; clear hb hbox hg; have hnb8 := NB208_209.out; have hnc8 := NB209_208.out; have hcz9_0 : w7.cell? ⟨gb208, 0, none⟩ = some (.slice A0_0 l0_0.length c0_0) := (blk_cell BK208.out 0).trans rfl; have hcz9_1 : w7.cell? ⟨gb208, 1, none⟩ = some (.int .i32 a0_1) := (blk_cell BK208.out 1).trans rfl; have hcz9_2 : w7.cell? ⟨gb208, 2, none⟩ = some (.bool a0_2) := (blk_cell BK208.out 2).trans rfl; have hfz9_0 := blk_frozen BK208.out 0; have hfz9_1 := blk_frozen BK208.out 1; have hfz9_2 := blk_frozen BK208.out 2; have hcz10_0 : w7.cell? ⟨gb209, 0, none⟩ = some (.slice A1_0 l1_0.length c1_0) := (blk_cell BK209.out 0).trans rfl; have hcz10_1 : w7.cell? ⟨gb209, 1, none⟩ = some (.int .i32 a1_1) := (blk_cell BK209.out 1).trans rfl; have hcz10_2 : w7.cell? ⟨gb209, 2, none⟩ = some (.bool a1_2) := (blk_cell BK209.out 2).trans rfl; have hfz10_0 := blk_frozen BK209.out 0; have hfz10_1 := blk_frozen BK209.out 1; have hfz10_2 := blk_frozen BK209.out 2) | ((with_reducible refine gate_callee (f := 28) rfl ?_); refine goesL_ (some 9) rfl rfl Tryd.func28 (by kernel_rfl) rfl #[.slice A0_0 l0_0.length c0_0, .slice A1_0 l1_0.length c1_0] rfl (by (try simp only [List.map_toArray, List.map_cons, List.map_nil]); first | done | rfl | (simp only [List.length_drop, List.length_take]; rfl)) ?_; (with_reducible refine (bytes_Equal.calls _ _ l0_0 _ _ l1_0 true _ ?side1 ?side2 ?side3 ?side4 A3.out).mono ?_); (case side1 => repeat (first | exact (Kd.C_below HR0_0.out HB.out) | (with_reducible refine Kd.C_alloc ?_ _) | (with_reducible refine Kd.C_drewN ?_ _) | (with_reducible refine Kd.C_drew ?_))); (case side2 => exact HC0_0.out); (case side3 => repeat (first | exact (Kd.C_below HR1_0.out HB.out) | (with_reducible refine Kd.C_alloc ?_ _) | (with_reducible refine Kd.C_drewN ?_ _) | (with_reducible refine Kd.C_drew ?_))); (case side4 => exact HC1_0.out); rintro e w' ⟨rfl, ⟨nd, rfl⟩⟩; refine ⟨_, rfl, ?_⟩))
      go_ret
      exact ⟨by first | rfl | (simp [errV_none, errV_some] <;> rfl) | (simp [*, errV_none, errV_some] <;> rfl), by repeat (first | (with_reducible first | exact HB.out | apply below_alloc | apply pw_below_drewN | apply below_drew1 | refine below_set ?_ GE208.out | refine below_set ?_ GE209.out) | exact HB.out)⟩
    · rw [if_neg c5] at H
      have c5b0 : (a0_1 == a1_1) = false := beq_eq_false_iff_ne.mpr c5
      have c5b1 : (a0_1 != a1_1) = true := bne_iff_ne.mpr c5
      obtain rfl := Option.some.inj H
      go_enter Tryd.func11, Tryd.ntmps11
      go_wp2_with (first | ((with_reducible refine gate_dst (N := 2) rfl ?_); refine box_event ?hg (N := 2) ?hd (cs := #[.slice A0_0 l0_0.length c0_0, .int .i32 a0_1, .bool a0_2]) (t := 27) ?hr ?_; (case hd => rfl); (case hg => rfl); (case hr => first | (go_simp; done) | (go_simp; rfl)); intro gb208 hg w11 hbox hb; have n0_ := Aside0.mk (below_step (by repeat (first | (with_reducible first | exact HB.out | apply below_alloc | apply pw_below_drewN | apply below_drew1) | exact HB.out)) hb); have n1_ := Aside0.mk (hbox); have n2_ := Aside0.mk ((by rw [hg]; exact (below_size (by repeat (first | (with_reducible first | exact HB.out | apply below_alloc | apply pw_below_drewN | apply below_drew1) | exact HB.out))) : w.heap.size ≤ gb208)); have n3_ := Aside0.mk ((by rw [hg]; exact (below_size (by repeat (first | (with_reducible first | exact HB.out | apply below_alloc | apply pw_below_drewN | apply below_drew1) | exact HB.out))) : w.heap.size ≤ gb208)); clear HB; have HB := n0_; have BK208 := n1_; have GW208 := n2_; have GE208 := n3_; clear n0_ n1_ n2_ n3_; clear hb hbox hg) | ((with_reducible refine gate_dst (N := 3) rfl ?_); refine box_event ?hg (N := 3) ?hd (cs := #[.slice A1_0 l1_0.length c1_0, .int .i32 a1_1, .bool a1_2]) (t := 27) ?hr ?_; (case hd => rfl); (case hg => rfl); (case hr => first | (go_simp; done) | (go_simp; rfl)); intro gb209 hg w12 hbox hb; have n0_ := Aside0.mk (blk_below (g := gb208) (o := .cells #[.slice A0_0 l0_0.length c0_0, .int .i32 a0_1, .bool a0_2] 27 (0, 0)) (by (with_reducible repeat (first | refine blk_drewN ?_ _ | refine blk_drew ?_ | refine blk_alloc ?_ _)); exact BK208.out) hb); have n1_ := Aside0.mk (below_step (by repeat (first | (with_reducible first | exact HB.out | apply below_alloc | apply pw_below_drewN | apply below_drew1 | refine below_set ?_ GE208.out) | exact HB.out)) hb); have n2_ := Aside0.mk (hbox); have n3_ := Aside0.mk ((by rw [hg]; exact (below_size (by repeat (first | (with_reducible first | exact HB.out | apply below_alloc | apply pw_below_drewN | apply below_drew1 | refine below_set ?_ GE208.out) | exact HB.out))) : w.heap.size ≤ gb209)); have n4_ := Aside0.mk ((by rw [hg]; exact (below_size (by repeat (first | (with_reducible first | exact HB.out | apply below_alloc | apply pw_below_drewN | apply below_drew1 | refine below_set ?_ GE208.out) | exact HB.out))) : w.heap.size ≤ gb209)); have n5_ := Aside0.mk ((by rw [hg]; exact Nat.ne_of_lt (blk_lt (g := gb208) (o := .cells #[.slice A0_0 l0_0.length c0_0, .int .i32 a0_1, .bool a0_2] 27 (0, 0)) (by (with_reducible repeat (first | refine blk_drewN ?_ _ | refine blk_drew ?_ | refine blk_alloc ?_ _)); exact BK208.out)) : gb208 ≠ gb209)); have n6_ := Aside0.mk ((by rw [hg]; exact Nat.ne_of_gt (blk_lt (g := gb208) (o := .cells #[.slice A0_0 l0_0.length c0_0, .int .i32 a0_1, .bool a0_2] 27 (0, 0)) (by (with_reducible repeat (first | refine blk_drewN ?_ _ | refine blk_drew ?_ | refine blk_alloc ?_ _)); exact BK208.out)) : gb209 ≠ gb208)); clear BK208; clear HB; have BK208 := n0_; have HB := n1_; have BK209 := n2_; have GW209 := n3_; have GE209 := n4_; have NB208_209 := n5_; have NB209_208 := n6_; clear n0_ n1_ n2_ n3_ n4_ n5_ n6_; clear hb hbox hg; have hnb13 := NB208_209.out; have hnc13 := NB209_208.out; have hcz14_0 : w12.cell? ⟨gb208, 0, none⟩ = some (.slice A0_0 l0_0.length c0_0) := (blk_cell BK208.out 0).trans rfl; have hcz14_1 : w12.cell? ⟨gb208, 1, none⟩ = some (.int .i32 a0_1) := (blk_cell BK208.out 1).trans rfl; have hcz14_2 : w12.cell? ⟨gb208, 2, none⟩ = some (.bool a0_2) := (blk_cell BK208.out 2).trans rfl; have hfz14_0 := blk_frozen BK208.out 0; have hfz14_1 := blk_frozen BK208.out 1; have hfz14_2 := blk_frozen BK208.out 2; have hcz15_0 : w12.cell? ⟨gb209, 0, none⟩ = some (.slice A1_0 l1_0.length c1_0) := (blk_cell BK209.out 0).trans rfl; have hcz15_1 : w12.cell? ⟨gb209, 1, none⟩ = some (.int .i32 a1_1) := (blk_cell BK209.out 1).trans rfl; have hcz15_2 : w12.cell? ⟨gb209, 2, none⟩ = some (.bool a1_2) := (blk_cell BK209.out 2).trans rfl; have hfz15_0 := blk_frozen BK209.out 0; have hfz15_1 := blk_frozen BK209.out 1; have hfz15_2 := blk_frozen BK209.out 2) | ((with_reducible refine gate_callee (f := 28) rfl ?_); refine goesL_ (some 9) rfl rfl Tryd.func28 (by kernel_rfl) rfl #[.slice A0_0 l0_0.length c0_0, .slice A1_0 l1_0.length c1_0] rfl (by (try simp only [List.map_toArray, List.map_cons, List.map_nil]); first | done | rfl | (simp only [List.length_drop, List.length_take]; rfl)) ?_; (with_reducible refine (bytes_Equal.calls _ _ l0_0 _ _ l1_0 true _ ?side1 ?side2 ?side3 ?side4 A3.out).mono ?_); (case side1 => repeat (first | exact (Kd.C_below HR0_0.out HB.out) | (with_reducible refine Kd.C_alloc ?_ _) | (with_reducible refine Kd.C_drewN ?_ _) | (with_reducible refine Kd.C_drew ?_))); (case side2 => exact HC0_0.out); (case side3 => repeat (first | exact (Kd.C_below HR1_0.out HB.out) | (with_reducible refine Kd.C_alloc ?_ _) | (with_reducible refine Kd.C_drewN ?_ _) | (with_reducible refine Kd.C_drew ?_))); (case side4 => exact HC1_0.out); rintro e w' ⟨rfl, ⟨nd, rfl⟩⟩; refine ⟨_, rfl, ?_⟩))
      go_ret
      exact ⟨by first | rfl | (simp [errV_none, errV_some] <;> rfl) | (simp [*, errV_none, errV_some] <;> rfl), by repeat (first | (with_reducible first | exact HB.out | apply below_alloc | apply pw_below_drewN | apply below_drew1 | refine below_set ?_ GE208.out | refine below_set ?_ GE209.out) | exact HB.out)⟩
  · replace c4 := Bool.eq_false_iff.mpr c4
    subst c4
    have H1 : (some false) = some r := by rw [if_neg (show ¬ (false = true) by decide)] at H; exact H
    clear H
    have H := H1
    clear H1
    obtain rfl := Option.some.inj H
    go_enter Tryd.func11, Tryd.ntmps11
    go_wp2_with (first | ((with_reducible refine gate_dst (N := 2) rfl ?_); refine box_event ?hg (N := 2) ?hd (cs := #[.slice A0_0 l0_0.length c0_0, .int .i32 a0_1, .bool a0_2]) (t := 27) ?hr ?_; (case hd => rfl); (case hg => rfl); (case hr => first | (go_simp; done) | (go_simp; rfl)); intro gb208 hg w16 hbox hb; have n0_ := Aside0.mk (below_step (by repeat (first | (with_reducible first | exact HB.out | apply below_alloc | apply pw_below_drewN | apply below_drew1) | exact HB.out)) hb); have n1_ := Aside0.mk (hbox); have n2_ := Aside0.mk ((by rw [hg]; exact (below_size (by repeat (first | (with_reducible first | exact HB.out | apply below_alloc | apply pw_below_drewN | apply below_drew1) | exact HB.out))) : w.heap.size ≤ gb208)); have n3_ := Aside0.mk ((by rw [hg]; exact (below_size (by repeat (first | (with_reducible first | exact HB.out | apply below_alloc | apply pw_below_drewN | apply below_drew1) | exact HB.out))) : w.heap.size ≤ gb208)); clear HB; have HB := n0_; have BK208 := n1_; have GW208 := n2_; have GE208 := n3_; clear n0_ n1_ n2_ n3_; clear hb hbox hg) | ((with_reducible refine gate_dst (N := 3) rfl ?_); refine box_event ?hg (N := 3) ?hd (cs := #[.slice A1_0 l1_0.length c1_0, .int .i32 a1_1, .bool a1_2]) (t := 27) ?hr ?_; (case hd => rfl); (case hg => rfl); (case hr => first | (go_simp; done) | (go_simp; rfl)); intro gb209 hg w17 hbox hb; have n0_ := Aside0.mk (blk_below (g := gb208) (o := .cells #[.slice A0_0 l0_0.length c0_0, .int .i32 a0_1, .bool a0_2] 27 (0, 0)) (by (with_reducible repeat (first | refine blk_drewN ?_ _ | refine blk_drew ?_ | refine blk_alloc ?_ _)); exact BK208.out) hb); have n1_ := Aside0.mk (below_step (by repeat (first | (with_reducible first | exact HB.out | apply below_alloc | apply pw_below_drewN | apply below_drew1 | refine below_set ?_ GE208.out) | exact HB.out)) hb); have n2_ := Aside0.mk (hbox); have n3_ := Aside0.mk ((by rw [hg]; exact (below_size (by repeat (first | (with_reducible first | exact HB.out | apply below_alloc | apply pw_below_drewN | apply below_drew1 | refine below_set ?_ GE208.out) | exact HB.out))) : w.heap.size ≤ gb209)); have n4_ := Aside0.mk ((by rw [hg]; exact (below_size (by repeat (first | (with_reducible first | exact HB.out | apply below_alloc | apply pw_below_drewN | apply below_drew1 | refine below_set ?_ GE208.out) | exact HB.out))) : w.heap.size ≤ gb209)); have n5_ := Aside0.mk ((by rw [hg]; exact Nat.ne_of_lt (blk_lt (g := gb208) (o := .cells #[.slice A0_0 l0_0.length c0_0, .int .i32 a0_1, .bool a0_2] 27 (0, 0)) (by (with_reducible repeat (first | refine blk_drewN ?_ _ | refine blk_drew ?_ | refine blk_alloc ?_ _)); exact BK208.out)) : gb208 ≠ gb209)); have n6_ := Aside0.mk ((by rw [hg]; exact Nat.ne_of_gt (blk_lt (g := gb208) (o := .cells #[.slice A0_0 l0_0.length c0_0, .int .i32 a0_1, .bool a0_2] 27 (0, 0)) (by (with_reducible repeat (first | refine blk_drewN ?_ _ | refine blk_drew ?_ | refine blk_alloc ?_ _)); exact BK208.out)) : gb209 ≠ gb208)); clear BK208; clear HB; have BK208 := n0_; have HB := n1_; have BK209 := n2_; have GW209 := n3_; have GE209 := n4_; have NB208_209 := n5_; have NB209_208 := n6_; clear n0_ n1_ n2_ n3_ n4_ n5_ n6_; clear hb hbox hg; have hnb18 := NB208_209.out; have hnc18 := NB209_208.out; have hcz19_0 : w17.cell? ⟨gb208, 0, none⟩ = some (.slice A0_0 l0_0.length c0_0) := (blk_cell BK208.out 0).trans rfl; have hcz19_1 : w17.cell? ⟨gb208, 1, none⟩ = some (.int .i32 a0_1) := (blk_cell BK208.out 1).trans rfl; have hcz19_2 : w17.cell? ⟨gb208, 2, none⟩ = some (.bool a0_2) := (blk_cell BK208.out 2).trans rfl; have hfz19_0 := blk_frozen BK208.out 0; have hfz19_1 := blk_frozen BK208.out 1; have hfz19_2 := blk_frozen BK208.out 2; have hcz20_0 : w17.cell? ⟨gb209, 0, none⟩ = some (.slice A1_0 l1_0.length c1_0) := (blk_cell BK209.out 0).trans rfl; have hcz20_1 : w17.cell? ⟨gb209, 1, none⟩ = some (.int .i32 a1_1) := (blk_cell BK209.out 1).trans rfl; have hcz20_2 : w17.cell? ⟨gb209, 2, none⟩ = some (.bool a1_2) := (blk_cell BK209.out 2).trans rfl; have hfz20_0 := blk_frozen BK209.out 0; have hfz20_1 := blk_frozen BK209.out 1; have hfz20_2 := blk_frozen BK209.out 2) | ((with_reducible refine gate_callee (f := 28) rfl ?_); refine goesL_ (some 9) rfl rfl Tryd.func28 (by kernel_rfl) rfl #[.slice A0_0 l0_0.length c0_0, .slice A1_0 l1_0.length c1_0] rfl (by (try simp only [List.map_toArray, List.map_cons, List.map_nil]); first | done | rfl | (simp only [List.length_drop, List.length_take]; rfl)) ?_; (with_reducible refine (bytes_Equal.calls _ _ l0_0 _ _ l1_0 false _ ?side1 ?side2 ?side3 ?side4 A3.out).mono ?_); (case side1 => repeat (first | exact (Kd.C_below HR0_0.out HB.out) | (with_reducible refine Kd.C_alloc ?_ _) | (with_reducible refine Kd.C_drewN ?_ _) | (with_reducible refine Kd.C_drew ?_))); (case side2 => exact HC0_0.out); (case side3 => repeat (first | exact (Kd.C_below HR1_0.out HB.out) | (with_reducible refine Kd.C_alloc ?_ _) | (with_reducible refine Kd.C_drewN ?_ _) | (with_reducible refine Kd.C_drew ?_))); (case side4 => exact HC1_0.out); rintro e w' ⟨rfl, ⟨nd, rfl⟩⟩; refine ⟨_, rfl, ?_⟩))
    go_ret
    exact ⟨by first | rfl | (simp [errV_none, errV_some] <;> rfl) | (simp [*, errV_none, errV_some] <;> rfl), by repeat (first | (with_reducible first | exact HB.out | apply below_alloc | apply pw_below_drewN | apply below_drew1 | refine below_set ?_ GE208.out | refine below_set ?_ GE209.out) | exact HB.out)⟩

/-! ### laws_listsLive: function 7, by hand -/
-- HAND pub-tholos/laws.listsLive
-- making: yes
/-- Told by hand elsewhere. -/
def laws_listsLive.f : Option Bool := some true


end Go.Proofs.YteekkpofcbcikaaDoor.PWan
