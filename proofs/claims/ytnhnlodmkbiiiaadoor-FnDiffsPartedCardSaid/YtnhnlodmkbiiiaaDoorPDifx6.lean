/- Printed by a program of this session (it drives the print of the kit, with contracts proved by hand beside): the Go functions of one law as Lean functions, and that the Go code comes to what they say. -/
import Derived.Test.YtnhnlodmkbiiiaaDoorPDifx0
import Derived.Test.YtnhnlodmkbiiiaaDoorPDifx1
import Derived.Test.YtnhnlodmkbiiiaaDoorPDifx5
namespace Go.Proofs.YtnhnlodmkbiiiaaDoor.PDif
open Go.RowKit Go.Proofs.YtnhnlodmkbiiiaaDoorL Go.Proofs.YtnhnlodmkbiiiaaDoorW.PrintWords Go.Proofs.YtnhnlodmkbiiiaaDoorW.PrintLast Go.Proofs.YtnhnlodmkbiiiaaDoorW.PrintMore
attribute [local go_sem] max2_int min2_int max_two min_two max_three min_three max_four min_four   -- for this text's walks alone
set_option linter.unusedVariables false
set_option linter.unusedSimpArgs false

/-! ### gocid_Cast: function 115 -/
def gocid_Cast.f (k : Nat) (l0 : List Int) : Option (ByteArray × Option Int) := (gocid_CidFromBytes.f k l0).bind fun bt203 => (if bt203.2.2.isNone = true then (if bt203.1 = (l0.length : Int) then (some (bt203.2.1, none)) else ((errors_New.f (⟨#[116, 114, 97, 105, 108, 105, 110, 103, 32, 98, 121, 116, 101, 115, 32, 105, 110, 32, 100, 97, 116, 97, 32, 98, 117, 102, 102, 101, 114, 32, 112, 97, 115, 115, 101, 100, 32, 116, 111, 32, 99, 105, 100, 32, 67, 97, 115, 116]⟩ : ByteArray)).bind fun t208 => (none))) else (none))
theorem gocid_Cast.mono : ∀ a0 k, LeO (gocid_Cast.f k a0) (gocid_Cast.f (k + 1) a0) := by
  intro a0 k
  unfold gocid_Cast.f
  repeat' first
      | (with_reducible exact gocid_CidFromBytes.mono _ _)
      | (with_reducible exact LeO.refl _)
      | (with_reducible exact LeO.none _)
      | (with_reducible refine LeO.ite ?_ ?_)
      | (with_reducible refine LeO.bind ?_ (fun _ => ?_))
      | exact gocid_CidFromBytes.mono _ _
      | exact LeO.none _
      | refine LeO.ite ?_ ?_
      | refine LeO.bind ?_ (fun _ => ?_)
set_option maxHeartbeats 8000000 in
set_option maxRecDepth 100000 in
theorem gocid_Cast.calls (k : Nat) (A0 : Option Addr) (c0 : Nat) (l0 : List Int) (r1 : ByteArray) (r2 : Option Int) (w : World) (hr0 : Kd.C (Kd.int .u8) w A0 l0.length l0) (hc0 : l0.length ≤ c0) (h : gocid_Cast.f k l0 = some (r1, r2)) :
    Calls Tryd.prog 115 #[.slice A0 l0.length c0] w fun e w' => ExE fun eT1_ eX1_ => e = .returned (.tuple #[.agg #[.string r1], errV r2 eT1_ eX1_]) ∧ Below w.heap.size w w' := by
  have hu140 := Tryd.underlying140
  have hu98 := Tryd.underlying98
  have HR0 := Aside0.mk hr0
  have HC0 := Aside0.mk hc0
  clear hr0 hc0
  have HB := Aside0.mk (Below.refl w.heap.size w)
  have H : ((gocid_CidFromBytes.f k l0).bind fun bt203 => (if bt203.2.2.isNone = true then (if bt203.1 = (l0.length : Int) then (some (bt203.2.1, none)) else ((errors_New.f (⟨#[116, 114, 97, 105, 108, 105, 110, 103, 32, 98, 121, 116, 101, 115, 32, 105, 110, 32, 100, 97, 116, 97, 32, 98, 117, 102, 102, 101, 114, 32, 112, 97, 115, 115, 101, 100, 32, 116, 111, 32, 99, 105, 100, 32, 67, 97, 115, 116]⟩ : ByteArray)).bind fun t208 => (none))) else (none))) = some (r1, r2) := h
  clear h
  replace H := Option.bind_eq_some_iff.mp H
  obtain ⟨⟨t203, t204, t205⟩, A20, H⟩ := H
  replace H : (if t205.isNone = true then (if t203 = (l0.length : Int) then (some (t204, none)) else ((errors_New.f (⟨#[116, 114, 97, 105, 108, 105, 110, 103, 32, 98, 121, 116, 101, 115, 32, 105, 110, 32, 100, 97, 116, 97, 32, 98, 117, 102, 102, 101, 114, 32, 112, 97, 115, 115, 101, 100, 32, 116, 111, 32, 99, 105, 100, 32, 67, 97, 115, 116]⟩ : ByteArray)).bind fun t208 => (none))) else (none)) = some (r1, r2) := H
  have A2 := Aside0.mk A20
  clear A20
  rcases t205 with _ | q207
  · have H1 : (if t203 = (l0.length : Int) then (some (t204, none)) else ((errors_New.f (⟨#[116, 114, 97, 105, 108, 105, 110, 103, 32, 98, 121, 116, 101, 115, 32, 105, 110, 32, 100, 97, 116, 97, 32, 98, 117, 102, 102, 101, 114, 32, 112, 97, 115, 115, 101, 100, 32, 116, 111, 32, 99, 105, 100, 32, 67, 97, 115, 116]⟩ : ByteArray)).bind fun t208 => (none))) = some (r1, r2) := by rw [if_pos (show (none : Option Int).isNone = true by rfl)] at H; exact H
    clear H
    have H := H1
    clear H1
    try simp only [errV_none, errV_some]
    by_cases c3 : t203 = (l0.length : Int)
    · rw [if_pos c3] at H
      have c3b0 : (t203 == (l0.length : Int)) = true := beq_iff_eq.mpr c3
      have c3b1 : (t203 != (l0.length : Int)) = false := bne_eq_false_iff_eq.mpr c3
      clear c3
      simp only [Option.some.injEq, Prod.mk.injEq] at H
      obtain ⟨rfl, rfl⟩ := H
      go_enter Tryd.func115, Tryd.ntmps115
      go_wp2_with (first | ((with_reducible refine gate_dst (N := 2) rfl ?_); refine box_event ?hg (N := 2) ?hd (cs := #[.string (⟨#[]⟩ : ByteArray)]) (t := 140) ?hr ?_; (case hd => rfl); (case hg => rfl); (case hr => first | (go_simp; done) | (go_simp; rfl)); intro gb202 hg w4 hbox hb; have n0_ := Aside0.mk (below_step (by repeat (first | (with_reducible first | exact HB.out | apply below_alloc | apply pw_below_drewN | apply below_drew1) | exact HB.out)) hb); have n1_ := Aside0.mk (hbox); have n2_ := Aside0.mk ((by rw [hg]; exact (below_size (by repeat (first | (with_reducible first | exact HB.out | apply below_alloc | apply pw_below_drewN | apply below_drew1) | exact HB.out))) : w.heap.size ≤ gb202)); have n3_ := Aside0.mk ((by rw [hg]; exact (below_size (by repeat (first | (with_reducible first | exact HB.out | apply below_alloc | apply pw_below_drewN | apply below_drew1) | exact HB.out))) : w.heap.size ≤ gb202)); clear HB; have HB := n0_; have BK202 := n1_; have GW202 := n2_; have GE202 := n3_; clear n0_ n1_ n2_ n3_; clear hb hbox hg) | ((with_reducible refine gate_callee (f := 128) rfl ?_); refine goesL_ (some 9) rfl rfl Tryd.func128 (by kernel_rfl) rfl #[.slice A0 l0.length c0] rfl (by (try simp only [List.map_toArray, List.map_cons, List.map_nil]); first | done | rfl | (simp only [List.length_drop, List.length_take]; rfl)) ?_; (with_reducible refine (gocid_CidFromBytes.calls k _ _ l0 t203 t204 none _ ?side1 ?side2 A2.out).mono ?_); (case side1 => repeat (first | exact (Kd.C_below HR0.out HB.out) | (with_reducible refine Kd.C_alloc ?_ _) | (with_reducible refine Kd.C_drewN ?_ _) | (with_reducible refine Kd.C_drew ?_))); (case side2 => exact HC0.out); rintro e w5 ⟨eT_t205, eX_t205, rfl, hb⟩; refine ⟨_, rfl, ?_⟩; have n0_ := Aside0.mk (blk_below (g := gb202) (o := .cells #[.string (⟨#[]⟩ : ByteArray)] 140 (0, 0)) (by (with_reducible repeat (first | refine blk_drewN ?_ _ | refine blk_drew ?_ | refine blk_alloc ?_ _)); exact BK202.out) hb); have n1_ := Aside0.mk (below_step (by repeat (first | (with_reducible first | exact HB.out | apply below_alloc | apply pw_below_drewN | apply below_drew1 | refine below_set ?_ GE202.out) | exact HB.out)) hb); clear BK202; clear HB; have BK202 := n0_; have HB := n1_; clear n0_ n1_; (try clear hb); (try clear hb2); (try clear hk); (try clear hi); (try simp only [errV_none, errV_some])) | ((with_reducible refine gate_dst (N := 5) rfl ?_); refine box_event ?hg (N := 5) ?hd (cs := #[.string (⟨#[]⟩ : ByteArray)]) (t := 140) ?hr ?_; (case hd => rfl); (case hg => rfl); (case hr => first | (go_simp; done) | (go_simp; rfl)); intro gb206 hg w6 hbox hb; have n0_ := Aside0.mk (blk_below (g := gb202) (o := .cells #[.string (⟨#[]⟩ : ByteArray)] 140 (0, 0)) (by (with_reducible repeat (first | refine blk_drewN ?_ _ | refine blk_drew ?_ | refine blk_alloc ?_ _)); exact BK202.out) hb); have n1_ := Aside0.mk (below_step (by repeat (first | (with_reducible first | exact HB.out | apply below_alloc | apply pw_below_drewN | apply below_drew1 | refine below_set ?_ GE202.out) | exact HB.out)) hb); have n2_ := Aside0.mk (hbox); have n3_ := Aside0.mk ((by rw [hg]; exact (below_size (by repeat (first | (with_reducible first | exact HB.out | apply below_alloc | apply pw_below_drewN | apply below_drew1 | refine below_set ?_ GE202.out) | exact HB.out))) : w.heap.size ≤ gb206)); have n4_ := Aside0.mk ((by rw [hg]; exact (below_size (by repeat (first | (with_reducible first | exact HB.out | apply below_alloc | apply pw_below_drewN | apply below_drew1 | refine below_set ?_ GE202.out) | exact HB.out))) : w.heap.size ≤ gb206)); have n5_ := Aside0.mk ((by rw [hg]; exact Nat.ne_of_lt (blk_lt (g := gb202) (o := .cells #[.string (⟨#[]⟩ : ByteArray)] 140 (0, 0)) (by (with_reducible repeat (first | refine blk_drewN ?_ _ | refine blk_drew ?_ | refine blk_alloc ?_ _)); exact BK202.out)) : gb202 ≠ gb206)); have n6_ := Aside0.mk ((by rw [hg]; exact Nat.ne_of_gt (blk_lt (g := gb202) (o := .cells #[.string (⟨#[]⟩ : ByteArray)] 140 (0, 0)) (by (with_reducible repeat (first | refine blk_drewN ?_ _ | refine blk_drew ?_ | refine blk_alloc ?_ _)); exact BK202.out)) : gb206 ≠ gb202)); clear BK202; clear HB; have BK202 := n0_; have HB := n1_; have BK206 := n2_; have GW206 := n3_; have GE206 := n4_; have NB202_206 := n5_; have NB206_202 := n6_; clear n0_ n1_ n2_ n3_ n4_ n5_ n6_; clear hb hbox hg; have hnb7 := NB206_202.out; have hnc7 := NB202_206.out; have hcz8_0 : w6.cell? ⟨gb206, 0, none⟩ = some (.string (⟨#[]⟩ : ByteArray)) := (blk_cell BK206.out 0).trans rfl; have hfz8_0 := blk_frozen BK206.out 0; have hcz9_0 : w6.cell? ⟨gb202, 0, none⟩ = some (.string (⟨#[]⟩ : ByteArray)) := (blk_cell BK202.out 0).trans rfl; have hfz9_0 := blk_frozen BK202.out 0))
      refine bodyPost_ret (results_ct rfl _ _ gb202 140 #[.string t204] (0, 0) _ rfl (by (with_reducible repeat (first | refine blk_drewN ?_ _ | refine blk_drew ?_ | refine blk_alloc ?_ _)); refine blk_put (cs := #[.string (⟨#[]⟩ : ByteArray)]) ?_ 0 _ rfl; (with_reducible repeat (first | refine blk_drewN ?_ _ | refine blk_drew ?_ | refine blk_alloc ?_ _)); refine blk_far ?_ NB202_206.out _; (with_reducible repeat (first | refine blk_drewN ?_ _ | refine blk_drew ?_ | refine blk_alloc ?_ _)); exact BK202.out) Tryd.underlying140 rfl (by kernel_rfl)) rfl ?_
      exact ExE.intro 0 .nilIface (⟨by first | rfl | (simp [errV_none, errV_some] <;> rfl) | (simp [*, errV_none, errV_some] <;> rfl), by repeat (first | (with_reducible first | exact HB.out | apply below_alloc | apply pw_below_drewN | apply below_drew1 | refine below_set ?_ GE202.out | refine below_set ?_ GE206.out) | exact HB.out)⟩)
    · rw [if_neg c3] at H
      have c3b0 : (t203 == (l0.length : Int)) = false := beq_eq_false_iff_ne.mpr c3
      have c3b1 : (t203 != (l0.length : Int)) = true := bne_iff_ne.mpr c3
      replace H := Option.bind_eq_some_iff.mp H
      obtain ⟨t208, A100, H⟩ := H
      replace H : (none) = some (r1, r2) := H
      have A10 := Aside0.mk A100
      clear A100
      exact absurd H (by simp)
  · have H1 : (none) = some (r1, r2) := by rw [if_neg (show ¬ (some q207).isNone = true by simp)] at H; exact H
    clear H
    have H := H1
    clear H1
    try simp only [errV_none, errV_some]
    exact absurd H (by simp)

-- NOT PRINTED: function 81 (impl_changes)

-- NOT PRINTED: function 116 (dagutils_Change_116)

-- NOT PRINTED: function 82 (dagutils_Change_82)

-- NOT PRINTED: function 83 (impl_DiffsMerged_1)

-- NOT PRINTED: function 84 (dagutils_MergeDiffs)

-- NOT PRINTED: function 40 (impl_DiffsMerged)

-- NOT PRINTED: function 38 (laws_diffsLive)

/-! ### slices_Index_string_string: function 85 -/
def slices_Index_string_string.l0 : Nat → List ByteArray → ByteArray → Int → Int → Option (Int)
  | 0, _, _, _, _ => none
  | k + 1, x0, x1, x7, x8 => if x8 < x7 then (if 0 ≤ x8 then (if x8 < (x0.length : Int) then (if x1.toList = (rdOf ByteArray.empty x0 x8).toList then (some x8) else (slices_Index_string_string.l0 k x0 x1 x7 (wrap64 (x8 + 1)))) else (none)) else (none)) else (some (-1))
def slices_Index_string_string.f (k : Nat) (l0 : List ByteArray) (a1 : ByteArray) : Option (Int) := slices_Index_string_string.l0 k l0 a1 (l0.length : Int) 0
theorem slices_Index_string_string.mono_l : ∀ k, (∀ y0 y1 y2 y3, LeO (slices_Index_string_string.l0 k y0 y1 y2 y3) (slices_Index_string_string.l0 (k + 1) y0 y1 y2 y3))
  | 0 => fun _ _ _ _ r h => by simp [slices_Index_string_string.l0] at h
  | k + 1 => by
    have ih0 := slices_Index_string_string.mono_l k
    · intro y0 y1 y2 y3
      unfold slices_Index_string_string.l0
      repeat' first
      | (with_reducible exact ih0 _ _ _ _)
      | (with_reducible exact LeO.refl _)
      | (with_reducible exact LeO.none _)
      | (with_reducible refine LeO.ite ?_ ?_)
      | (with_reducible refine LeO.bind ?_ (fun _ => ?_))
      | exact ih0 _ _ _ _
      | exact LeO.none _
      | refine LeO.ite ?_ ?_
      | refine LeO.bind ?_ (fun _ => ?_)
theorem slices_Index_string_string.mono : ∀ a0 a1 k, LeO (slices_Index_string_string.f k a0 a1) (slices_Index_string_string.f (k + 1) a0 a1) := by
  intro a0 a1 k
  have ih0 := slices_Index_string_string.mono_l k
  unfold slices_Index_string_string.f
  repeat' first
      | (with_reducible exact ih0 _ _ _ _)
      | (with_reducible exact LeO.refl _)
      | (with_reducible exact LeO.none _)
      | (with_reducible refine LeO.ite ?_ ?_)
      | (with_reducible refine LeO.bind ?_ (fun _ => ?_))
      | exact ih0 _ _ _ _
      | exact LeO.none _
      | refine LeO.ite ?_ ?_
      | refine LeO.bind ?_ (fun _ => ?_)
set_option maxHeartbeats 8000000 in
set_option maxRecDepth 100000 in
theorem slices_Index_string_string.calls (k : Nat) (A0 : Option Addr) (c0 : Nat) (l0 : List ByteArray) (a1 : ByteArray) (r : Int) (w : World) (hr0 : Kd.C Kd.string w A0 l0.length l0) (hc0 : l0.length ≤ c0) (h : slices_Index_string_string.f k l0 a1 = some r) :
    Calls Tryd.prog 85 #[.slice A0 l0.length c0, .string a1] w fun e w' => e = .returned (.int .i64 r) ∧ Drawn0 w w' := by
  have HR0 := Aside0.mk hr0
  have HC0 := Aside0.mk hc0
  clear hr0 hc0
  have H : (slices_Index_string_string.l0 k l0 a1 (l0.length : Int) 0) = some r := h
  clear h
  have H' := Aside0.mk H
  clear H
  go_enter Tryd.func85, Tryd.ntmps85
  go_wp2
  go_loopg [8] k (fun kq v8 w' => ∃ (x8_1 : Int), v8 = .int .i64 x8_1 ∧ Aside0 (slices_Index_string_string.l0 kq l0 a1 (l0.length : Int) x8_1 = some r) ∧ Aside0 (kq ≤ k) ∧ Drawn0 w w')
  case atStart => exact ⟨(0), (by first | rfl | (simp; done) | (simp [*]; done)), H', ⟨Nat.le_refl _⟩, by repeat (first | exact Drawn0.refl _ | apply Drawn0.step)⟩
  case round =>
    clear H'
    try clear p2
    obtain ⟨x8_1, rfl, HA, HK1, ⟨m1, rfl⟩⟩ := hrel
    cases gk with
    | zero => exact absurd HA.out (by simp [slices_Index_string_string.l0])
    | succ k1 =>
      have H := HA.out
      clear HA
      simp only [slices_Index_string_string.l0] at H
      by_cases c3 : x8_1 < (l0.length : Int)
      · rw [if_pos c3] at H
        have c3b0 : decide (x8_1 < (l0.length : Int)) = true := decide_eq_true c3
        clear c3
        by_cases c4 : 0 ≤ x8_1
        · rw [if_pos c4] at H
          have c4b0 : decide (0 ≤ x8_1) = true := decide_eq_true c4
          clear c4
          by_cases c5 : x8_1 < (l0.length : Int)
          · rw [if_pos c5] at H
            have c5b0 : decide (x8_1 < (l0.length : Int)) = true := decide_eq_true c5
            clear c5
            by_cases c6 : a1.toList = (rdOf ByteArray.empty l0 x8_1).toList
            · rw [if_pos c6] at H
              have c6b0 : (a1.toList == (rdOf ByteArray.empty l0 x8_1).toList) = true := beq_iff_eq.mpr c6
              have c6b1 : (a1.toList != (rdOf ByteArray.empty l0 x8_1).toList) = false := bne_eq_false_iff_eq.mpr c6
              clear c6
              obtain rfl := Option.some.inj H
              have p213 : 0 ≤ (x8_1 : Int) := of_decide_eq_true (by first | (with_reducible assumption) | assumption)
              have q213 : x8_1 < (l0.length : Int) := of_decide_eq_true (by first | (with_reducible assumption) | assumption)
              obtain ⟨ad213, e213, hx213_0⟩ := Kd.at_string HR0.out x8_1 p213 q213
              cases e213
              replace p213 := eq_true p213
              replace q213 := eq_true q213
              go_wp2
              go_ret
              exact ⟨by first | rfl | (simp; done) | (simp [*]; done), by repeat (first | exact Drawn0.refl _ | apply Drawn0.step)⟩
            · rw [if_neg c6] at H
              have c6b0 : (a1.toList == (rdOf ByteArray.empty l0 x8_1).toList) = false := beq_eq_false_iff_ne.mpr c6
              have c6b1 : (a1.toList != (rdOf ByteArray.empty l0 x8_1).toList) = true := bne_iff_ne.mpr c6
              have H' := Aside0.mk H
              clear H
              have p213 : 0 ≤ (x8_1 : Int) := of_decide_eq_true (by first | (with_reducible assumption) | assumption)
              have q213 : x8_1 < (l0.length : Int) := of_decide_eq_true (by first | (with_reducible assumption) | assumption)
              obtain ⟨ad213, e213, hx213_0⟩ := Kd.at_string HR0.out x8_1 p213 q213
              cases e213
              replace p213 := eq_true p213
              replace q213 := eq_true q213
              go_wp2
              go_roundg k1
              case measure => have := HK1.out; omega
              case rel => exact ⟨(wrap64 (x8_1 + 1)), (by first | rfl | (simp; done) | (simp [*]; done)), H', ⟨by have := HK1.out; omega⟩, by repeat (first | exact Drawn0.refl _ | apply Drawn0.step)⟩
          · rw [if_neg c5] at H
            exact absurd H (by simp)
        · rw [if_neg c4] at H
          exact absurd H (by simp)
      · rw [if_neg c3] at H
        have c3b0 : decide (x8_1 < (l0.length : Int)) = false := decide_eq_false c3
        clear c3
        obtain rfl := Option.some.inj H
        go_wp2
        go_ret
        exact ⟨by first | rfl | (simp; done) | (simp [*]; done), by repeat (first | exact Drawn0.refl _ | apply Drawn0.step)⟩

/-! ### slices_Contains_string_string: function 41 -/
def slices_Contains_string_string.f (k : Nat) (l0 : List ByteArray) (a1 : ByteArray) : Option (Bool) := (slices_Index_string_string.f k l0 a1).bind fun t214 => (some (decide (t214 ≥ 0)))
theorem slices_Contains_string_string.mono : ∀ a0 a1 k, LeO (slices_Contains_string_string.f k a0 a1) (slices_Contains_string_string.f (k + 1) a0 a1) := by
  intro a0 a1 k
  unfold slices_Contains_string_string.f
  repeat' first
      | (with_reducible exact slices_Index_string_string.mono _ _ _)
      | (with_reducible exact LeO.refl _)
      | (with_reducible exact LeO.none _)
      | (with_reducible refine LeO.ite ?_ ?_)
      | (with_reducible refine LeO.bind ?_ (fun _ => ?_))
      | exact slices_Index_string_string.mono _ _ _
      | exact LeO.none _
      | refine LeO.ite ?_ ?_
      | refine LeO.bind ?_ (fun _ => ?_)
set_option maxHeartbeats 8000000 in
set_option maxRecDepth 100000 in
theorem slices_Contains_string_string.calls (k : Nat) (A0 : Option Addr) (c0 : Nat) (l0 : List ByteArray) (a1 : ByteArray) (r : Bool) (w : World) (hr0 : Kd.C Kd.string w A0 l0.length l0) (hc0 : l0.length ≤ c0) (h : slices_Contains_string_string.f k l0 a1 = some r) :
    Calls Tryd.prog 41 #[.slice A0 l0.length c0, .string a1] w fun e w' => e = .returned (.bool r) ∧ Drawn0 w w' := by
  have HR0 := Aside0.mk hr0
  have HC0 := Aside0.mk hc0
  clear hr0 hc0
  have H : ((slices_Index_string_string.f k l0 a1).bind fun t214 => (some (decide (t214 ≥ 0)))) = some r := h
  clear h
  replace H := Option.bind_eq_some_iff.mp H
  obtain ⟨t214, A30, H⟩ := H
  replace H : (some (decide (t214 ≥ 0))) = some r := H
  have A3 := Aside0.mk A30
  clear A30
  obtain rfl := Option.some.inj H
  go_enter Tryd.func41, Tryd.ntmps41
  go_wp2_with (first | ((with_reducible refine gate_callee (f := 85) rfl ?_); refine goesL_ (some 7) rfl rfl Tryd.func85 (by kernel_rfl) rfl #[.slice A0 l0.length c0, .string a1] rfl (by (try simp only [List.map_toArray, List.map_cons, List.map_nil]); first | done | rfl | (simp only [List.length_drop, List.length_take]; rfl)) ?_; (with_reducible refine (slices_Index_string_string.calls k _ _ l0 a1 t214 _ ?side1 ?side2 A3.out).mono ?_); (case side1 => repeat (first | exact HR0.out | (with_reducible refine Kd.C_alloc ?_ _) | (with_reducible refine Kd.C_drewN ?_ _) | (with_reducible refine Kd.C_drew ?_))); (case side2 => exact HC0.out); rintro e w' ⟨rfl, ⟨nd, rfl⟩⟩; refine ⟨_, rfl, ?_⟩))
  go_ret
  exact ⟨by first | rfl | (simp; done) | (simp [*]; done), by repeat (first | exact Drawn0.refl _ | apply Drawn0.step)⟩

/-! ### bytes_Equal: function 87 -/
def bytes_Equal.f (l0 : List Int) (l1 : List Int) : Option (Bool) := some ((strOfNums l0).toList == (strOfNums l1).toList)
set_option maxHeartbeats 8000000 in
set_option maxRecDepth 100000 in
theorem bytes_Equal.calls (A0 : Option Addr) (c0 : Nat) (l0 : List Int) (A1 : Option Addr) (c1 : Nat) (l1 : List Int) (r : Bool) (w : World) (hr0 : Kd.C (Kd.int .u8) w A0 l0.length l0) (hc0 : l0.length ≤ c0) (hr1 : Kd.C (Kd.int .u8) w A1 l1.length l1) (hc1 : l1.length ≤ c1) (h : bytes_Equal.f l0 l1 = some r) :
    Calls Tryd.prog 87 #[.slice A0 l0.length c0, .slice A1 l1.length c1] w fun e w' => e = .returned (.bool r) ∧ Drawn0 w w' := by
  have HR0 := Aside0.mk hr0
  have HC0 := Aside0.mk hc0
  clear hr0 hc0
  have HR1 := Aside0.mk hr1
  have HC1 := Aside0.mk hc1
  clear hr1 hc1
  have H : (some ((strOfNums l0).toList == (strOfNums l1).toList)) = some r := h
  clear h
  obtain rfl := Option.some.inj H
  have hcv3 := Kd.C_string (P := Tryd.prog) (A := A0) (c := c0) Tryd.underlying22 Tryd.underlying5 Tryd.underlying9 HR0.out
  have hcv4 := Kd.C_string (P := Tryd.prog) (A := A1) (c := c1) Tryd.underlying22 Tryd.underlying5 Tryd.underlying9 HR1.out
  go_enter Tryd.func87, Tryd.ntmps87
  go_wp2
  go_ret
  exact ⟨by first | rfl | (simp; done) | (simp [*]; done), by repeat (first | exact Drawn0.refl _ | apply Drawn0.step)⟩

end Go.Proofs.YtnhnlodmkbiiiaaDoor.PDif
