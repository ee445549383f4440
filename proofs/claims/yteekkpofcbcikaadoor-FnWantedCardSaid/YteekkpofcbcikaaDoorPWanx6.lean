/- Printed by a program of this session (it drives the print of the kit, with contracts proved by hand beside): the Go functions of one law as Lean functions, and that the Go code comes to what they say. -/
import Derived.Test.YteekkpofcbcikaaDoorPWanx0
import Derived.Test.YteekkpofcbcikaaDoorPWanx2
import Derived.Test.YteekkpofcbcikaaDoorPWanx3
import Derived.Test.YteekkpofcbcikaaDoorPWanx5
namespace Go.Proofs.YteekkpofcbcikaaDoor.PWan
open Go.RowKit Go.Proofs.YteekkpofcbcikaaDoorL Go.Proofs.YteekkpofcbcikaaDoorW.PrintWords Go.Proofs.YteekkpofcbcikaaDoorW.PrintLast Go.Proofs.YteekkpofcbcikaaDoorW.PrintMore
attribute [local go_sem] max2_int min2_int max_two min_two max_three min_three max_four min_four   -- for this text's walks alone
set_option linter.unusedVariables false
set_option linter.unusedSimpArgs false

/-! ### gocid_CidFromBytes: function 75 -/
def gocid_CidFromBytes.j0 : Nat → List Int → Bool → Option (Int × ByteArray × Option Int)
  | 0, _, _ => none
  | k + 1, x0, x29 => if x29 = true then (if (x0.length : Int) < 34 then ((errors_New.f (⟨#[110, 111, 116, 32, 101, 110, 111, 117, 103, 104, 32, 98, 121, 116, 101, 115, 32, 102, 111, 114, 32, 99, 105, 100, 32, 118, 48]⟩ : ByteArray)).bind fun t160 => (none)) else (if 34 ≤ (x0.length : Int) then ((gomultihash_Cast.f k (x0.take 34)).bind fun bt165 => (if bt165.2.isNone = true then (some (34, strOfNums bt165.1, none)) else (none))) else (none))) else ((govarint_FromUvarint.f k x0).bind fun bt170 => (if bt170.2.2.isNone = true then (if bt170.1 = 1 then (if 0 ≤ bt170.2.1 then (if bt170.2.1 ≤ (x0.length : Int) then ((govarint_FromUvarint.f k (x0.drop (bt170.2.1 : Int).toNat)).bind fun bt179 => (if bt179.2.2.isNone = true then (if 0 ≤ (wrap64 (bt170.2.1 + bt179.2.1)) then (if (wrap64 (bt170.2.1 + bt179.2.1)) ≤ (x0.length : Int) then ((gomultihash_MHFromBytes.f k (x0.drop ((wrap64 (bt170.2.1 + bt179.2.1)) : Int).toNat)).bind fun bt187 => (if bt187.2.2.isNone = true then (if 0 ≤ (wrap64 ((wrap64 (bt170.2.1 + bt179.2.1)) + bt187.1)) then (if (wrap64 ((wrap64 (bt170.2.1 + bt179.2.1)) + bt187.1)) ≤ (x0.length : Int) then (some (wrap64 ((wrap64 (bt170.2.1 + bt179.2.1)) + bt187.1), strOfNums ((x0.take ((wrap64 ((wrap64 (bt170.2.1 + bt179.2.1)) + bt187.1)) : Int).toNat).drop 0), none)) else (none)) else (none)) else (none))) else (none)) else (none)) else (none))) else (none)) else (none)) else ((errors_New.f (⟨#[101, 120, 112, 101, 99, 116, 101, 100, 32, 49, 32, 97, 115, 32, 116, 104, 101, 32, 99, 105, 100, 32, 118, 101, 114, 115, 105, 111, 110, 32, 110, 117, 109, 98, 101, 114, 44, 32, 103, 111, 116, 58]⟩ : ByteArray)).bind fun t174 => (none))) else (none)))
def gocid_CidFromBytes.f (k : Nat) (l0 : List Int) : Option (Int × ByteArray × Option Int) := if (l0.length : Int) > 2 then (if 0 < (l0.length : Int) then (if (rd l0 0) = 18 then (if 1 < (l0.length : Int) then (gocid_CidFromBytes.j0 k l0 ((rd l0 1) == 32)) else (none)) else (gocid_CidFromBytes.j0 k l0 false)) else (none)) else (gocid_CidFromBytes.j0 k l0 false)
theorem gocid_CidFromBytes.mono_l : ∀ k, (∀ y0 y1, LeO (gocid_CidFromBytes.j0 k y0 y1) (gocid_CidFromBytes.j0 (k + 1) y0 y1))
  | 0 => fun _ _ r h => by simp [gocid_CidFromBytes.j0] at h
  | k + 1 => by
    have ih0 := gocid_CidFromBytes.mono_l k
    · intro y0 y1
      unfold gocid_CidFromBytes.j0
      repeat' first
      | (with_reducible exact ih0 _ _)
      | (with_reducible exact gomultihash_Cast.mono _ _)
      | (with_reducible exact gomultihash_MHFromBytes.mono _ _)
      | (with_reducible exact govarint_FromUvarint.mono _ _)
      | (with_reducible exact LeO.refl _)
      | (with_reducible exact LeO.none _)
      | (with_reducible refine LeO.ite ?_ ?_)
      | (with_reducible refine LeO.bind ?_ (fun _ => ?_))
      | exact ih0 _ _
      | exact gomultihash_Cast.mono _ _
      | exact gomultihash_MHFromBytes.mono _ _
      | exact govarint_FromUvarint.mono _ _
      | exact LeO.none _
      | refine LeO.ite ?_ ?_
      | refine LeO.bind ?_ (fun _ => ?_)
theorem gocid_CidFromBytes.mono : ∀ a0 k, LeO (gocid_CidFromBytes.f k a0) (gocid_CidFromBytes.f (k + 1) a0) := by
  intro a0 k
  have ih0 := gocid_CidFromBytes.mono_l k
  unfold gocid_CidFromBytes.f
  repeat' first
      | (with_reducible exact ih0 _ _)
      | (with_reducible exact gomultihash_Cast.mono _ _)
      | (with_reducible exact gomultihash_MHFromBytes.mono _ _)
      | (with_reducible exact govarint_FromUvarint.mono _ _)
      | (with_reducible exact LeO.refl _)
      | (with_reducible exact LeO.none _)
      | (with_reducible refine LeO.ite ?_ ?_)
      | (with_reducible refine LeO.bind ?_ (fun _ => ?_))
      | exact ih0 _ _
      | exact gomultihash_Cast.mono _ _
      | exact gomultihash_MHFromBytes.mono _ _
      | exact govarint_FromUvarint.mono _ _
      | exact LeO.none _
      | refine LeO.ite ?_ ?_
      | refine LeO.bind ?_ (fun _ => ?_)
def gocid_CidFromBytes.T20 : Bool × List (List Nat × List Nat) := (true, [([], []), ([], []), ([], []), ([1, 2], [1, 2]), ([3], [3]), ([4], [4]), ([0, 0], [0]), ([5, 6, 0, 1, 2, 3, 4, 5, 6], [5]), ([7, 0, 1, 2, 3, 4, 5, 6, 7], [])])
def gocid_CidFromBytes.B20 : List Nat := [0, 0, 0, 6, 14, 30, 1, 127, 255]
theorem gocid_CidFromBytes.tab20 : rtab .any (opsOf Tryd.f75 20) = gocid_CidFromBytes.T20 := by kernel_rfl
theorem gocid_CidFromBytes.bits20 : waitsOk gocid_CidFromBytes.T20.2 gocid_CidFromBytes.B20 = true := by kernel_rfl
set_option maxHeartbeats 8000000 in
set_option maxRecDepth 100000 in
theorem gocid_CidFromBytes.calls (k : Nat) (A0 : Option Addr) (c0 : Nat) (l0 : List Int) (r1 : Int) (r2 : ByteArray) (r3 : Option Int) (w : World) (hr0 : Kd.C (Kd.int .u8) w A0 l0.length l0) (hc0 : l0.length ≤ c0) (h : gocid_CidFromBytes.f k l0 = some (r1, r2, r3)) :
    Calls Tryd.prog 75 #[.slice A0 l0.length c0] w fun e w' => ExE fun eT2_ eX2_ => e = .returned (.tuple #[.int .i64 r1, .agg #[.string r2], errV r3 eT2_ eX2_]) ∧ Below w.heap.size w w' := by
  have hu81 := Tryd.underlying81
  have hu83 := Tryd.underlying83
  have HR0 := Aside0.mk hr0
  have HC0 := Aside0.mk hc0
  clear hr0 hc0
  have HB := Aside0.mk (Below.refl w.heap.size w)
  have H : (if (l0.length : Int) > 2 then (if 0 < (l0.length : Int) then (if (rd l0 0) = 18 then (if 1 < (l0.length : Int) then (gocid_CidFromBytes.j0 k l0 ((rd l0 1) == 32)) else (none)) else (gocid_CidFromBytes.j0 k l0 false)) else (none)) else (gocid_CidFromBytes.j0 k l0 false)) = some (r1, r2, r3) := h
  clear h
  have HC2 := Aside0.mk H
  clear H
  go_enter Tryd.func75, Tryd.ntmps75
  go_upto_region 1 with (first | ((with_reducible refine gate_dst (N := 3) rfl ?_); refine box_event ?hg (N := 3) ?hd (cs := #[.string (⟨#[]⟩ : ByteArray)]) (t := 81) ?hr ?_; (case hd => rfl); (case hg => rfl); (case hr => first | (go_simp; done) | (go_simp; rfl)); intro gb157 hg w3 hbox hb; have n0_ := Aside0.mk (below_step (by repeat (first | (with_reducible first | exact HB.out | apply below_alloc | apply pw_below_drewN | apply below_drew1) | exact HB.out)) hb); have n1_ := Aside0.mk (hbox); have n2_ := Aside0.mk ((by rw [hg]; exact (below_size (by repeat (first | (with_reducible first | exact HB.out | apply below_alloc | apply pw_below_drewN | apply below_drew1) | exact HB.out))) : w.heap.size ≤ gb157)); have n3_ := Aside0.mk ((by rw [hg]; exact (below_size (by repeat (first | (with_reducible first | exact HB.out | apply below_alloc | apply pw_below_drewN | apply below_drew1) | exact HB.out))) : w.heap.size ≤ gb157)); clear HB; have HB := n0_; have BK157 := n1_; have GW157 := n2_; have GE157 := n3_; clear n0_ n1_ n2_ n3_; clear hb hbox hg))
  (try simp only [Act.put, List.setIfInBounds_toArray, List.set_cons_zero, List.set_cons_succ])
  go_cut [29] (fun v29 wc => ∃ (kq : Nat) (x29_1 : Bool), v29 = .bool x29_1 ∧ Aside0 (gocid_CidFromBytes.j0 kq l0 x29_1 = some (r1, r2, r3)) ∧ Aside0 (kq ≤ k) ∧ Aside0 (wc.heap[gb157]? = some (.cells #[.string (⟨#[]⟩ : ByteArray)] 81 (0, 0))) ∧ Aside0 (Below w.heap.size w wc))
  case first =>
    have H := HC2.out
    clear HC2
    by_cases c4 : (l0.length : Int) > 2
    · rw [if_pos c4] at H
      have c4b0 : decide (2 < (l0.length : Int)) = true := decide_eq_true c4
      have c4b1 : decide (2 < l0.length) = true := decide_eq_true (by omega)
      clear c4
      (first | rw [c4b0] | (simp only [i64_w, i32_w]; rw [c4b0]) | skip)
      by_cases c5 : 0 < (l0.length : Int)
      · rw [if_pos c5] at H
        have c5b0 : decide (0 < (l0.length : Int)) = true := decide_eq_true c5
        have c5b1 : decide (0 < l0.length) = true := decide_eq_true (by omega)
        clear c5
        by_cases c6 : (rd l0 0) = 18
        · rw [if_pos c6] at H
          have c6b0 : ((rd l0 0) == 18) = true := beq_iff_eq.mpr c6
          have c6b1 : ((rd l0 0) != 18) = false := bne_eq_false_iff_eq.mpr c6
          clear c6
          by_cases c7 : 1 < (l0.length : Int)
          · rw [if_pos c7] at H
            have c7b0 : decide (1 < (l0.length : Int)) = true := decide_eq_true c7
            have c7b1 : decide (1 < l0.length) = true := decide_eq_true (by omega)
            clear c7
            have H' := Aside0.mk H
            clear H
            have p158 : 0 ≤ (0 : Int) := (by omega)
            have q158 : 0 < (l0.length : Int) := of_decide_eq_true (by first | (with_reducible assumption) | assumption)
            obtain ⟨ad158, e158, hx158_0⟩ := Kd.at_int HR0.out 0 p158 q158
            cases e158
            have qi158 : (0 < l0.length) = True := eq_true (by omega)
            (try rw [show ((0 : Int)).toNat = 0 from rfl] at hx158_0)
            (try rw [Addr.add_zero'] at hx158_0)
            replace hx158_0 := (HB.out.cell (World.block_lt_of_cell? w _ hx158_0)).trans hx158_0
            replace p158 := eq_true p158
            replace q158 := eq_true q158
            have p159 : 0 ≤ (1 : Int) := (by omega)
            have q159 : 1 < (l0.length : Int) := of_decide_eq_true (by first | (with_reducible assumption) | assumption)
            obtain ⟨ad159, e159, hx159_0⟩ := Kd.at_int HR0.out 1 p159 q159
            obtain rfl : ad158 = ad159 := (by injection e159)
            (try simp only [show (1 : Int).toNat = 1 from rfl, Nat.reduceMul, Nat.reduceEqDiff, Go.Addr.add, ↓reduceIte] at hx159_0)
            have qi159 : (1 < l0.length) = True := eq_true (by omega)
            (try rw [show ((1 : Int)).toNat = 1 from rfl] at hx159_0)
            replace hx159_0 := (HB.out.cell (World.block_lt_of_cell? w _ hx159_0)).trans hx159_0
            replace p159 := eq_true p159
            replace q159 := eq_true q159
            go_wp2
            go_meet
            case rel => exact ⟨_, (((rd l0 1) == 32)), (by first | rfl | (simp; done) | (simp [*]; done)), H', ⟨by first | omega | exact Nat.le_refl _⟩, ⟨by (with_reducible repeat (first | refine blk_drewN ?_ _ | refine blk_drew ?_ | refine blk_alloc ?_ _)); exact BK157.out⟩, ⟨by repeat (first | (with_reducible first | exact HB.out | apply below_alloc | apply pw_below_drewN | apply below_drew1 | refine below_set ?_ GE157.out) | exact HB.out)⟩⟩
          · rw [if_neg c7] at H
            exact absurd H (by simp)
        · rw [if_neg c6] at H
          have c6b0 : ((rd l0 0) == 18) = false := beq_eq_false_iff_ne.mpr c6
          have c6b1 : ((rd l0 0) != 18) = true := bne_iff_ne.mpr c6
          have H' := Aside0.mk H
          clear H
          have p158 : 0 ≤ (0 : Int) := (by omega)
          have q158 : 0 < (l0.length : Int) := of_decide_eq_true (by first | (with_reducible assumption) | assumption)
          obtain ⟨ad158, e158, hx158_0⟩ := Kd.at_int HR0.out 0 p158 q158
          cases e158
          have qi158 : (0 < l0.length) = True := eq_true (by omega)
          (try rw [show ((0 : Int)).toNat = 0 from rfl] at hx158_0)
          (try rw [Addr.add_zero'] at hx158_0)
          replace hx158_0 := (HB.out.cell (World.block_lt_of_cell? w _ hx158_0)).trans hx158_0
          replace p158 := eq_true p158
          replace q158 := eq_true q158
          go_wp2
          go_meet
          case rel => exact ⟨_, (false), (by first | rfl | (simp; done) | (simp [*]; done)), H', ⟨by first | omega | exact Nat.le_refl _⟩, ⟨by (with_reducible repeat (first | refine blk_drewN ?_ _ | refine blk_drew ?_ | refine blk_alloc ?_ _)); exact BK157.out⟩, ⟨by repeat (first | (with_reducible first | exact HB.out | apply below_alloc | apply pw_below_drewN | apply below_drew1 | refine below_set ?_ GE157.out) | exact HB.out)⟩⟩
      · rw [if_neg c5] at H
        exact absurd H (by simp)
    · rw [if_neg c4] at H
      have c4b0 : decide (2 < (l0.length : Int)) = false := decide_eq_false c4
      have c4b1 : decide (2 < l0.length) = false := decide_eq_false (by omega)
      clear c4
      (first | rw [c4b0] | (simp only [i64_w, i32_w]; rw [c4b0]) | skip)
      have H' := Aside0.mk H
      clear H
      go_wp2
      go_meet
      case rel => exact ⟨_, (false), (by first | rfl | (simp; done) | (simp [*]; done)), H', ⟨by first | omega | exact Nat.le_refl _⟩, ⟨by (with_reducible repeat (first | refine blk_drewN ?_ _ | refine blk_drew ?_ | refine blk_alloc ?_ _)); exact BK157.out⟩, ⟨by repeat (first | (with_reducible first | exact HB.out | apply below_alloc | apply pw_below_drewN | apply below_drew1 | refine below_set ?_ GE157.out) | exact HB.out)⟩⟩
  case rest =>
    clear HC2
    try clear p1
    try clear q1
    try clear hx1
    try clear qi1
    try clear p2
    try clear c4
    try clear c4b0
    try clear c4b1
    try clear c5
    try clear c5b0
    try clear c5b1
    try clear c6
    try clear c6b0
    try clear c6b1
    try clear c7
    try clear c7b0
    try clear c7b1
    try clear hx158_0
    try clear hx159_0
    try clear p158
    try clear p159
    try clear q158
    try clear q159
    obtain ⟨kq, x29_1, rfl, HA, HJ1, BK157, HB⟩ := hcut
    cases kq with
    | zero => exact absurd HA.out (by simp [gocid_CidFromBytes.j0])
    | succ kj1 =>
      have H := HA.out
      clear HA
      simp only [gocid_CidFromBytes.j0] at H
      by_cases c8 : x29_1 = true
      · subst c8
        have H1 : (if (l0.length : Int) < 34 then ((errors_New.f (⟨#[110, 111, 116, 32, 101, 110, 111, 117, 103, 104, 32, 98, 121, 116, 101, 115, 32, 102, 111, 114, 32, 99, 105, 100, 32, 118, 48]⟩ : ByteArray)).bind fun t160 => (none)) else (if 34 ≤ (l0.length : Int) then ((gomultihash_Cast.f kj1 (l0.take 34)).bind fun bt165 => (if bt165.2.isNone = true then (some (34, strOfNums bt165.1, none)) else (none))) else (none))) = some (r1, r2, r3) := by rw [if_pos rfl] at H; exact H
        clear H
        have H := H1
        clear H1
        by_cases c9 : (l0.length : Int) < 34
        · rw [if_pos c9] at H
          have c9b0 : decide ((l0.length : Int) < 34) = true := decide_eq_true c9
          have c9b1 : decide (l0.length < 34) = true := decide_eq_true (by omega)
          clear c9
          replace H := Option.bind_eq_some_iff.mp H
          obtain ⟨t160, A100, H⟩ := H
          replace H : (none) = some (r1, r2, r3) := H
          have A10 := Aside0.mk A100
          clear A100
          exact absurd H (by simp)
        · rw [if_neg c9] at H
          have c9b0 : decide ((l0.length : Int) < 34) = false := decide_eq_false c9
          have c9b1 : decide (l0.length < 34) = false := decide_eq_false (by omega)
          clear c9
          by_cases c11 : 34 ≤ (l0.length : Int)
          · rw [if_pos c11] at H
            have c11b0 := eq_true c11
            have c11b1 : decide (34 ≤ (l0.length : Int)) = true := decide_eq_true c11
            clear c11
            obtain ⟨y161, hy161⟩ : ∃ y_ : List Int, y_ = (l0.take 34) := ⟨_, rfl⟩
            replace H : ((gomultihash_Cast.f kj1 y161).bind fun bt165 => (if bt165.2.isNone = true then (some (34, strOfNums bt165.1, none)) else (none))) = some (r1, r2, r3) := by first | (rw [hy161]; with_reducible exact H) | (have H2_ := (Option.bind_some _ _).symm.trans H; rw [hy161]; with_reducible exact H2_) | (have H2_ := (Option.bind_some _ _).symm.trans H; with_reducible exact H2_) | with_reducible exact H | (rw [hy161]; exact H) | exact H
            have Ny161 := Aside0.mk hy161
            clear hy161
            replace H := Option.bind_eq_some_iff.mp H
            obtain ⟨⟨t165, t168⟩, A120, H⟩ := H
            replace H : (if t168.isNone = true then (some (34, strOfNums t165, none)) else (none)) = some (r1, r2, r3) := H
            have A12 := Aside0.mk A120
            clear A120
            rcases t168 with _ | q169
            · have H1 : (some (34, strOfNums t165, none)) = some (r1, r2, r3) := by rw [if_pos (show (none : Option Int).isNone = true by rfl)] at H; exact H
              clear H
              have H := H1
              clear H1
              try simp only [errV_none, errV_some]
              simp only [Option.some.injEq, Prod.mk.injEq] at H
              obtain ⟨rfl, rfl, rfl⟩ := H
              have q13 : (34 : Int) ≤ ((l0.length : Int) : Int) := of_decide_eq_true (by first | (with_reducible assumption) | assumption)
              obtain ⟨i013, hi013, _, hsz13, _⟩ := info_parts info5
              have hroom13 : l0.length ≤ c0 := HC0.out
              have hC13 : Kd.C (Kd.int .u8) _ A0 l0.length l0 := HR0.out
              have hcut13 := cut_to (P := Tryd.prog) 24 5 .i64 Tryd.underlying24 hi013 A0 l0.length c0 34 (by omega) q13 hroom13
              have hr13 := Kd.C_take (m := 34) hC13 (by omega)
              have hy13 : y161.length = (34 : Int).toNat := (by rw [Ny161.out, List.length_take]; omega)
              rw [← Ny161.out] at hr13
              rw [← hy13] at hcut13
              have HR164 := Aside0.mk hr13
              have HC164 := Aside0.mk (show y161.length ≤ c0 from by omega)
              clear hr13 hC13 hroom13 hi013 hsz13
              have KY13 := Aside0.mk hy13
              clear hy13
              replace q13 := eq_true q13
              try go_wp2_with (first | ((with_reducible refine gate_callee (f := 108) rfl ?_); refine goesL_ (some 40) rfl rfl Tryd.func108 (by kernel_rfl) rfl #[.slice A0 y161.length c0] rfl (by (try simp only [List.map_toArray, List.map_cons, List.map_nil]); first | done | rfl | (simp only [List.length_drop, List.length_take]; rfl)) ?_; (with_reducible refine (gomultihash_Cast.calls kj1 (fun k_ => k_ < w.heap.size) _ _ y161 t165 none _ ?side1 A12.out).mono ?_); (case side1 => exact Kd.V_mk HC164.out (Kd.F_below (Kd.C_F (Kd.heap_int .u8) HR164.out) (by repeat (first | (with_reducible first | exact HB.out | apply below_alloc | apply pw_below_drewN | apply below_drew1 | refine below_set ?_ GE157.out) | exact HB.out)))); rintro e w14 ⟨v166, eT_t168, eX_t168, rfl, ho0, hb⟩; refine ⟨_, rfl, ?_⟩; have n0_ := Aside0.mk (Kd.V_lower (Kd.V_mono (ok' := fun k_ => k_ ≠ gb157) ho0 (fun k_ hk_ => Or.elim hk_ (fun hs_ => fun e_ => Nat.not_le.2 hs_ (by rw [e_]; exact GW157.out)) (fun hn_ => (Kd.freshB (g := gb157) (o := .cells #[.string (⟨#[]⟩ : ByteArray)] 81 (0, 0)) (by (with_reducible repeat (first | refine blk_drewN ?_ _ | refine blk_drew ?_ | refine blk_alloc ?_ _)); exact BK157.out) k_ hn_)))) (below_size (by repeat (first | (with_reducible first | exact HB.out | apply below_alloc | apply pw_below_drewN | apply below_drew1 | refine below_set ?_ GE157.out) | exact HB.out)))); have n1_ := Aside0.mk (blk_below (g := gb157) (o := .cells #[.string (⟨#[]⟩ : ByteArray)] 81 (0, 0)) (by (with_reducible repeat (first | refine blk_drewN ?_ _ | refine blk_drew ?_ | refine blk_alloc ?_ _)); exact BK157.out) hb); have n2_ := Aside0.mk (below_step (by repeat (first | (with_reducible first | exact HB.out | apply below_alloc | apply pw_below_drewN | apply below_drew1 | refine below_set ?_ GE157.out) | exact HB.out)) hb); clear BK157; clear HB; have HO167 := n0_; have BK157 := n1_; have HB := n2_; clear n0_ n1_ n2_; (try clear hb); (try clear hb2); (try clear hk); (try clear hi); (try clear ho0); (try simp only [errV_none, errV_some])))
              have n0_ := Aside0.mk (Kd.V_drew HO167.out)
              have n1_ := Aside0.mk (blk_drew BK157.out)
              have n2_ := Aside0.mk (below_drew1 HB.out)
              clear HO167
              clear BK157
              clear HB
              have HO167 := n0_
              have BK157 := n1_
              have HB := n2_
              clear n0_ n1_ n2_
              obtain ⟨Ao16, co16, eo16⟩ := Kd.V_slice HO167.out
              (first | subst eo16 | (injection eo16 with f1_ f2_ f3_; have f4_ := f1_.symm; have f5_ := f3_.symm; clear f1_ f2_ f3_; subst f4_; subst f5_))
              have hcv17 := Kd.C_string (P := Tryd.prog) (A := Ao16) (c := co16) Tryd.underlying187 Tryd.underlying5 Tryd.underlying9 (Kd.V_reads' HO167.out).2.2
              have hs_ : w14.drew.cell? ⟨gb157, 0, none⟩ = some (.string (⟨#[]⟩ : ByteArray)) := (blk_cell BK157.out 0).trans rfl
              have hfs_ : w14.drew.frozen? ⟨gb157, 0, none⟩ = false := blk_frozen BK157.out 0
              go_region
              all_goals
                try go_wp2
                refine bodyPost_ret (results_list (rs := [.tmp 2, .cell 3 81, .tmp 4]) rfl (by simp) (.tmp (.cell gb157 81 #[.string (strOfNums t165)] (0, 0) _ rfl (by (with_reducible repeat (first | refine blk_drewN ?_ _ | refine blk_drew ?_ | refine blk_alloc ?_ _)); refine blk_put (cs := #[.string (⟨#[]⟩ : ByteArray)]) ?_ 0 _ rfl; (with_reducible repeat (first | refine blk_drewN ?_ _ | refine blk_drew ?_ | refine blk_alloc ?_ _)); exact BK157.out) Tryd.underlying81 rfl (by kernel_rfl) (.tmp .nil)))) rfl ?_
                exact ExE.intro 0 .nilIface (⟨by first | rfl | (simp [errV_none, errV_some] <;> rfl) | (simp [*, errV_none, errV_some] <;> rfl), by repeat (first | (with_reducible first | exact HB.out | apply below_alloc | apply pw_below_drewN | apply below_drew1 | refine below_set ?_ GE157.out) | exact HB.out | exact ⟨HB.out.os, HB.out.tape, HB.out.output, HB.out.size, HB.out.block⟩)⟩)
            · have H1 : (none) = some (r1, r2, r3) := by rw [if_neg (show ¬ (some q169).isNone = true by simp)] at H; exact H
              clear H
              have H := H1
              clear H1
              try simp only [errV_none, errV_some]
              exact absurd H (by simp)
          · rw [if_neg c11] at H
            exact absurd H (by simp)
      · replace c8 := Bool.eq_false_iff.mpr c8
        subst c8
        have H1 : ((govarint_FromUvarint.f kj1 l0).bind fun bt170 => (if bt170.2.2.isNone = true then (if bt170.1 = 1 then (if 0 ≤ bt170.2.1 then (if bt170.2.1 ≤ (l0.length : Int) then ((govarint_FromUvarint.f kj1 (l0.drop (bt170.2.1 : Int).toNat)).bind fun bt179 => (if bt179.2.2.isNone = true then (if 0 ≤ (wrap64 (bt170.2.1 + bt179.2.1)) then (if (wrap64 (bt170.2.1 + bt179.2.1)) ≤ (l0.length : Int) then ((gomultihash_MHFromBytes.f kj1 (l0.drop ((wrap64 (bt170.2.1 + bt179.2.1)) : Int).toNat)).bind fun bt187 => (if bt187.2.2.isNone = true then (if 0 ≤ (wrap64 ((wrap64 (bt170.2.1 + bt179.2.1)) + bt187.1)) then (if (wrap64 ((wrap64 (bt170.2.1 + bt179.2.1)) + bt187.1)) ≤ (l0.length : Int) then (some (wrap64 ((wrap64 (bt170.2.1 + bt179.2.1)) + bt187.1), strOfNums ((l0.take ((wrap64 ((wrap64 (bt170.2.1 + bt179.2.1)) + bt187.1)) : Int).toNat).drop 0), none)) else (none)) else (none)) else (none))) else (none)) else (none)) else (none))) else (none)) else (none)) else ((errors_New.f (⟨#[101, 120, 112, 101, 99, 116, 101, 100, 32, 49, 32, 97, 115, 32, 116, 104, 101, 32, 99, 105, 100, 32, 118, 101, 114, 115, 105, 111, 110, 32, 110, 117, 109, 98, 101, 114, 44, 32, 103, 111, 116, 58]⟩ : ByteArray)).bind fun t174 => (none))) else (none))) = some (r1, r2, r3) := by rw [if_neg (show ¬ (false = true) by decide)] at H; exact H
        clear H
        have H := H1
        clear H1
        replace H := Option.bind_eq_some_iff.mp H
        obtain ⟨⟨t170, t171, t172⟩, A190, H⟩ := H
        replace H : (if t172.isNone = true then (if t170 = 1 then (if 0 ≤ t171 then (if t171 ≤ (l0.length : Int) then ((govarint_FromUvarint.f kj1 (l0.drop (t171 : Int).toNat)).bind fun bt179 => (if bt179.2.2.isNone = true then (if 0 ≤ (wrap64 (t171 + bt179.2.1)) then (if (wrap64 (t171 + bt179.2.1)) ≤ (l0.length : Int) then ((gomultihash_MHFromBytes.f kj1 (l0.drop ((wrap64 (t171 + bt179.2.1)) : Int).toNat)).bind fun bt187 => (if bt187.2.2.isNone = true then (if 0 ≤ (wrap64 ((wrap64 (t171 + bt179.2.1)) + bt187.1)) then (if (wrap64 ((wrap64 (t171 + bt179.2.1)) + bt187.1)) ≤ (l0.length : Int) then (some (wrap64 ((wrap64 (t171 + bt179.2.1)) + bt187.1), strOfNums ((l0.take ((wrap64 ((wrap64 (t171 + bt179.2.1)) + bt187.1)) : Int).toNat).drop 0), none)) else (none)) else (none)) else (none))) else (none)) else (none)) else (none))) else (none)) else (none)) else ((errors_New.f (⟨#[101, 120, 112, 101, 99, 116, 101, 100, 32, 49, 32, 97, 115, 32, 116, 104, 101, 32, 99, 105, 100, 32, 118, 101, 114, 115, 105, 111, 110, 32, 110, 117, 109, 98, 101, 114, 44, 32, 103, 111, 116, 58]⟩ : ByteArray)).bind fun t174 => (none))) else (none)) = some (r1, r2, r3) := H
        have A19 := Aside0.mk A190
        clear A190
        rcases t172 with _ | q173
        · have H1 : (if t170 = 1 then (if 0 ≤ t171 then (if t171 ≤ (l0.length : Int) then ((govarint_FromUvarint.f kj1 (l0.drop (t171 : Int).toNat)).bind fun bt179 => (if bt179.2.2.isNone = true then (if 0 ≤ (wrap64 (t171 + bt179.2.1)) then (if (wrap64 (t171 + bt179.2.1)) ≤ (l0.length : Int) then ((gomultihash_MHFromBytes.f kj1 (l0.drop ((wrap64 (t171 + bt179.2.1)) : Int).toNat)).bind fun bt187 => (if bt187.2.2.isNone = true then (if 0 ≤ (wrap64 ((wrap64 (t171 + bt179.2.1)) + bt187.1)) then (if (wrap64 ((wrap64 (t171 + bt179.2.1)) + bt187.1)) ≤ (l0.length : Int) then (some (wrap64 ((wrap64 (t171 + bt179.2.1)) + bt187.1), strOfNums ((l0.take ((wrap64 ((wrap64 (t171 + bt179.2.1)) + bt187.1)) : Int).toNat).drop 0), none)) else (none)) else (none)) else (none))) else (none)) else (none)) else (none))) else (none)) else (none)) else ((errors_New.f (⟨#[101, 120, 112, 101, 99, 116, 101, 100, 32, 49, 32, 97, 115, 32, 116, 104, 101, 32, 99, 105, 100, 32, 118, 101, 114, 115, 105, 111, 110, 32, 110, 117, 109, 98, 101, 114, 44, 32, 103, 111, 116, 58]⟩ : ByteArray)).bind fun t174 => (none))) = some (r1, r2, r3) := by rw [if_pos (show (none : Option Int).isNone = true by rfl)] at H; exact H
          clear H
          have H := H1
          clear H1
          try simp only [errV_none, errV_some]
          by_cases c20 : t170 = 1
          · rw [if_pos c20] at H
            have c20b0 : (t170 == 1) = true := beq_iff_eq.mpr c20
            have c20b1 : (t170 != 1) = false := bne_eq_false_iff_eq.mpr c20
            clear c20
            by_cases c21 : 0 ≤ t171
            · rw [if_pos c21] at H
              have c21b0 := eq_true c21
              have c21b1 : decide (0 ≤ t171) = true := decide_eq_true c21
              clear c21
              by_cases c22 : t171 ≤ (l0.length : Int)
              · rw [if_pos c22] at H
                have c22b0 := eq_true c22
                have c22b1 : decide (t171 ≤ (l0.length : Int)) = true := decide_eq_true c22
                clear c22
                obtain ⟨y175, hy175⟩ : ∃ y_ : List Int, y_ = (l0.drop (t171 : Int).toNat) := ⟨_, rfl⟩
                replace H : ((govarint_FromUvarint.f kj1 y175).bind fun bt179 => (if bt179.2.2.isNone = true then (if 0 ≤ (wrap64 (t171 + bt179.2.1)) then (if (wrap64 (t171 + bt179.2.1)) ≤ (l0.length : Int) then ((gomultihash_MHFromBytes.f kj1 (l0.drop ((wrap64 (t171 + bt179.2.1)) : Int).toNat)).bind fun bt187 => (if bt187.2.2.isNone = true then (if 0 ≤ (wrap64 ((wrap64 (t171 + bt179.2.1)) + bt187.1)) then (if (wrap64 ((wrap64 (t171 + bt179.2.1)) + bt187.1)) ≤ (l0.length : Int) then (some (wrap64 ((wrap64 (t171 + bt179.2.1)) + bt187.1), strOfNums ((l0.take ((wrap64 ((wrap64 (t171 + bt179.2.1)) + bt187.1)) : Int).toNat).drop 0), none)) else (none)) else (none)) else (none))) else (none)) else (none)) else (none))) = some (r1, r2, r3) := by first | (rw [hy175]; with_reducible exact H) | (have H2_ := (Option.bind_some _ _).symm.trans H; rw [hy175]; with_reducible exact H2_) | (have H2_ := (Option.bind_some _ _).symm.trans H; with_reducible exact H2_) | with_reducible exact H | (rw [hy175]; exact H) | exact H
                have Ny175 := Aside0.mk hy175
                clear hy175
                replace H := Option.bind_eq_some_iff.mp H
                obtain ⟨⟨t179, t180, t181⟩, A230, H⟩ := H
                replace H : (if t181.isNone = true then (if 0 ≤ (wrap64 (t171 + t180)) then (if (wrap64 (t171 + t180)) ≤ (l0.length : Int) then ((gomultihash_MHFromBytes.f kj1 (l0.drop ((wrap64 (t171 + t180)) : Int).toNat)).bind fun bt187 => (if bt187.2.2.isNone = true then (if 0 ≤ (wrap64 ((wrap64 (t171 + t180)) + bt187.1)) then (if (wrap64 ((wrap64 (t171 + t180)) + bt187.1)) ≤ (l0.length : Int) then (some (wrap64 ((wrap64 (t171 + t180)) + bt187.1), strOfNums ((l0.take ((wrap64 ((wrap64 (t171 + t180)) + bt187.1)) : Int).toNat).drop 0), none)) else (none)) else (none)) else (none))) else (none)) else (none)) else (none)) = some (r1, r2, r3) := H
                have A23 := Aside0.mk A230
                clear A230
                rcases t181 with _ | q182
                · have H1 : (if 0 ≤ (wrap64 (t171 + t180)) then (if (wrap64 (t171 + t180)) ≤ (l0.length : Int) then ((gomultihash_MHFromBytes.f kj1 (l0.drop ((wrap64 (t171 + t180)) : Int).toNat)).bind fun bt187 => (if bt187.2.2.isNone = true then (if 0 ≤ (wrap64 ((wrap64 (t171 + t180)) + bt187.1)) then (if (wrap64 ((wrap64 (t171 + t180)) + bt187.1)) ≤ (l0.length : Int) then (some (wrap64 ((wrap64 (t171 + t180)) + bt187.1), strOfNums ((l0.take ((wrap64 ((wrap64 (t171 + t180)) + bt187.1)) : Int).toNat).drop 0), none)) else (none)) else (none)) else (none))) else (none)) else (none)) = some (r1, r2, r3) := by rw [if_pos (show (none : Option Int).isNone = true by rfl)] at H; exact H
                  clear H
                  have H := H1
                  clear H1
                  try simp only [errV_none, errV_some]
                  obtain ⟨ji24, hji24⟩ : ∃ j_ : Int, (wrap64 (t171 + t180)) = j_ := ⟨_, rfl⟩
                  replace H : (if 0 ≤ (ji24) then (if (ji24) ≤ (l0.length : Int) then ((gomultihash_MHFromBytes.f kj1 (l0.drop ((ji24) : Int).toNat)).bind fun bt187 => (if bt187.2.2.isNone = true then (if 0 ≤ (wrap64 ((ji24) + bt187.1)) then (if (wrap64 ((ji24) + bt187.1)) ≤ (l0.length : Int) then (some (wrap64 ((ji24) + bt187.1), strOfNums ((l0.take ((wrap64 ((ji24) + bt187.1)) : Int).toNat).drop 0), none)) else (none)) else (none)) else (none))) else (none)) else (none)) = some (r1, r2, r3) := by first | (rw [hji24] at H; exact H) | (simp only [hji24] at H ⊢; exact H)
                  (try rw [hji24] at A19)
                  (try rw [hji24] at A23)
                  have hji24w : (IntKind.i64.wrap (t171 + t180)) = ji24 := (i64_w _).trans hji24
                  by_cases c25 : 0 ≤ (ji24)
                  · rw [if_pos c25] at H
                    have c25b0 := eq_true c25
                    have c25b1 : decide (0 ≤ (ji24)) = true := decide_eq_true c25
                    clear c25
                    by_cases c26 : (ji24) ≤ (l0.length : Int)
                    · rw [if_pos c26] at H
                      have c26b0 := eq_true c26
                      have c26b1 : decide ((ji24) ≤ (l0.length : Int)) = true := decide_eq_true c26
                      clear c26
                      obtain ⟨y183, hy183⟩ : ∃ y_ : List Int, y_ = (l0.drop ((ji24) : Int).toNat) := ⟨_, rfl⟩
                      replace H : ((gomultihash_MHFromBytes.f kj1 y183).bind fun bt187 => (if bt187.2.2.isNone = true then (if 0 ≤ (wrap64 ((ji24) + bt187.1)) then (if (wrap64 ((ji24) + bt187.1)) ≤ (l0.length : Int) then (some (wrap64 ((ji24) + bt187.1), strOfNums ((l0.take ((wrap64 ((ji24) + bt187.1)) : Int).toNat).drop 0), none)) else (none)) else (none)) else (none))) = some (r1, r2, r3) := by first | (rw [hy183]; with_reducible exact H) | (have H2_ := (Option.bind_some _ _).symm.trans H; rw [hy183]; with_reducible exact H2_) | (have H2_ := (Option.bind_some _ _).symm.trans H; with_reducible exact H2_) | with_reducible exact H | (rw [hy183]; exact H) | exact H
                      have Ny183 := Aside0.mk hy183
                      clear hy183
                      replace H := Option.bind_eq_some_iff.mp H
                      obtain ⟨⟨t187, t188, t191⟩, A270, H⟩ := H
                      replace H : (if t191.isNone = true then (if 0 ≤ (wrap64 ((ji24) + t187)) then (if (wrap64 ((ji24) + t187)) ≤ (l0.length : Int) then (some (wrap64 ((ji24) + t187), strOfNums ((l0.take ((wrap64 ((ji24) + t187)) : Int).toNat).drop 0), none)) else (none)) else (none)) else (none)) = some (r1, r2, r3) := H
                      have A27 := Aside0.mk A270
                      clear A270
                      rcases t191 with _ | q192
                      · have H1 : (if 0 ≤ (wrap64 ((ji24) + t187)) then (if (wrap64 ((ji24) + t187)) ≤ (l0.length : Int) then (some (wrap64 ((ji24) + t187), strOfNums ((l0.take ((wrap64 ((ji24) + t187)) : Int).toNat).drop 0), none)) else (none)) else (none)) = some (r1, r2, r3) := by rw [if_pos (show (none : Option Int).isNone = true by rfl)] at H; exact H
                        clear H
                        have H := H1
                        clear H1
                        try simp only [errV_none, errV_some]
                        obtain ⟨ji28, hji28⟩ : ∃ j_ : Int, (wrap64 ((ji24) + t187)) = j_ := ⟨_, rfl⟩
                        replace H : (if 0 ≤ (ji28) then (if (ji28) ≤ (l0.length : Int) then (some (ji28, strOfNums ((l0.take ((ji28) : Int).toNat).drop 0), none)) else (none)) else (none)) = some (r1, r2, r3) := by first | (rw [hji28] at H; exact H) | (simp only [hji28] at H ⊢; exact H)
                        (try rw [hji28] at A19)
                        (try rw [hji28] at A23)
                        (try rw [hji28] at A27)
                        have hji28w : (IntKind.i64.wrap ((ji24) + t187)) = ji28 := (i64_w _).trans hji28
                        by_cases c29 : 0 ≤ (ji28)
                        · rw [if_pos c29] at H
                          have c29b0 := eq_true c29
                          have c29b1 : decide (0 ≤ (ji28)) = true := decide_eq_true c29
                          clear c29
                          by_cases c30 : (ji28) ≤ (l0.length : Int)
                          · rw [if_pos c30] at H
                            have c30b0 := eq_true c30
                            have c30b1 : decide ((ji28) ≤ (l0.length : Int)) = true := decide_eq_true c30
                            clear c30
                            obtain ⟨y193, hy193⟩ : ∃ y_ : List Int, y_ = ((l0.take ((ji28) : Int).toNat).drop 0) := ⟨_, rfl⟩
                            replace H : (some (ji28, strOfNums y193, none)) = some (r1, r2, r3) := by first | (rw [hy193]; with_reducible exact H) | (have H2_ := (Option.bind_some _ _).symm.trans H; rw [hy193]; with_reducible exact H2_) | (have H2_ := (Option.bind_some _ _).symm.trans H; with_reducible exact H2_) | with_reducible exact H | (rw [hy193]; exact H) | exact H
                            have Ny193 := Aside0.mk hy193
                            clear hy193
                            simp only [Option.some.injEq, Prod.mk.injEq] at H
                            obtain ⟨rfl, rfl, rfl⟩ := H
                            try go_wp2_with (first | ((with_reducible refine gate_callee (f := 109) rfl ?_); refine goesL_ (some 54) rfl rfl Tryd.func109 (by kernel_rfl) rfl #[.slice A0 l0.length c0] rfl (by (try simp only [List.map_toArray, List.map_cons, List.map_nil]); first | done | rfl | (simp only [List.length_drop, List.length_take]; rfl)) ?_; (with_reducible refine (govarint_FromUvarint.calls kj1 _ _ l0 t170 t171 none _ ?side1 ?side2 A19.out).mono ?_); (case side1 => repeat (first | exact (Kd.C_below HR0.out HB.out) | (with_reducible refine Kd.C_alloc ?_ _) | (with_reducible refine Kd.C_drewN ?_ _) | (with_reducible refine Kd.C_drew ?_))); (case side2 => exact HC0.out); rintro e w' ⟨eT_t172, eX_t172, rfl, ⟨nd, rfl⟩⟩; refine ⟨_, rfl, ?_⟩; (try simp only [errV_none, errV_some]); (try (rw [drewN_self wc]; generalize hq_ : World.drewN wc _ = wc; have n0_ : Aside0 (wc.heap[gb157]? = some (.cells #[.string (⟨#[]⟩ : ByteArray)] 81 (0, 0))) := ⟨by rw [← hq_]; exact (by (with_reducible repeat (first | refine blk_drewN ?_ _ | refine blk_drew ?_ | refine blk_alloc ?_ _)); exact BK157.out)⟩; have n1_ : Aside0 (Below w.heap.size w wc) := ⟨by rw [← hq_]; exact (by repeat (first | (with_reducible first | exact HB.out | apply below_alloc | apply pw_below_drewN | apply below_drew1 | refine below_set ?_ GE157.out) | exact HB.out))⟩; clear BK157 HB hq_; have BK157 := n0_; have HB := n1_; clear n0_ n1_)); have q31 : (t171 : Int) ≤ ((l0.length : Int) : Int) := of_decide_eq_true (by first | (with_reducible assumption) | assumption); obtain ⟨i031, hi031, _, hsz31, _⟩ := info_parts info5; have hroom31 : l0.length ≤ c0 := HC0.out; have hC31 : Kd.C (Kd.int .u8) _ A0 l0.length l0 := HR0.out; have q031 : (0 : Int) ≤ (t171 : Int) := of_decide_eq_true (by first | (with_reducible assumption) | assumption); have hcut31 := cut_from (P := Tryd.prog) 24 5 .i64 Tryd.underlying24 hi031 1 hsz31 A0 l0.length c0 t171 q031 q31; have hr31 := Kd.C_drop (m := (t171 : Int).toNat) (c := c0) hC31 (by omega) hroom31; obtain ⟨A31, hA31⟩ : ∃ A1, A1 = (if c0 = (t171 : Int).toNat then A0 else (A0 : Option Addr).map (·.add ((t171 : Int).toNat * 1))) := ⟨_, rfl⟩; obtain ⟨c31, hc31⟩ : ∃ c1, c1 = c0 - (t171 : Int).toNat := ⟨_, rfl⟩; have hy31 : y175.length = l0.length - (t171 : Int).toNat := (by rw [Ny175.out, List.length_drop] <;> omega); rw [show (l0).drop (t171 : Int).toNat = y175 from Ny175.out.symm] at hr31; replace hr31 : Kd.C (Kd.int .u8) _ A31 y175.length y175 := (by rw [hA31]; exact hr31); rw [← hy31, ← hA31, ← hc31] at hcut31; have HR178 := Aside0.mk hr31; have HC178 := Aside0.mk (show y175.length ≤ c31 from by rw [hy31, hc31]; exact Nat.sub_le_sub_right hroom31 _); clear hr31 hC31 hroom31 hi031 hsz31 hc31; have KY31 := Aside0.mk hy31; have KA31 := Aside0.mk hA31; clear hy31 hA31; replace q31 := eq_true q31) | ((with_reducible refine gate_callee (f := 109) rfl ?_); refine goesL_ (some 74) rfl rfl Tryd.func109 (by kernel_rfl) rfl #[.slice A31 y175.length c31] rfl (by (try simp only [List.map_toArray, List.map_cons, List.map_nil]); first | done | rfl | (simp only [List.length_drop, List.length_take]; rfl)) ?_; (with_reducible refine (govarint_FromUvarint.calls kj1 _ _ y175 t179 t180 none _ ?side1 ?side2 A23.out).mono ?_); (case side1 => repeat (first | exact (Kd.C_below HR178.out HB.out) | (with_reducible refine Kd.C_alloc ?_ _) | (with_reducible refine Kd.C_drewN ?_ _) | (with_reducible refine Kd.C_drew ?_))); (case side2 => exact HC178.out); rintro e w' ⟨eT_t181, eX_t181, rfl, ⟨nd, rfl⟩⟩; refine ⟨_, rfl, ?_⟩; (try simp only [errV_none, errV_some]); (try (rw [drewN_self wc]; generalize hq_ : World.drewN wc _ = wc; have n0_ : Aside0 (wc.heap[gb157]? = some (.cells #[.string (⟨#[]⟩ : ByteArray)] 81 (0, 0))) := ⟨by rw [← hq_]; exact (by (with_reducible repeat (first | refine blk_drewN ?_ _ | refine blk_drew ?_ | refine blk_alloc ?_ _)); exact BK157.out)⟩; have n1_ : Aside0 (Below w.heap.size w wc) := ⟨by rw [← hq_]; exact (by repeat (first | (with_reducible first | exact HB.out | apply below_alloc | apply pw_below_drewN | apply below_drew1 | refine below_set ?_ GE157.out) | exact HB.out))⟩; clear BK157 HB hq_; have BK157 := n0_; have HB := n1_; clear n0_ n1_)); have q32 : ((ji24) : Int) ≤ ((l0.length : Int) : Int) := of_decide_eq_true (by first | (with_reducible assumption) | assumption); obtain ⟨i032, hi032, _, hsz32, _⟩ := info_parts info5; have hroom32 : l0.length ≤ c0 := HC0.out; have hC32 : Kd.C (Kd.int .u8) _ A0 l0.length l0 := HR0.out; have q032 : (0 : Int) ≤ ((ji24) : Int) := of_decide_eq_true (by first | (with_reducible assumption) | assumption); have hcut32 := cut_from (P := Tryd.prog) 24 5 .i64 Tryd.underlying24 hi032 1 hsz32 A0 l0.length c0 (ji24) q032 q32; have hr32 := Kd.C_drop (m := ((ji24) : Int).toNat) (c := c0) hC32 (by omega) hroom32; obtain ⟨A32, hA32⟩ : ∃ A1, A1 = (if c0 = ((ji24) : Int).toNat then A0 else (A0 : Option Addr).map (·.add (((ji24) : Int).toNat * 1))) := ⟨_, rfl⟩; obtain ⟨c32, hc32⟩ : ∃ c1, c1 = c0 - ((ji24) : Int).toNat := ⟨_, rfl⟩; have hy32 : y183.length = l0.length - ((ji24) : Int).toNat := (by rw [Ny183.out, List.length_drop] <;> omega); rw [show (l0).drop ((ji24) : Int).toNat = y183 from Ny183.out.symm] at hr32; replace hr32 : Kd.C (Kd.int .u8) _ A32 y183.length y183 := (by rw [hA32]; exact hr32); rw [← hy32, ← hA32, ← hc32] at hcut32; have HR186 := Aside0.mk hr32; have HC186 := Aside0.mk (show y183.length ≤ c32 from by rw [hy32, hc32]; exact Nat.sub_le_sub_right hroom32 _); clear hr32 hC32 hroom32 hi032 hsz32 hc32; have KY32 := Aside0.mk hy32; have KA32 := Aside0.mk hA32; clear hy32 hA32; replace q32 := eq_true q32) | ((with_reducible refine gate_callee (f := 110) rfl ?_); refine goesL_ (some 90) rfl rfl Tryd.func110 (by kernel_rfl) rfl #[.slice A32 y183.length c32] rfl (by (try simp only [List.map_toArray, List.map_cons, List.map_nil]); first | done | rfl | (simp only [List.length_drop, List.length_take]; rfl)) ?_; (with_reducible refine (gomultihash_MHFromBytes.calls kj1 (fun k_ => k_ < w.heap.size) _ _ y183 t187 t188 none _ ?side1 A27.out).mono ?_); (case side1 => exact Kd.V_mk HC186.out (Kd.F_below (Kd.C_F (Kd.heap_int .u8) HR186.out) (by repeat (first | (with_reducible first | exact HB.out | apply below_alloc | apply pw_below_drewN | apply below_drew1 | refine below_set ?_ GE157.out) | exact HB.out)))); rintro e w33 ⟨v189, eT_t191, eX_t191, rfl, ho0, hb⟩; refine ⟨_, rfl, ?_⟩; have n0_ := Aside0.mk (Kd.V_lower (Kd.V_mono (ok' := fun k_ => k_ ≠ gb157) ho0 (fun k_ hk_ => Or.elim hk_ (fun hs_ => fun e_ => Nat.not_le.2 hs_ (by rw [e_]; exact GW157.out)) (fun hn_ => (Kd.freshB (g := gb157) (o := .cells #[.string (⟨#[]⟩ : ByteArray)] 81 (0, 0)) (by (with_reducible repeat (first | refine blk_drewN ?_ _ | refine blk_drew ?_ | refine blk_alloc ?_ _)); exact BK157.out) k_ hn_)))) (below_size (by repeat (first | (with_reducible first | exact HB.out | apply below_alloc | apply pw_below_drewN | apply below_drew1 | refine below_set ?_ GE157.out) | exact HB.out)))); have n1_ := Aside0.mk (blk_below (g := gb157) (o := .cells #[.string (⟨#[]⟩ : ByteArray)] 81 (0, 0)) (by (with_reducible repeat (first | refine blk_drewN ?_ _ | refine blk_drew ?_ | refine blk_alloc ?_ _)); exact BK157.out) hb); have n2_ := Aside0.mk (below_step (by repeat (first | (with_reducible first | exact HB.out | apply below_alloc | apply pw_below_drewN | apply below_drew1 | refine below_set ?_ GE157.out) | exact HB.out)) hb); clear BK157; clear HB; have HO190 := n0_; have BK157 := n1_; have HB := n2_; clear n0_ n1_ n2_; (try clear hb); (try clear hb2); (try clear hk); (try clear hi); (try clear ho0); (try simp only [errV_none, errV_some])))
                            have n0_ := Aside0.mk (Kd.V_drew HO190.out)
                            have n1_ := Aside0.mk (blk_drew BK157.out)
                            have n2_ := Aside0.mk (below_drew1 HB.out)
                            clear HO190
                            clear BK157
                            clear HB
                            have HO190 := n0_
                            have BK157 := n1_
                            have HB := n2_
                            clear n0_ n1_ n2_
                            have q35 : ((ji28) : Int) ≤ ((l0.length : Int) : Int) := of_decide_eq_true (by first | (with_reducible assumption) | assumption)
                            obtain ⟨i035, hi035, _, hsz35, _⟩ := info_parts info5
                            have hroom35 : l0.length ≤ c0 := HC0.out
                            have hC35 : Kd.C (Kd.int .u8) _ A0 l0.length l0 := HR0.out
                            have ql35 : (0 : Int) ≤ ((ji28) : Int) := of_decide_eq_true (by first | (with_reducible assumption) | assumption)
                            have hcut35 := cut_mid (P := Tryd.prog) 24 5 .i64 .i64 Tryd.underlying24 hi035 1 hsz35 A0 l0.length c0 0 (ji28) (by omega) ql35 q35 hroom35
                            have hr35 := Kd.C_mid (lo := (0 : Int).toNat) (hi := ((ji28) : Int).toNat) (c := c0) hC35 (by omega) (by omega) hroom35
                            obtain ⟨A35, hA35⟩ : ∃ A1, A1 = (if c0 = (0 : Int).toNat then A0 else (A0 : Option Addr).map (·.add ((0 : Int).toNat * 1))) := ⟨_, rfl⟩
                            obtain ⟨c35, hc35⟩ : ∃ c1, c1 = c0 - (0 : Int).toNat := ⟨_, rfl⟩
                            have hy35 : y193.length = ((ji28) : Int).toNat - (0 : Int).toNat := (by rw [Ny193.out, List.length_drop, List.length_take] <;> omega)
                            rw [show ((l0).take ((ji28) : Int).toNat).drop (0 : Int).toNat = y193 from Ny193.out.symm] at hr35
                            replace hr35 : Kd.C (Kd.int .u8) _ A35 y193.length y193 := (by rw [hA35]; exact hr35)
                            rw [← hy35, ← hA35, ← hc35] at hcut35
                            have HR196 := Aside0.mk hr35
                            have HC196 := Aside0.mk (show y193.length ≤ c35 from by rw [hy35, hc35]; exact Nat.sub_le_sub_right (Nat.le_trans (by omega) hroom35) _)
                            clear hr35 hC35 hroom35 hi035 hsz35 hc35
                            have KY35 := Aside0.mk hy35
                            have KA35 := Aside0.mk hA35
                            clear hy35 hA35
                            replace q35 := eq_true q35
                            have hcv36 := Kd.C_string (P := Tryd.prog) (A := A35) (c := c35) Tryd.underlying24 Tryd.underlying5 Tryd.underlying9 (Kd.C_below HR196.out HB.out)
                            have hs_ : w33.drew.cell? ⟨gb157, 0, none⟩ = some (.string (⟨#[]⟩ : ByteArray)) := (blk_cell BK157.out 0).trans rfl
                            have hfs_ : w33.drew.frozen? ⟨gb157, 0, none⟩ = false := blk_frozen BK157.out 0
                            go_region
                            all_goals
                              try go_wp2
                              refine bodyPost_ret (results_list (rs := [.tmp 2, .cell 3 81, .tmp 4]) rfl (by simp) (.tmp (.cell gb157 81 #[.string (strOfNums y193)] (0, 0) _ rfl (by (with_reducible repeat (first | refine blk_drewN ?_ _ | refine blk_drew ?_ | refine blk_alloc ?_ _)); refine blk_put (cs := #[.string (⟨#[]⟩ : ByteArray)]) ?_ 0 _ rfl; (with_reducible repeat (first | refine blk_drewN ?_ _ | refine blk_drew ?_ | refine blk_alloc ?_ _)); exact BK157.out) Tryd.underlying81 rfl (by kernel_rfl) (.tmp .nil)))) rfl ?_
                              exact ExE.intro 0 .nilIface (⟨by first | rfl | (simp [errV_none, errV_some] <;> rfl) | (simp only [← hji24, ← hji28]; first | rfl | (simp [errV_none, errV_some] <;> rfl)) | (simp [*, errV_none, errV_some] <;> rfl), by repeat (first | (with_reducible first | exact HB.out | apply below_alloc | apply pw_below_drewN | apply below_drew1 | refine below_set ?_ GE157.out) | exact HB.out | exact ⟨HB.out.os, HB.out.tape, HB.out.output, HB.out.size, HB.out.block⟩)⟩)
                          · rw [if_neg c30] at H
                            exact absurd H (by simp)
                        · rw [if_neg c29] at H
                          exact absurd H (by simp)
                      · have H1 : (none) = some (r1, r2, r3) := by rw [if_neg (show ¬ (some q192).isNone = true by simp)] at H; exact H
                        clear H
                        have H := H1
                        clear H1
                        try simp only [errV_none, errV_some]
                        exact absurd H (by simp)
                    · rw [if_neg c26] at H
                      exact absurd H (by simp)
                  · rw [if_neg c25] at H
                    exact absurd H (by simp)
                · have H1 : (none) = some (r1, r2, r3) := by rw [if_neg (show ¬ (some q182).isNone = true by simp)] at H; exact H
                  clear H
                  have H := H1
                  clear H1
                  try simp only [errV_none, errV_some]
                  exact absurd H (by simp)
              · rw [if_neg c22] at H
                exact absurd H (by simp)
            · rw [if_neg c21] at H
              exact absurd H (by simp)
          · rw [if_neg c20] at H
            have c20b0 : (t170 == 1) = false := beq_eq_false_iff_ne.mpr c20
            have c20b1 : (t170 != 1) = true := bne_iff_ne.mpr c20
            replace H := Option.bind_eq_some_iff.mp H
            obtain ⟨t174, A380, H⟩ := H
            replace H : (none) = some (r1, r2, r3) := H
            have A38 := Aside0.mk A380
            clear A380
            exact absurd H (by simp)
        · have H1 : (none) = some (r1, r2, r3) := by rw [if_neg (show ¬ (some q173).isNone = true by simp)] at H; exact H
          clear H
          have H := H1
          clear H1
          try simp only [errV_none, errV_some]
          exact absurd H (by simp)

end Go.Proofs.YteekkpofcbcikaaDoor.PWan
