/- Printed by a program of this session (it drives the print of the kit, with contracts proved by hand beside): the Go functions of one law as Lean functions, and that the Go code comes to what they say. -/
import Derived.Test.YteekkpofcbcikaaDoorPWanx0
namespace Go.Proofs.YteekkpofcbcikaaDoor.PWan
open Go.RowKit Go.Proofs.YteekkpofcbcikaaDoorL Go.Proofs.YteekkpofcbcikaaDoorW.PrintWords Go.Proofs.YteekkpofcbcikaaDoorW.PrintLast Go.Proofs.YteekkpofcbcikaaDoorW.PrintMore
attribute [local go_sem] max2_int min2_int max_two min_two max_three min_three max_four min_four   -- for this text's walks alone
set_option linter.unusedVariables false
set_option linter.unusedSimpArgs false

-- NOT PRINTED: function 30 (laws_key)

/-! ### laws_identifier: function 8, by hand -/
-- HAND pub-tholos/laws.identifier
-- making: yes
/-- The bytes of an identifier, by its number. -/
def laws_identifier.f (a0 : Int) : Option (List Int) := if 0 ≤ a0 ∧ a0 < 256 then some (Go.Proofs.YteekkpofcbcikaaDoor.HandWan.idB a0.toNat) else none
theorem laws_identifier.calls (a0 : Int) (r : List Int) (w : World) (h : laws_identifier.f a0 = some r) :
    Calls Tryd.prog 8 #[.int .u8 a0] w fun e w' => ∃ v0_ : Value, e = .returned (v0_) ∧ Kd.R (Kd.int .u8) 5 w' w.heap.size (fun _ => True) v0_ r ∧ Below w.heap.size w w' := by
  unfold laws_identifier.f at h
  by_cases hg : 0 ≤ a0 ∧ a0 < 256
  case neg => rw [if_neg hg] at h; cases h
  rw [if_pos hg] at h
  obtain rfl := Option.some.inj h
  obtain ⟨g2, g3⟩ := hg
  obtain ⟨m, rfl⟩ := Int.eq_ofNat_of_zero_le g2
  rw [Int.toNat_natCast]
  exact Go.Proofs.YteekkpofcbcikaaDoor.HandWan.identifier_calls m (by omega) w


/-! ### bytes_Clone: function 23, by hand -/
-- HAND bytes.Clone
-- making: yes
/-- A copy of a slice, nil or not. -/
def bytes_Clone.f (l0 : List Int) : Option (List Int) := if l0.length * 1 ≤ 140737488351232 then some l0 else none
theorem bytes_Clone.infoE : (Tryd.prog.info? 5).map (fun i => (i.zero, i.size, i.bytes)) = some (some (.int .u8 0), 1, 1) := by kernel_rfl
set_option maxHeartbeats 2000000 in
set_option maxRecDepth 100000 in
theorem bytes_Clone.calls (A0 : Option Addr) (c0 : Nat) (l0 : List Int) (r : List Int) (w : World) (hr0 : Kd.C (Kd.int .u8) w A0 l0.length l0) (hc0 : l0.length ≤ c0) (h : bytes_Clone.f l0 = some r) :
    Calls Tryd.prog 23 #[.slice A0 l0.length c0] w fun e w' => ∃ v0_ : Value, e = .returned (v0_) ∧ Kd.R (Kd.int .u8) 5 w' w.heap.size (fun _ => True) v0_ r ∧ Below w.heap.size w w' := by
  unfold bytes_Clone.f at h
  by_cases hl : l0.length * 1 ≤ 140737488351232
  case neg => rw [if_neg hl] at h; exact absurd h (by simp)
  rw [if_pos hl] at h
  obtain rfl := Option.some.inj h
  clear h
  have qs : ∀ (w : World) (a : Option Addr) (n c n' c' : Nat), (binOp .eql 24 (.slice a n c) (.slice none n' c')).run Tryd.prog w = .ok (.bool a.isNone) w := fun w a n c n' c' => Lib.run_eql_slice_nil w _ _ a n c n' c' Tryd.underlying24
  have HB := Aside0.mk (Below.refl w.heap.size w)
  have HR0 := Aside0.mk hr0
  have HL := Aside0.mk hl
  clear hr0 hl hc0
  cases A0 with
  | none =>
    have e0 : l0 = [] := by
      have h1 := HR0.out
      rcases Nat.eq_zero_or_pos l0.length with h0 | h0
      · exact List.eq_nil_of_length_eq_zero h0
      · obtain ⟨ad, e, _⟩ := h1.2.2 h0
        exact absurd e (by simp)
    subst e0
    clear HR0 HL
    go_enter Tryd.func23, Tryd.ntmps23
    go_wp2
    go_ret
    exact ⟨_, rfl, Kd.R_nil _ _ _ _ _, HB.out⟩
  | some a =>
    have e5 : 0 ≤ 5 := by decide
    obtain ⟨i0, hi, hz0, hz1, hz2⟩ := info_parts bytes_Clone.infoE
    have z5 : ∀ w, Sem.run Tryd.prog (Go.sizeOf 5) w = .ok 1 w := fun w => by simp [Go.sizeOf, typeInfo, hi, hz1]
    clear e5 hi hz0 hz1 hz2
    go_enter Tryd.func23, Tryd.ntmps23
    go_wp2_with (at_builtin; refine Kd.R_append_rows (Kd.int .u8) (Rr := fun x cs => cs = [Value.int .u8 x]) (w0 := w) w.heap.size rfl (.tmp 5) (.tmp 6) 24 5 (.int .u8 0) 1 rfl Tryd.underlying24 bytes_Clone.infoE rfl (by decide) (by decide) _ [] l0 (some a) l0.length c0 (fun _ => True) (fun _ => False) rfl rfl ?aO ?aR ?aM (fun _ hk => hk.elim) (fun _ _ => trivial) ?aB ?aS ?aL ?_)
    case aO => exact Kd.R_of_own (xs := ([] : List Int)) (World.ownsRow_made w #[] 0 (Nat.le_refl _) (Nat.zero_le _) rfl) (fun _ _ => trivial)
    case aR => exact Kd.C_alloc HR0.out _
    case aM => exact fun x cs hx => hx
    case aB => exact below_alloc HB.out _
    case aS => exact below_size (below_alloc HB.out _)
    case aL => have := HL.out; simp only [List.length_nil]; omega
    intro v1 w1 hR hb hg hat
    have HR1 := Aside0.mk hR
    have HB1 := Aside0.mk hb
    clear hR hb hg hat
    go_wp2
    go_ret
    exact ⟨_, rfl, HR1.out, HB1.out⟩


-- NOT PRINTED: function 32 (wantlist_New)

/-! ### slices_Index_string_string: function 72 -/
def slices_Index_string_string.l0 : Nat → List ByteArray → ByteArray → Int → Int → Option (Int)
  | 0, _, _, _, _ => none
  | k + 1, x0, x1, x7, x8 => if x8 < x7 then (if 0 ≤ x8 then (if x8 < (x0.length : Int) then (if x1.toList = (rdOf ByteArray.empty x0 x8).toList then (some x8) else (slices_Index_string_string.l0 k x0 x1 x7 (wrap64 (x8 + 1)))) else (none)) else (none)) else (some (-1))
def slices_Index_string_string.f (k : Nat) (l0 : List ByteArray) (a1 : ByteArray) : Option (Int) := slices_Index_string_string.l0 k l0 a1 (l0.length : Int) 0
theorem slices_Index_string_string.mono_l : ∀ k, (∀ y0 y1 y2 y3, LeO (slices_Index_string_string.l0 k y0 y1 y2 y3) (slices_Index_string_string.l0 (k + 1) y0 y1 y2 y3))
  | 0 => fun _ _ _ _ r h => by simp [slices_Index_string_string.l0] at h
  | k + 1 => by
    have ih0 := slices_Index_string_string.mono_l k
    · intro y0 y1 y2 y3
      unfold slices_Index_string_string.l0
      repeat' first
      | (with_reducible exact ih0 _ _ _ _)
      | (with_reducible exact LeO.refl _)
      | (with_reducible exact LeO.none _)
      | (with_reducible refine LeO.ite ?_ ?_)
      | (with_reducible refine LeO.bind ?_ (fun _ => ?_))
      | exact ih0 _ _ _ _
      | exact LeO.none _
      | refine LeO.ite ?_ ?_
      | refine LeO.bind ?_ (fun _ => ?_)
theorem slices_Index_string_string.mono : ∀ a0 a1 k, LeO (slices_Index_string_string.f k a0 a1) (slices_Index_string_string.f (k + 1) a0 a1) := by
  intro a0 a1 k
  have ih0 := slices_Index_string_string.mono_l k
  unfold slices_Index_string_string.f
  repeat' first
      | (with_reducible exact ih0 _ _ _ _)
      | (with_reducible exact LeO.refl _)
      | (with_reducible exact LeO.none _)
      | (with_reducible refine LeO.ite ?_ ?_)
      | (with_reducible refine LeO.bind ?_ (fun _ => ?_))
      | exact ih0 _ _ _ _
      | exact LeO.none _
      | refine LeO.ite ?_ ?_
      | refine LeO.bind ?_ (fun _ => ?_)
set_option maxHeartbeats 8000000 in
set_option maxRecDepth 100000 in
theorem slices_Index_string_string.calls (k : Nat) (A0 : Option Addr) (c0 : Nat) (l0 : List ByteArray) (a1 : ByteArray) (r : Int) (w : World) (hr0 : Kd.C Kd.string w A0 l0.length l0) (hc0 : l0.length ≤ c0) (h : slices_Index_string_string.f k l0 a1 = some r) :
    Calls Tryd.prog 72 #[.slice A0 l0.length c0, .string a1] w fun e w' => e = .returned (.int .i64 r) ∧ Drawn0 w w' := by
  have HR0 := Aside0.mk hr0
  have HC0 := Aside0.mk hc0
  clear hr0 hc0
  have H : (slices_Index_string_string.l0 k l0 a1 (l0.length : Int) 0) = some r := h
  clear h
  have H' := Aside0.mk H
  clear H
  go_enter Tryd.func72, Tryd.ntmps72
  go_wp2
  go_loopg [8] k (fun kq v8 w' => ∃ (x8_1 : Int), v8 = .int .i64 x8_1 ∧ Aside0 (slices_Index_string_string.l0 kq l0 a1 (l0.length : Int) x8_1 = some r) ∧ Aside0 (kq ≤ k) ∧ Drawn0 w w')
  case atStart => exact ⟨(0), (by first | rfl | (simp; done) | (simp [*]; done)), H', ⟨Nat.le_refl _⟩, by repeat (first | exact Drawn0.refl _ | apply Drawn0.step)⟩
  case round =>
    clear H'
    try clear p2
    obtain ⟨x8_1, rfl, HA, HK1, ⟨m1, rfl⟩⟩ := hrel
    cases gk with
    | zero => exact absurd HA.out (by simp [slices_Index_string_string.l0])
    | succ k1 =>
      have H := HA.out
      clear HA
      simp only [slices_Index_string_string.l0] at H
      by_cases c3 : x8_1 < (l0.length : Int)
      · rw [if_pos c3] at H
        have c3b0 : decide (x8_1 < (l0.length : Int)) = true := decide_eq_true c3
        clear c3
        by_cases c4 : 0 ≤ x8_1
        · rw [if_pos c4] at H
          have c4b0 : decide (0 ≤ x8_1) = true := decide_eq_true c4
          clear c4
          by_cases c5 : x8_1 < (l0.length : Int)
          · rw [if_pos c5] at H
            have c5b0 : decide (x8_1 < (l0.length : Int)) = true := decide_eq_true c5
            clear c5
            by_cases c6 : a1.toList = (rdOf ByteArray.empty l0 x8_1).toList
            · rw [if_pos c6] at H
              have c6b0 : (a1.toList == (rdOf ByteArray.empty l0 x8_1).toList) = true := beq_iff_eq.mpr c6
              have c6b1 : (a1.toList != (rdOf ByteArray.empty l0 x8_1).toList) = false := bne_eq_false_iff_eq.mpr c6
              clear c6
              obtain rfl := Option.some.inj H
              have p101 : 0 ≤ (x8_1 : Int) := of_decide_eq_true (by first | (with_reducible assumption) | assumption)
              have q101 : x8_1 < (l0.length : Int) := of_decide_eq_true (by first | (with_reducible assumption) | assumption)
              obtain ⟨ad101, e101, hx101_0⟩ := Kd.at_string HR0.out x8_1 p101 q101
              cases e101
              replace p101 := eq_true p101
              replace q101 := eq_true q101
              go_wp2
              go_ret
              exact ⟨by first | rfl | (simp; done) | (simp [*]; done), by repeat (first | exact Drawn0.refl _ | apply Drawn0.step)⟩
            · rw [if_neg c6] at H
              have c6b0 : (a1.toList == (rdOf ByteArray.empty l0 x8_1).toList) = false := beq_eq_false_iff_ne.mpr c6
              have c6b1 : (a1.toList != (rdOf ByteArray.empty l0 x8_1).toList) = true := bne_iff_ne.mpr c6
              have H' := Aside0.mk H
              clear H
              have p101 : 0 ≤ (x8_1 : Int) := of_decide_eq_true (by first | (with_reducible assumption) | assumption)
              have q101 : x8_1 < (l0.length : Int) := of_decide_eq_true (by first | (with_reducible assumption) | assumption)
              obtain ⟨ad101, e101, hx101_0⟩ := Kd.at_string HR0.out x8_1 p101 q101
              cases e101
              replace p101 := eq_true p101
              replace q101 := eq_true q101
              go_wp2
              go_roundg k1
              case measure => have := HK1.out; omega
              case rel => exact ⟨(wrap64 (x8_1 + 1)), (by first | rfl | (simp; done) | (simp [*]; done)), H', ⟨by have := HK1.out; omega⟩, by repeat (first | exact Drawn0.refl _ | apply Drawn0.step)⟩
          · rw [if_neg c5] at H
            exact absurd H (by simp)
        · rw [if_neg c4] at H
          exact absurd H (by simp)
      · rw [if_neg c3] at H
        have c3b0 : decide (x8_1 < (l0.length : Int)) = false := decide_eq_false c3
        clear c3
        obtain rfl := Option.some.inj H
        go_wp2
        go_ret
        exact ⟨by first | rfl | (simp; done) | (simp [*]; done), by repeat (first | exact Drawn0.refl _ | apply Drawn0.step)⟩

/-! ### slices_Contains_string_string: function 33 -/
def slices_Contains_string_string.f (k : Nat) (l0 : List ByteArray) (a1 : ByteArray) : Option (Bool) := (slices_Index_string_string.f k l0 a1).bind fun t102 => (some (decide (t102 ≥ 0)))
theorem slices_Contains_string_string.mono : ∀ a0 a1 k, LeO (slices_Contains_string_string.f k a0 a1) (slices_Contains_string_string.f (k + 1) a0 a1) := by
  intro a0 a1 k
  unfold slices_Contains_string_string.f
  repeat' first
      | (with_reducible exact slices_Index_string_string.mono _ _ _)
      | (with_reducible exact LeO.refl _)
      | (with_reducible exact LeO.none _)
      | (with_reducible refine LeO.ite ?_ ?_)
      | (with_reducible refine LeO.bind ?_ (fun _ => ?_))
      | exact slices_Index_string_string.mono _ _ _
      | exact LeO.none _
      | refine LeO.ite ?_ ?_
      | refine LeO.bind ?_ (fun _ => ?_)
set_option maxHeartbeats 8000000 in
set_option maxRecDepth 100000 in
theorem slices_Contains_string_string.calls (k : Nat) (A0 : Option Addr) (c0 : Nat) (l0 : List ByteArray) (a1 : ByteArray) (r : Bool) (w : World) (hr0 : Kd.C Kd.string w A0 l0.length l0) (hc0 : l0.length ≤ c0) (h : slices_Contains_string_string.f k l0 a1 = some r) :
    Calls Tryd.prog 33 #[.slice A0 l0.length c0, .string a1] w fun e w' => e = .returned (.bool r) ∧ Drawn0 w w' := by
  have HR0 := Aside0.mk hr0
  have HC0 := Aside0.mk hc0
  clear hr0 hc0
  have H : ((slices_Index_string_string.f k l0 a1).bind fun t102 => (some (decide (t102 ≥ 0)))) = some r := h
  clear h
  replace H := Option.bind_eq_some_iff.mp H
  obtain ⟨t102, A30, H⟩ := H
  replace H : (some (decide (t102 ≥ 0))) = some r := H
  have A3 := Aside0.mk A30
  clear A30
  obtain rfl := Option.some.inj H
  go_enter Tryd.func33, Tryd.ntmps33
  go_wp2_with (first | ((with_reducible refine gate_callee (f := 72) rfl ?_); refine goesL_ (some 7) rfl rfl Tryd.func72 (by kernel_rfl) rfl #[.slice A0 l0.length c0, .string a1] rfl (by (try simp only [List.map_toArray, List.map_cons, List.map_nil]); first | done | rfl | (simp only [List.length_drop, List.length_take]; rfl)) ?_; (with_reducible refine (slices_Index_string_string.calls k _ _ l0 a1 t102 _ ?side1 ?side2 A3.out).mono ?_); (case side1 => repeat (first | exact HR0.out | (with_reducible refine Kd.C_alloc ?_ _) | (with_reducible refine Kd.C_drewN ?_ _) | (with_reducible refine Kd.C_drew ?_))); (case side2 => exact HC0.out); rintro e w' ⟨rfl, ⟨nd, rfl⟩⟩; refine ⟨_, rfl, ?_⟩))
  go_ret
  exact ⟨by first | rfl | (simp; done) | (simp [*]; done), by repeat (first | exact Drawn0.refl _ | apply Drawn0.step)⟩

/-! ### cmp_isNaN_string: function 134, by hand -/
-- HAND cmp.isNaN[string]
-- making: yes
/-- Not called by what is printed. -/
def cmp_isNaN_string.f : Unit := ()


/-! ### cmp_Less_string: function 103, by hand -/
-- HAND cmp.Less[string]
-- making: yes
/-- Not called by what is printed. -/
def cmp_Less_string.f : Unit := ()


/-! ### slices_insertionSortOrdered_string: function 97, by hand -/
-- HAND slices.insertionSortOrdered[string]
-- making: yes
/-- Not called by what is printed. -/
def slices_insertionSortOrdered_string.f : Unit := ()


/-! ### slices_siftDownOrdered_string: function 129, by hand -/
-- HAND slices.siftDownOrdered[string]
-- making: yes
/-- Not called by what is printed. -/
def slices_siftDownOrdered_string.f : Unit := ()


/-! ### slices_heapSortOrdered_string: function 98, by hand -/
-- HAND slices.heapSortOrdered[string]
-- making: yes
/-- Not called by what is printed. -/
def slices_heapSortOrdered_string.f : Unit := ()


/-! ### bits_Len32: function 106, by hand -/
-- HAND math/bits.Len32
-- making: yes
/-- Not called by what is printed. -/
def bits_Len32.f : Unit := ()


/-! ### bits_Len64: function 107, by hand -/
-- HAND math/bits.Len64
-- making: yes
/-- Not called by what is printed. -/
def bits_Len64.f : Unit := ()


/-! ### bits_Len: function 74, by hand -/
-- HAND math/bits.Len
-- making: yes
/-- Not called by what is printed. -/
def bits_Len.f : Unit := ()


/-! ### slices_nextPowerOfTwo: function 130, by hand -/
-- HAND slices.nextPowerOfTwo
-- making: yes
/-- Not called by what is printed. -/
def slices_nextPowerOfTwo.f : Unit := ()


-- NOT PRINTED: function 131 (slices_xorshift_Next)

-- NOT PRINTED: function 99 (slices_breakPatternsOrdered_string)

-- NOT PRINTED: function 143 (slices_order2Ordered_string)

-- NOT PRINTED: function 133 (slices_medianOrdered_string)

-- NOT PRINTED: function 132 (slices_medianAdjacentOrdered_string)

-- NOT PRINTED: function 100 (slices_choosePivotOrdered_string)

/-! ### slices_reverseRangeOrdered_string: function 101, by hand -/
-- HAND slices.reverseRangeOrdered[string]
-- making: yes
/-- Not called by what is printed. -/
def slices_reverseRangeOrdered_string.f : Unit := ()


/-! ### slices_partialInsertionSortOrdered_string: function 102, by hand -/
-- HAND slices.partialInsertionSortOrdered[string]
-- making: yes
/-- Not called by what is printed. -/
def slices_partialInsertionSortOrdered_string.f : Unit := ()


/-! ### slices_partitionEqualOrdered_string: function 104, by hand -/
-- HAND slices.partitionEqualOrdered[string]
-- making: yes
/-- Not called by what is printed. -/
def slices_partitionEqualOrdered_string.f : Unit := ()


end Go.Proofs.YteekkpofcbcikaaDoor.PWan
