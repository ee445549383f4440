/- Printed by a program of this session (it drives the print of the kit, with contracts proved by hand beside): the Go functions of one law as Lean functions, and that the Go code comes to what they say. -/
import Derived.Test.YtnhnlodmkbiiiaaDoorPFnFieldsBackx0
namespace Go.Proofs.YtnhnlodmkbiiiaaDoor.PFnFieldsBack
open Go.RowKit Go.Proofs.YtnhnlodmkbiiiaaDoorL Go.Proofs.YtnhnlodmkbiiiaaDoorW.PrintWords Go.Proofs.YtnhnlodmkbiiiaaDoorW.PrintLast Go.Proofs.YtnhnlodmkbiiiaaDoorW.PrintMore
attribute [local go_sem] max2_int min2_int max_two min_two max_three min_three max_four min_four   -- for this text's walks alone
set_option linter.unusedVariables false
set_option linter.unusedSimpArgs false

/-! ### laws_fewSizes: function 29 -/
def laws_fewSizes.l0 : Nat → List Int → List Int → List Int → Int → Int → Option (Bool)
  | 0, _, _, _, _, _ => none
  | k + 1, x0, x1, x7, x8, x9 => if x9 < x8 then (if 0 ≤ x9 then (if x9 < (x7.length : Int) then (if (rd x7 x9) ≥ 1125899906842624 then (some false) else (laws_fewSizes.l0 k x0 x1 x7 x8 (wrap64 (x9 + 1)))) else (none)) else (none)) else (if (x0.length : Int) ≤ 2000 then (some (decide ((x1.length : Int) ≤ 200))) else (some false))
def laws_fewSizes.f (k : Nat) (l0 : List Int) (l1 : List Int) : Option (Bool) := laws_fewSizes.l0 k l0 l1 l1 (l1.length : Int) 0
theorem laws_fewSizes.mono_l : ∀ k, (∀ y0 y1 y2 y3 y4, LeO (laws_fewSizes.l0 k y0 y1 y2 y3 y4) (laws_fewSizes.l0 (k + 1) y0 y1 y2 y3 y4))
  | 0 => fun _ _ _ _ _ r h => by simp [laws_fewSizes.l0] at h
  | k + 1 => by
    have ih0 := laws_fewSizes.mono_l k
    · intro y0 y1 y2 y3 y4
      unfold laws_fewSizes.l0
      repeat' first
      | (with_reducible exact ih0 _ _ _ _ _)
      | (with_reducible exact LeO.refl _)
      | (with_reducible exact LeO.none _)
      | (with_reducible refine LeO.ite ?_ ?_)
      | (with_reducible refine LeO.bind ?_ (fun _ => ?_))
      | exact ih0 _ _ _ _ _
      | exact LeO.none _
      | refine LeO.ite ?_ ?_
      | refine LeO.bind ?_ (fun _ => ?_)
theorem laws_fewSizes.mono : ∀ a0 a1 k, LeO (laws_fewSizes.f k a0 a1) (laws_fewSizes.f (k + 1) a0 a1) := by
  intro a0 a1 k
  have ih0 := laws_fewSizes.mono_l k
  unfold laws_fewSizes.f
  repeat' first
      | (with_reducible exact ih0 _ _ _ _ _)
      | (with_reducible exact LeO.refl _)
      | (with_reducible exact LeO.none _)
      | (with_reducible refine LeO.ite ?_ ?_)
      | (with_reducible refine LeO.bind ?_ (fun _ => ?_))
      | exact ih0 _ _ _ _ _
      | exact LeO.none _
      | refine LeO.ite ?_ ?_
      | refine LeO.bind ?_ (fun _ => ?_)
set_option maxHeartbeats 8000000 in
set_option maxRecDepth 100000 in
theorem laws_fewSizes.calls (k : Nat) (A0 : Option Addr) (c0 : Nat) (l0 : List Int) (A1 : Option Addr) (c1 : Nat) (l1 : List Int) (r : Bool) (w : World) (hr0 : Kd.C (Kd.int .u8) w A0 l0.length l0) (hc0 : l0.length ≤ c0) (hr1 : Kd.C (Kd.int .u64) w A1 l1.length l1) (hc1 : l1.length ≤ c1) (h : laws_fewSizes.f k l0 l1 = some r) :
    Calls Tryd.prog 29 #[.slice A0 l0.length c0, .slice A1 l1.length c1] w fun e w' => e = .returned (.bool r) ∧ Drawn0 w w' := by
  have HR0 := Aside0.mk hr0
  have HC0 := Aside0.mk hc0
  clear hr0 hc0
  have HR1 := Aside0.mk hr1
  have HC1 := Aside0.mk hc1
  clear hr1 hc1
  have H : (laws_fewSizes.l0 k l0 l1 l1 (l1.length : Int) 0) = some r := h
  clear h
  have H' := Aside0.mk H
  clear H
  go_enter Tryd.func29, Tryd.ntmps29
  go_wp2
  go_loopg [9] k (fun kq v9 w' => ∃ (x9_1 : Int), v9 = .int .i64 x9_1 ∧ Aside0 (laws_fewSizes.l0 kq l0 l1 l1 (l1.length : Int) x9_1 = some r) ∧ Aside0 (kq ≤ k) ∧ Drawn0 w w')
  case atStart => exact ⟨(0), (by first | rfl | (simp; done) | (simp [*]; done)), H', ⟨Nat.le_refl _⟩, by repeat (first | exact Drawn0.refl _ | apply Drawn0.step)⟩
  case round =>
    clear H'
    try clear c1
    try clear c2
    try clear p2
    obtain ⟨x9_1, rfl, HA, HK1, ⟨m1, rfl⟩⟩ := hrel
    cases gk with
    | zero => exact absurd HA.out (by simp [laws_fewSizes.l0])
    | succ k1 =>
      have H := HA.out
      clear HA
      simp only [laws_fewSizes.l0] at H
      by_cases c3 : x9_1 < (l1.length : Int)
      · rw [if_pos c3] at H
        have c3b0 : decide (x9_1 < (l1.length : Int)) = true := decide_eq_true c3
        clear c3
        by_cases c4 : 0 ≤ x9_1
        · rw [if_pos c4] at H
          have c4b0 : decide (0 ≤ x9_1) = true := decide_eq_true c4
          clear c4
          by_cases c5 : x9_1 < (l1.length : Int)
          · rw [if_pos c5] at H
            have c5b0 : decide (x9_1 < (l1.length : Int)) = true := decide_eq_true c5
            clear c5
            by_cases c6 : (rd l1 x9_1) ≥ 1125899906842624
            · rw [if_pos c6] at H
              have c6b0 : decide (1125899906842624 ≤ (rd l1 x9_1)) = true := decide_eq_true c6
              clear c6
              obtain rfl := Option.some.inj H
              have p109 : 0 ≤ (x9_1 : Int) := of_decide_eq_true (by first | (with_reducible assumption) | assumption)
              have q109 : x9_1 < (l1.length : Int) := of_decide_eq_true (by first | (with_reducible assumption) | assumption)
              obtain ⟨ad109, e109, hx109_0⟩ := Kd.at_int HR1.out x9_1 p109 q109
              cases e109
              replace p109 := eq_true p109
              replace q109 := eq_true q109
              go_wp2
              go_ret
              exact ⟨by first | rfl | (simp; done) | (simp [*]; done), by repeat (first | exact Drawn0.refl _ | apply Drawn0.step)⟩
            · rw [if_neg c6] at H
              have c6b0 : decide (1125899906842624 ≤ (rd l1 x9_1)) = false := decide_eq_false c6
              clear c6
              have H' := Aside0.mk H
              clear H
              have p109 : 0 ≤ (x9_1 : Int) := of_decide_eq_true (by first | (with_reducible assumption) | assumption)
              have q109 : x9_1 < (l1.length : Int) := of_decide_eq_true (by first | (with_reducible assumption) | assumption)
              obtain ⟨ad109, e109, hx109_0⟩ := Kd.at_int HR1.out x9_1 p109 q109
              cases e109
              replace p109 := eq_true p109
              replace q109 := eq_true q109
              go_wp2
              go_roundg k1
              case measure => have := HK1.out; omega
              case rel => exact ⟨(wrap64 (x9_1 + 1)), (by first | rfl | (simp; done) | (simp [*]; done)), H', ⟨by have := HK1.out; omega⟩, by repeat (first | exact Drawn0.refl _ | apply Drawn0.step)⟩
          · rw [if_neg c5] at H
            exact absurd H (by simp)
        · rw [if_neg c4] at H
          exact absurd H (by simp)
      · rw [if_neg c3] at H
        have c3b0 : decide (x9_1 < (l1.length : Int)) = false := decide_eq_false c3
        clear c3
        by_cases c7 : (l0.length : Int) ≤ 2000
        · rw [if_pos c7] at H
          have c7b0 : decide ((l0.length : Int) ≤ 2000) = true := decide_eq_true c7
          have c7b1 : decide (l0.length ≤ 2000) = true := decide_eq_true (by omega)
          clear c7
          obtain rfl := Option.some.inj H
          go_wp2
          go_ret
          exact ⟨by first | rfl | (simp; done) | (simp [*]; done), by repeat (first | exact Drawn0.refl _ | apply Drawn0.step)⟩
        · rw [if_neg c7] at H
          have c7b0 : decide ((l0.length : Int) ≤ 2000) = false := decide_eq_false c7
          have c7b1 : decide (l0.length ≤ 2000) = false := decide_eq_false (by omega)
          clear c7
          obtain rfl := Option.some.inj H
          go_wp2
          go_ret
          exact ⟨by first | rfl | (simp; done) | (simp [*]; done), by repeat (first | exact Drawn0.refl _ | apply Drawn0.step)⟩

-- NOT PRINTED: function 78 (unixfs_FSNode_UpdateFilesize)

-- NOT PRINTED: function 67 (unixfs_NewFSNode)

-- NOT PRINTED: function 105 (unixfs_FSNode_Data)

-- NOT PRINTED: function 68 (unixfs_FSNode_SetData)

-- NOT PRINTED: function 69 (unixfs_FSNode_AddBlockSize)

-- NOT PRINTED: function 70 (unixfs_FSNode_GetBytes)

/-! ### impl_FSBytes: function 30, by hand -/
-- HAND pub-tholos/impl.FSBytes
-- making: yes
/-- The bytes of a node of a file. -/
def impl_FSBytes.f (a0 : Int) (a1 : Bool) (l2 : List Int) (l3 : List Int) : Option (List Int × Bool) := if 0 ≤ a0 ∧ a0 < 1000 ∧ l2.length ≤ 1000000 ∧ l3.length ≤ 1000000 ∧ l3.all (fun x => decide (0 ≤ x) && decide (x < 18446744073709551616)) = true then some (Go.Proofs.YtnhnlodmkbiiiaaDoor.HandFields.fsbF a0.toNat a1 l2 l3, true) else none
theorem impl_FSBytes.calls (a0 : Int) (a1 : Bool) (A2 : Option Addr) (c2 : Nat) (l2 : List Int) (A3 : Option Addr) (c3 : Nat) (l3 : List Int) (r1 : List Int) (r2 : Bool) (w : World) (hr2 : Kd.C (Kd.int .u8) w A2 l2.length l2) (hc2 : l2.length ≤ c2) (hr3 : Kd.C (Kd.int .u64) w A3 l3.length l3) (hc3 : l3.length ≤ c3) (h : impl_FSBytes.f a0 a1 l2 l3 = some (r1, r2)) :
    Calls Tryd.prog 30 #[.int .i64 a0, .bool a1, .slice A2 l2.length c2, .slice A3 l3.length c3] w fun e w' => ∃ v0_ : Value, e = .returned (.tuple #[v0_, .bool r2]) ∧ Kd.R (Kd.int .u8) 5 w' w.heap.size (fun _ => True) v0_ r1 ∧ Below w.heap.size w w' := by
  unfold impl_FSBytes.f at h
  by_cases hl : 0 ≤ a0 ∧ a0 < 1000 ∧ l2.length ≤ 1000000 ∧ l3.length ≤ 1000000 ∧ l3.all (fun x => decide (0 ≤ x) && decide (x < 18446744073709551616)) = true
  case neg => rw [if_neg hl] at h; exact absurd h (by simp)
  rw [if_pos hl] at h
  have h' := Option.some.inj h
  injection h' with h1 h2
  subst h1
  subst h2
  obtain ⟨h0, h1, h2, h3, h4⟩ := hl
  have hb : ∀ x ∈ l3, 0 ≤ x ∧ x < 18446744073709551616 := fun x hx => by have := List.all_eq_true.1 h4 x hx; simpa using this
  obtain ⟨k, rfl⟩ : ∃ k : Nat, a0 = (k : Int) := ⟨a0.toNat, by omega⟩
  rw [Int.toNat_natCast]
  cases a1
  · exact Go.Proofs.YtnhnlodmkbiiiaaDoor.HandFields.FSBytes_false w k A2 c2 l2 A3 c3 l3 hr2 hr3 (by omega) h2 h3 hb
  · exact Go.Proofs.YtnhnlodmkbiiiaaDoor.HandFields.FSBytes_true w k A2 c2 l2 A3 c3 l3 hr2 hr3 (by omega) h2 h3 hb


-- NOT PRINTED: function 71 (unixfs_FSNodeFromBytes)

-- NOT PRINTED: function 106 (unixfs_FSNode_Type)

-- NOT PRINTED: function 107 (unixfs_FSNode_FileSize)

-- NOT PRINTED: function 108 (slices_Clone_uint64_uint64)

-- NOT PRINTED: function 124 (pb_Data_GetBlocksizes)

-- NOT PRINTED: function 109 (unixfs_FSNode_BlockSizes)

-- NOT PRINTED: function 125 (pb_Data_GetHashType)

-- NOT PRINTED: function 110 (unixfs_FSNode_HashType)

-- NOT PRINTED: function 126 (pb_Data_GetFanout)

-- NOT PRINTED: function 111 (unixfs_FSNode_Fanout)

-- NOT PRINTED: function 72 (impl_plainFS)

/-! ### impl_FSOf: function 32, by hand -/
-- HAND pub-tholos/impl.FSOf
-- making: yes
/-- What the bytes of a message tell. -/
def impl_FSOf.f (l0 : List Int) : Option (Int × List Int × Int × List Int × Int × Int × Bool) := (Go.Proofs.YtnhnlodmkbiiiaaDoor.HandFields.parse l0).bind fun d => some ((d.ty : Int), d.data.getD [], Go.Proofs.YtnhnlodmkbiiiaaDoor.HandFields.fsz d, d.blocks, 0, 0, true)
theorem impl_FSOf.calls (A0 : Option Addr) (c0 : Nat) (l0 : List Int) (r1 : Int) (r2 : List Int) (r3 : Int) (r4 : List Int) (r5 : Int) (r6 : Int) (r7 : Bool) (w : World) (hr0 : Kd.C (Kd.int .u8) w A0 l0.length l0) (hc0 : l0.length ≤ c0) (h : impl_FSOf.f l0 = some (r1, r2, r3, r4, r5, r6, r7)) :
    Calls Tryd.prog 32 #[.slice A0 l0.length c0] w fun e w' => ∃ v1_ v3_ : Value, e = .returned (.tuple #[.agg #[.int .i64 r1, v1_, .int .u64 r3, v3_, .int .u64 r5, .int .u64 r6], .bool r7]) ∧ Kd.R (Kd.int .u8) 5 w' w.heap.size (fun _ => True) v1_ r2 ∧ Kd.R (Kd.int .u64) 24 w' w.heap.size (fun _ => True) v3_ r4 ∧ Below w.heap.size w w' := by
  unfold impl_FSOf.f at h
  obtain ⟨d, hd, h2⟩ := Option.bind_eq_some_iff.1 h
  clear h
  obtain ⟨rfl, hf⟩ := Go.Proofs.YtnhnlodmkbiiiaaDoor.HandFields.parse_spec hd
  have h' : ((d.ty : Int), d.data.getD [], Go.Proofs.YtnhnlodmkbiiiaaDoor.HandFields.fsz d, d.blocks, (0 : Int), (0 : Int), true) = (r1, r2, r3, r4, r5, r6, r7) := Option.some.inj h2
  clear h2
  simp only [Prod.mk.injEq] at h'
  obtain ⟨rfl, rfl, rfl, rfl, rfl, rfl, rfl⟩ := h'
  exact Go.Proofs.YtnhnlodmkbiiiaaDoor.HandFields.FSOf_calls w A0 c0 d hf hr0 hc0


end Go.Proofs.YtnhnlodmkbiiiaaDoor.PFnFieldsBack
