/- Printed by a program of this session (it drives the print of the kit, with contracts proved by hand beside): the Go functions of one law as Lean functions, and that the Go code comes to what they say. -/
import Derived.Test.YtbmeegkgcipmoaaPFnPathSplitx0
import Derived.Test.YtbmeegkgcipmoaaPFnPathSplitx1
import Derived.Test.YtbmeegkgcipmoaaPFnPathSplitx5
namespace Go.Proofs.Ytbmeegkgcipmoaa.PFnPathSplit
open Go.RowKit Go.Proofs.YtbmeegkgcipmoaaL Go.Proofs.YtbmeegkgcipmoaaW.PrintWords Go.Proofs.YtbmeegkgcipmoaaW.PrintLast Go.Proofs.YtbmeegkgcipmoaaW.PrintMore
attribute [local go_sem] max2_int min2_int max_two min_two max_three min_three max_four min_four   -- for this text's walks alone
set_option linter.unusedVariables false
set_option linter.unusedSimpArgs false

/-! ### spec_Split: function 35 -/
def spec_Split.f (k : Nat) (a0 : ByteArray) : Option (List ByteArray) := (spec_pathSplit.f k a0 47).bind fun t149 => (some t149)
theorem spec_Split.mono : ∀ a0 k, LeO (spec_Split.f k a0) (spec_Split.f (k + 1) a0) := by
  intro a0 k
  unfold spec_Split.f
  repeat' first
      | (with_reducible exact spec_pathSplit.mono _ _ _)
      | (with_reducible exact LeO.refl _)
      | (with_reducible exact LeO.none _)
      | (with_reducible refine LeO.ite ?_ ?_)
      | (with_reducible refine LeO.bind ?_ (fun _ => ?_))
      | exact spec_pathSplit.mono _ _ _
      | exact LeO.none _
      | refine LeO.ite ?_ ?_
      | refine LeO.bind ?_ (fun _ => ?_)
set_option maxHeartbeats 8000000 in
set_option maxRecDepth 100000 in
theorem spec_Split.calls (k : Nat) (a0 : ByteArray) (r : List ByteArray) (w : World) (h : spec_Split.f k a0 = some r) :
    Calls Try.prog 35 #[.string a0] w fun e w' => ∃ v0_ : Value, e = .returned (v0_) ∧ Kd.R Kd.string 9 w' w.heap.size (fun _ => True) v0_ r ∧ Below w.heap.size w w' := by
  have HB := Aside0.mk (Below.refl w.heap.size w)
  have H : ((spec_pathSplit.f k a0 47).bind fun t149 => (some t149)) = some r := h
  clear h
  replace H := Option.bind_eq_some_iff.mp H
  obtain ⟨t149, A20, H⟩ := H
  replace H : (some t149) = some r := H
  have A2 := Aside0.mk A20
  clear A20
  obtain rfl := Option.some.inj H
  go_enter Try.func35, Try.ntmps35
  go_wp2_with (first | ((with_reducible refine gate_callee (f := 62) rfl ?_); refine goesL_ (some 4) rfl rfl Try.func62 (by kernel_rfl) rfl #[.string a0, .int .u8 47] rfl (by (try simp only [List.map_toArray, List.map_cons, List.map_nil]); first | done | rfl | (simp only [List.length_drop, List.length_take]; rfl)) ?_; (with_reducible refine (spec_pathSplit.calls k a0 47 t149 _ A2.out).mono ?_); rintro e w3 ⟨v150, rfl, ho0, hb⟩; refine ⟨_, rfl, ?_⟩; have n0_ := Aside0.mk (Kd.R_lower ho0 (below_size (by repeat (first | (with_reducible first | exact HB.out | apply below_alloc | apply pw_below_drewN | apply below_drew1) | exact HB.out)))); have n1_ := Aside0.mk (below_step (by repeat (first | (with_reducible first | exact HB.out | apply below_alloc | apply pw_below_drewN | apply below_drew1) | exact HB.out)) hb); clear HB; have HO151 := n0_; have HB := n1_; clear n0_ n1_; (try clear hb); (try clear hb2); (try clear hk); (try clear hi); (try clear ho0)))
  go_ret
  exact ⟨_, by first | rfl | (simp [errV_none, errV_some] <;> rfl) | (simp [*, errV_none, errV_some] <;> rfl), by (with_reducible repeat (first | apply Kd.R_alloc | apply Kd.R_drewN | apply Kd.R_drew)); exact HO151.out, by repeat (first | (with_reducible first | exact HB.out | apply below_alloc | apply pw_below_drewN | apply below_drew1) | exact HB.out)⟩

-- NOT PRINTED: function 91 (abi_NoEscape)

-- NOT PRINTED: function 89 (strings_Builder_copyCheck)

-- NOT PRINTED: function 92 (bytealg_MakeNoZero)

-- NOT PRINTED: function 90 (strings_Builder_grow)

-- NOT PRINTED: function 83 (strings_Builder_Grow)

-- NOT PRINTED: function 84 (strings_Builder_WriteString)

-- NOT PRINTED: function 85 (strings_Builder_String)

/-! ### strings_Join: function 75, by hand -/
-- HAND strings.Join
-- making: yes
-- shelf: yes
/-- The elements with the separator between them (the shelf's contract). -/
def strings_Join.f (l0 : List ByteArray) (a1 : ByteArray) : Option ByteArray := if l0.length ≤ 140737488351232 ∧ (Go.Lib.join (l0.map (·.data.toList)) a1.data.toList).length ≤ 140737488351232 then some ⟨(Go.Lib.join (l0.map (·.data.toList)) a1.data.toList).toArray⟩ else none
theorem strings_Join.calls (A0 : Option Addr) (c0 : Nat) (l0 : List ByteArray) (a1 : ByteArray) (r : ByteArray) (w : World) (hr0 : Kd.C Kd.string w A0 l0.length l0) (hc0 : l0.length ≤ c0) (h : strings_Join.f l0 a1 = some r) :
    Calls Try.prog 75 #[.slice A0 l0.length c0, .string a1] w fun e w' => e = .returned (.string r) ∧ Below w.heap.size w w' := by
  unfold strings_Join.f at h
  by_cases hl : l0.length ≤ 140737488351232 ∧ (Go.Lib.join (l0.map (·.data.toList)) a1.data.toList).length ≤ 140737488351232
  case neg => rw [if_neg hl] at h; exact absurd h (by simp)
  rw [if_pos hl] at h
  obtain rfl := Option.some.inj h
  clear h
  rcases Nat.eq_zero_or_pos l0.length with h0 | h0
  · obtain rfl := List.eq_nil_of_length_eq_zero h0
    refine (Try.strings_Join_none A0 c0 a1 w).mono ?_
    rintro e w' ⟨rfl, rfl⟩
    exact ⟨rfl, Below.refl _ _⟩
  · obtain ⟨ad, rfl, hat⟩ := Kd.at_string hr0 0 (by omega) (by omega)
    obtain ⟨bk, o, sp⟩ := ad
    have hz : (⟨bk, o, sp⟩ : Addr).add (0 : Int).toNat = ⟨bk, o, sp⟩ := rfl
    rw [hz] at hat
    have hsp : sp = none ∧ bk < w.heap.size := by
      unfold World.cell? at hat
      cases hb : w.heap[bk]? with
      | none => rw [hb] at hat; exact absurd hat (by simp)
      | some b =>
        have hlt : bk < w.heap.size := by
          rcases Nat.lt_or_ge bk w.heap.size with h1 | h1
          · exact h1
          · rw [Array.getElem?_eq_none h1] at hb; exact absurd hb (by simp)
        refine ⟨?_, hlt⟩
        rw [hb] at hat
        cases b <;> simp at hat
        cases sp with
        | none => rfl
        | some _ => simp at hat
    obtain ⟨rfl, hbk⟩ := hsp
    refine Try.strings_Join bk o c0 l0 a1 w (fun j x hx => ?_) hbk (by omega) hc0 (by omega)
    have hj : j < l0.length := by
      rcases Nat.lt_or_ge j l0.length with h1 | h1
      · exact h1
      · rw [List.getElem?_eq_none h1] at hx; exact absurd hx (by simp)
    obtain ⟨ad, e, hc⟩ := Kd.at_string hr0 (j : Int) (by omega) (by omega)
    obtain rfl := Option.some.inj e
    have hadd : (⟨bk, o, none⟩ : Addr).add (j : Int).toNat = ⟨bk, o + j, none⟩ := by
      rw [Int.toNat_natCast]; unfold Addr.add
      split
      · next h => rw [h, Nat.add_zero]
      · rfl
    rw [hadd] at hc
    rw [hc]
    unfold rdOf
    rw [Int.toNat_natCast, List.getD_eq_getElem?_getD, hx]
    rfl


/-! ### path_Join: function 63 -/
def path_Join.f (l0 : List ByteArray) : Option (ByteArray) := (strings_Join.f l0 (⟨#[47]⟩ : ByteArray)).bind fun t152 => (some t152)
set_option maxHeartbeats 8000000 in
set_option maxRecDepth 100000 in
theorem path_Join.calls (A0 : Option Addr) (c0 : Nat) (l0 : List ByteArray) (r : ByteArray) (w : World) (hr0 : Kd.C Kd.string w A0 l0.length l0) (hc0 : l0.length ≤ c0) (h : path_Join.f l0 = some r) :
    Calls Try.prog 63 #[.slice A0 l0.length c0] w fun e w' => e = .returned (.string r) ∧ Below w.heap.size w w' := by
  have HR0 := Aside0.mk hr0
  have HC0 := Aside0.mk hc0
  clear hr0 hc0
  have HB := Aside0.mk (Below.refl w.heap.size w)
  have H : ((strings_Join.f l0 (⟨#[47]⟩ : ByteArray)).bind fun t152 => (some t152)) = some r := h
  clear h
  replace H := Option.bind_eq_some_iff.mp H
  obtain ⟨t152, A20, H⟩ := H
  replace H : (some t152) = some r := H
  have A2 := Aside0.mk A20
  clear A20
  obtain rfl := Option.some.inj H
  go_enter Try.func63, Try.ntmps63
  go_wp2_with (first | ((with_reducible refine gate_callee (f := 75) rfl ?_); refine goesL_ (some 4) rfl rfl Try.func75 (by kernel_rfl) rfl #[.slice A0 l0.length c0, .string (⟨#[47]⟩ : ByteArray)] rfl (by (try simp only [List.map_toArray, List.map_cons, List.map_nil]); first | done | rfl | (simp only [List.length_drop, List.length_take]; rfl)) ?_; (with_reducible refine (strings_Join.calls _ _ l0 (⟨#[47]⟩ : ByteArray) t152 _ ?side1 ?side2 A2.out).mono ?_); (case side1 => repeat (first | exact HR0.out | (with_reducible refine Kd.C_alloc ?_ _) | (with_reducible refine Kd.C_drewN ?_ _) | (with_reducible refine Kd.C_drew ?_))); (case side2 => exact HC0.out); rintro e w3 ⟨rfl, hb⟩; refine ⟨_, rfl, ?_⟩; have n0_ := Aside0.mk (below_step (by repeat (first | (with_reducible first | exact HB.out | apply below_alloc | apply pw_below_drewN | apply below_drew1) | exact HB.out)) hb); clear HB; have HB := n0_; clear n0_; (try clear hb); (try clear hb2); (try clear hk); (try clear hi)))
  go_ret
  exact ⟨by first | rfl | (simp [errV_none, errV_some] <;> rfl) | (simp [*, errV_none, errV_some] <;> rfl), by repeat (first | (with_reducible first | exact HB.out | apply below_alloc | apply pw_below_drewN | apply below_drew1) | exact HB.out)⟩

/-! ### impl_PathJoined: function 36 -/
def impl_PathJoined.f (l0 : List ByteArray) : Option (ByteArray) := (slices_Clone_string_string.f l0).bind fun t153 => ((path_Join.f t153).bind fun t156 => (some t156))
set_option maxHeartbeats 8000000 in
set_option maxRecDepth 100000 in
theorem impl_PathJoined.calls (A0 : Option Addr) (c0 : Nat) (l0 : List ByteArray) (r : ByteArray) (w : World) (hr0 : Kd.C Kd.string w A0 l0.length l0) (hc0 : l0.length ≤ c0) (h : impl_PathJoined.f l0 = some r) :
    Calls Try.prog 36 #[.slice A0 l0.length c0] w fun e w' => e = .returned (.string r) ∧ Below w.heap.size w w' := by
  have HR0 := Aside0.mk hr0
  have HC0 := Aside0.mk hc0
  clear hr0 hc0
  have HB := Aside0.mk (Below.refl w.heap.size w)
  have H : ((slices_Clone_string_string.f l0).bind fun t153 => ((path_Join.f t153).bind fun t156 => (some t156))) = some r := h
  clear h
  replace H := Option.bind_eq_some_iff.mp H
  obtain ⟨t153, A20, H⟩ := H
  replace H : ((path_Join.f t153).bind fun t156 => (some t156)) = some r := H
  have A2 := Aside0.mk A20
  clear A20
  replace H := Option.bind_eq_some_iff.mp H
  obtain ⟨t156, A30, H⟩ := H
  replace H : (some t156) = some r := H
  have A3 := Aside0.mk A30
  clear A30
  obtain rfl := Option.some.inj H
  go_enter Try.func36, Try.ntmps36
  go_wp2_with (first | ((with_reducible refine gate_callee (f := 52) rfl ?_); refine goesL_ (some 4) rfl rfl Try.func52 (by kernel_rfl) rfl #[.slice A0 l0.length c0] rfl (by (try simp only [List.map_toArray, List.map_cons, List.map_nil]); first | done | rfl | (simp only [List.length_drop, List.length_take]; rfl)) ?_; (with_reducible refine (slices_Clone_string_string.calls _ _ l0 t153 _ ?side1 ?side2 A2.out).mono ?_); (case side1 => repeat (first | exact HR0.out | (with_reducible refine Kd.C_alloc ?_ _) | (with_reducible refine Kd.C_drewN ?_ _) | (with_reducible refine Kd.C_drew ?_))); (case side2 => exact HC0.out); rintro e w4 ⟨v154, rfl, ho0, hb⟩; refine ⟨_, rfl, ?_⟩; have n0_ := Aside0.mk (Kd.R_lower ho0 (below_size (by repeat (first | (with_reducible first | exact HB.out | apply below_alloc | apply pw_below_drewN | apply below_drew1) | exact HB.out)))); have n1_ := Aside0.mk (below_step (by repeat (first | (with_reducible first | exact HB.out | apply below_alloc | apply pw_below_drewN | apply below_drew1) | exact HB.out)) hb); clear HB; have HO155 := n0_; have HB := n1_; clear n0_ n1_; (try clear hb); (try clear hb2); (try clear hk); (try clear hi); (try clear ho0); obtain ⟨Ao5, co5, eo5⟩ := Kd.R_slice HO155.out; subst eo5) | ((with_reducible refine gate_callee (f := 63) rfl ?_); refine goesL_ (some 5) rfl rfl Try.func63 (by kernel_rfl) rfl #[.slice Ao5 t153.length co5] rfl (by (try simp only [List.map_toArray, List.map_cons, List.map_nil]); first | done | rfl | (simp only [List.length_drop, List.length_take]; rfl)) ?_; (with_reducible refine (path_Join.calls _ _ t153 t156 _ ?side1 ?side2 A3.out).mono ?_); (case side1 => repeat (first | exact (Kd.R_reads' HO155.out).2.2 | (with_reducible refine Kd.C_alloc ?_ _) | (with_reducible refine Kd.C_drewN ?_ _) | (with_reducible refine Kd.C_drew ?_))); (case side2 => exact (Kd.R_reads' HO155.out).2.1); rintro e w6 ⟨rfl, hb⟩; refine ⟨_, rfl, ?_⟩; have n0_ := Aside0.mk (Kd.R_below (by (with_reducible repeat (first | apply Kd.R_alloc | apply Kd.R_drewN | apply Kd.R_drew)); exact HO155.out) hb); have n1_ := Aside0.mk (below_step (by repeat (first | (with_reducible first | exact HB.out | apply below_alloc | apply pw_below_drewN | apply below_drew1) | exact HB.out)) hb); clear HO155; clear HB; have HO155 := n0_; have HB := n1_; clear n0_ n1_; (try clear hb); (try clear hb2); (try clear hk); (try clear hi)))
  go_ret
  exact ⟨by first | rfl | (simp [errV_none, errV_some] <;> rfl) | (simp [*, errV_none, errV_some] <;> rfl), by repeat (first | (with_reducible first | exact HB.out | apply below_alloc | apply pw_below_drewN | apply below_drew1) | exact HB.out)⟩

/-! ### spec_Join: function 37 -/
def spec_Join.l0 : Nat → ByteArray → List ByteArray → Int → Int → Option (ByteArray)
  | 0, _, _, _, _ => none
  | k + 1, x3, x6, x7, x8 => if x8 < x7 then (if 0 ≤ x8 then (if x8 < (x6.length : Int) then (if x8 > 0 then (if x3.size + 1 ≤ 9223372036854775807 then (if (x3 ++ (⟨#[47]⟩ : ByteArray)).size + (rdOf ByteArray.empty x6 x8).size ≤ 9223372036854775807 then (spec_Join.l0 k ((x3 ++ (⟨#[47]⟩ : ByteArray)) ++ (rdOf ByteArray.empty x6 x8)) x6 x7 (wrap64 (x8 + 1))) else (none)) else (none)) else (if x3.size + (rdOf ByteArray.empty x6 x8).size ≤ 9223372036854775807 then (spec_Join.l0 k (x3 ++ (rdOf ByteArray.empty x6 x8)) x6 x7 (wrap64 (x8 + 1))) else (none))) else (none)) else (none)) else (some x3)
def spec_Join.f (k : Nat) (l0 : List ByteArray) : Option (ByteArray) := spec_Join.l0 k (⟨#[]⟩ : ByteArray) l0 (l0.length : Int) 0
theorem spec_Join.mono_l : ∀ k, (∀ y0 y1 y2 y3, LeO (spec_Join.l0 k y0 y1 y2 y3) (spec_Join.l0 (k + 1) y0 y1 y2 y3))
  | 0 => fun _ _ _ _ r h => by simp [spec_Join.l0] at h
  | k + 1 => by
    have ih0 := spec_Join.mono_l k
    · intro y0 y1 y2 y3
      unfold spec_Join.l0
      repeat' first
      | (with_reducible exact ih0 _ _ _ _)
      | (with_reducible exact LeO.refl _)
      | (with_reducible exact LeO.none _)
      | (with_reducible refine LeO.ite ?_ ?_)
      | (with_reducible refine LeO.bind ?_ (fun _ => ?_))
      | exact ih0 _ _ _ _
      | exact LeO.none _
      | refine LeO.ite ?_ ?_
      | refine LeO.bind ?_ (fun _ => ?_)
theorem spec_Join.mono : ∀ a0 k, LeO (spec_Join.f k a0) (spec_Join.f (k + 1) a0) := by
  intro a0 k
  have ih0 := spec_Join.mono_l k
  unfold spec_Join.f
  repeat' first
      | (with_reducible exact ih0 _ _ _ _)
      | (with_reducible exact LeO.refl _)
      | (with_reducible exact LeO.none _)
      | (with_reducible refine LeO.ite ?_ ?_)
      | (with_reducible refine LeO.bind ?_ (fun _ => ?_))
      | exact ih0 _ _ _ _
      | exact LeO.none _
      | refine LeO.ite ?_ ?_
      | refine LeO.bind ?_ (fun _ => ?_)
set_option maxHeartbeats 8000000 in
set_option maxRecDepth 100000 in
theorem spec_Join.calls (k : Nat) (A0 : Option Addr) (c0 : Nat) (l0 : List ByteArray) (r : ByteArray) (w : World) (hr0 : Kd.C Kd.string w A0 l0.length l0) (hc0 : l0.length ≤ c0) (h : spec_Join.f k l0 = some r) :
    Calls Try.prog 37 #[.slice A0 l0.length c0] w fun e w' => e = .returned (.string r) ∧ Drawn0 w w' := by
  have HR0 := Aside0.mk hr0
  have HC0 := Aside0.mk hc0
  clear hr0 hc0
  have H : (spec_Join.l0 k (⟨#[]⟩ : ByteArray) l0 (l0.length : Int) 0) = some r := h
  clear h
  have H' := Aside0.mk H
  clear H
  go_enter Try.func37, Try.ntmps37
  go_wp2
  go_loopg [3, 8] k (fun kq v3 v8 w' => ∃ (x3_1 : ByteArray) (x8_1 : Int), v3 = .string x3_1 ∧ v8 = .int .i64 x8_1 ∧ Aside0 (spec_Join.l0 kq x3_1 l0 (l0.length : Int) x8_1 = some r) ∧ Aside0 (kq ≤ k) ∧ Drawn0 w w')
  case atStart => exact ⟨((⟨#[]⟩ : ByteArray)), (0), (by first | rfl | (simp; done) | (simp [*]; done)), (by first | rfl | (simp; done) | (simp [*]; done)), H', ⟨Nat.le_refl _⟩, by repeat (first | exact Drawn0.refl _ | apply Drawn0.step)⟩
  case round =>
    clear H'
    obtain ⟨x3_1, x8_1, rfl, rfl, HA, HK1, ⟨m1, rfl⟩⟩ := hrel
    cases gk with
    | zero => exact absurd HA.out (by simp [spec_Join.l0])
    | succ k1 =>
      have H := HA.out
      clear HA
      simp only [spec_Join.l0] at H
      by_cases c2 : x8_1 < (l0.length : Int)
      · rw [if_pos c2] at H
        have c2b0 : decide (x8_1 < (l0.length : Int)) = true := decide_eq_true c2
        clear c2
        by_cases c3 : 0 ≤ x8_1
        · rw [if_pos c3] at H
          have c3b0 : decide (0 ≤ x8_1) = true := decide_eq_true c3
          clear c3
          by_cases c4 : x8_1 < (l0.length : Int)
          · rw [if_pos c4] at H
            have c4b0 : decide (x8_1 < (l0.length : Int)) = true := decide_eq_true c4
            clear c4
            by_cases c5 : x8_1 > 0
            · rw [if_pos c5] at H
              have c5b0 : decide (0 < x8_1) = true := decide_eq_true c5
              clear c5
              by_cases c6 : x3_1.size + 1 ≤ 9223372036854775807
              · rw [if_pos c6] at H
                have c6b0 := eq_true c6
                have c6b1 : decide (x3_1.size + 1 ≤ 9223372036854775807) = true := decide_eq_true c6
                try have c6b2 : (9223372036854775807 < x3_1.size + 1) = False := eq_false (Nat.not_lt.2 c6)
                by_cases c7 : (x3_1 ++ (⟨#[47]⟩ : ByteArray)).size + (rdOf ByteArray.empty l0 x8_1).size ≤ 9223372036854775807
                · rw [if_pos c7] at H
                  have c7b0 := eq_true c7
                  have c7b1 : decide ((x3_1 ++ (⟨#[47]⟩ : ByteArray)).size + (rdOf ByteArray.empty l0 x8_1).size ≤ 9223372036854775807) = true := decide_eq_true c7
                  try have c7b2 : (9223372036854775807 < (x3_1 ++ (⟨#[47]⟩ : ByteArray)).size + (rdOf ByteArray.empty l0 x8_1).size) = False := eq_false (Nat.not_lt.2 c7)
                  have H' := Aside0.mk H
                  clear H
                  have p157 : 0 ≤ (x8_1 : Int) := of_decide_eq_true (by first | (with_reducible assumption) | assumption)
                  have q157 : x8_1 < (l0.length : Int) := of_decide_eq_true (by first | (with_reducible assumption) | assumption)
                  obtain ⟨ad157, e157, hx157_0⟩ := Kd.at_string HR0.out x8_1 p157 q157
                  cases e157
                  replace p157 := eq_true p157
                  replace q157 := eq_true q157
                  go_wp2
                  go_roundg k1
                  case measure => have := HK1.out; omega
                  case rel => exact ⟨((x3_1 ++ (⟨#[47]⟩ : ByteArray)) ++ (rdOf ByteArray.empty l0 x8_1)), (wrap64 (x8_1 + 1)), (by first | rfl | (simp; done) | (simp [*]; done)), (by first | rfl | (simp; done) | (simp [*]; done)), H', ⟨by have := HK1.out; omega⟩, by repeat (first | exact Drawn0.refl _ | apply Drawn0.step)⟩
                · rw [if_neg c7] at H
                  exact absurd H (by simp)
              · rw [if_neg c6] at H
                exact absurd H (by simp)
            · rw [if_neg c5] at H
              have c5b0 : decide (0 < x8_1) = false := decide_eq_false c5
              clear c5
              by_cases c8 : x3_1.size + (rdOf ByteArray.empty l0 x8_1).size ≤ 9223372036854775807
              · rw [if_pos c8] at H
                have c8b0 := eq_true c8
                have c8b1 : decide (x3_1.size + (rdOf ByteArray.empty l0 x8_1).size ≤ 9223372036854775807) = true := decide_eq_true c8
                try have c8b2 : (9223372036854775807 < x3_1.size + (rdOf ByteArray.empty l0 x8_1).size) = False := eq_false (Nat.not_lt.2 c8)
                have H' := Aside0.mk H
                clear H
                have p157 : 0 ≤ (x8_1 : Int) := of_decide_eq_true (by first | (with_reducible assumption) | assumption)
                have q157 : x8_1 < (l0.length : Int) := of_decide_eq_true (by first | (with_reducible assumption) | assumption)
                obtain ⟨ad157, e157, hx157_0⟩ := Kd.at_string HR0.out x8_1 p157 q157
                cases e157
                replace p157 := eq_true p157
                replace q157 := eq_true q157
                go_wp2
                go_roundg k1
                case measure => have := HK1.out; omega
                case rel => exact ⟨(x3_1 ++ (rdOf ByteArray.empty l0 x8_1)), (wrap64 (x8_1 + 1)), (by first | rfl | (simp; done) | (simp [*]; done)), (by first | rfl | (simp; done) | (simp [*]; done)), H', ⟨by have := HK1.out; omega⟩, by repeat (first | exact Drawn0.refl _ | apply Drawn0.step)⟩
              · rw [if_neg c8] at H
                exact absurd H (by simp)
          · rw [if_neg c4] at H
            exact absurd H (by simp)
        · rw [if_neg c3] at H
          exact absurd H (by simp)
      · rw [if_neg c2] at H
        have c2b0 : decide (x8_1 < (l0.length : Int)) = false := decide_eq_false c2
        clear c2
        obtain rfl := Option.some.inj H
        go_wp2
        go_ret
        exact ⟨by first | rfl | (simp; done) | (simp [*]; done), by repeat (first | exact Drawn0.refl _ | apply Drawn0.step)⟩

end Go.Proofs.Ytbmeegkgcipmoaa.PFnPathSplit
