/- Printed by a program of this session (it drives the print of the kit, with contracts proved by hand beside): the Go functions of one law as Lean functions, and that the Go code comes to what they say. -/
import Derived.Test.YtnhnlodmkbiiiaaDoorPDifx0
namespace Go.Proofs.YtnhnlodmkbiiiaaDoor.PDif
open Go.RowKit Go.Proofs.YtnhnlodmkbiiiaaDoorL Go.Proofs.YtnhnlodmkbiiiaaDoorW.PrintWords Go.Proofs.YtnhnlodmkbiiiaaDoorW.PrintLast Go.Proofs.YtnhnlodmkbiiiaaDoorW.PrintMore
attribute [local go_sem] max2_int min2_int max_two min_two max_three min_three max_four min_four   -- for this text's walks alone
set_option linter.unusedVariables false
set_option linter.unusedSimpArgs false

-- NOT PRINTED: function 127 (laws_key)

-- NOT PRINTED: function 113 (laws_identifier)

-- NOT PRINTED: function 79 (laws_change)

-- NOT PRINTED: function 39 (laws_changes)

-- NOT PRINTED: function 114 (impl_Diff_114)

-- NOT PRINTED: function 80 (impl_Diff_80)

/-! ### bytes_Clone: function 51, by hand -/
-- HAND bytes.Clone
-- making: yes
/-- A copy of a slice, nil or not. -/
def bytes_Clone.f (l0 : List Int) : Option (List Int) := if l0.length * 1 ≤ 140737488351232 then some l0 else none
theorem bytes_Clone.infoE : (Tryd.prog.info? 5).map (fun i => (i.zero, i.size, i.bytes)) = some (some (.int .u8 0), 1, 1) := by kernel_rfl
set_option maxHeartbeats 2000000 in
set_option maxRecDepth 100000 in
theorem bytes_Clone.calls (A0 : Option Addr) (c0 : Nat) (l0 : List Int) (r : List Int) (w : World) (hr0 : Kd.C (Kd.int .u8) w A0 l0.length l0) (hc0 : l0.length ≤ c0) (h : bytes_Clone.f l0 = some r) :
    Calls Tryd.prog 51 #[.slice A0 l0.length c0] w fun e w' => ∃ v0_ : Value, e = .returned (v0_) ∧ Kd.R (Kd.int .u8) 5 w' w.heap.size (fun _ => True) v0_ r ∧ Below w.heap.size w w' := by
  unfold bytes_Clone.f at h
  by_cases hl : l0.length * 1 ≤ 140737488351232
  case neg => rw [if_neg hl] at h; exact absurd h (by simp)
  rw [if_pos hl] at h
  obtain rfl := Option.some.inj h
  clear h
  have qs : ∀ (w : World) (a : Option Addr) (n c n' c' : Nat), (binOp .eql 22 (.slice a n c) (.slice none n' c')).run Tryd.prog w = .ok (.bool a.isNone) w := fun w a n c n' c' => Lib.run_eql_slice_nil w _ _ a n c n' c' Tryd.underlying22
  have HB := Aside0.mk (Below.refl w.heap.size w)
  have HR0 := Aside0.mk hr0
  have HL := Aside0.mk hl
  clear hr0 hl hc0
  cases A0 with
  | none =>
    have e0 : l0 = [] := by
      have h1 := HR0.out
      rcases Nat.eq_zero_or_pos l0.length with h0 | h0
      · exact List.eq_nil_of_length_eq_zero h0
      · obtain ⟨ad, e, _⟩ := h1.2.2 h0
        exact absurd e (by simp)
    subst e0
    clear HR0 HL
    go_enter Tryd.func51, Tryd.ntmps51
    go_wp2
    go_ret
    exact ⟨_, rfl, Kd.R_nil _ _ _ _ _, HB.out⟩
  | some a =>
    have e5 : 0 ≤ 5 := by decide
    obtain ⟨i0, hi, hz0, hz1, hz2⟩ := info_parts bytes_Clone.infoE
    have z5 : ∀ w, Sem.run Tryd.prog (Go.sizeOf 5) w = .ok 1 w := fun w => by simp [Go.sizeOf, typeInfo, hi, hz1]
    clear e5 hi hz0 hz1 hz2
    go_enter Tryd.func51, Tryd.ntmps51
    go_wp2_with (at_builtin; refine Kd.R_append_rows (Kd.int .u8) (Rr := fun x cs => cs = [Value.int .u8 x]) (w0 := w) w.heap.size rfl (.tmp 5) (.tmp 6) 22 5 (.int .u8 0) 1 rfl Tryd.underlying22 bytes_Clone.infoE rfl (by decide) (by decide) _ [] l0 (some a) l0.length c0 (fun _ => True) (fun _ => False) rfl rfl ?aO ?aR ?aM (fun _ hk => hk.elim) (fun _ _ => trivial) ?aB ?aS ?aL ?_)
    case aO => exact Kd.R_of_own (xs := ([] : List Int)) (World.ownsRow_made w #[] 0 (Nat.le_refl _) (Nat.zero_le _) rfl) (fun _ _ => trivial)
    case aR => exact Kd.C_alloc HR0.out _
    case aM => exact fun x cs hx => hx
    case aB => exact below_alloc HB.out _
    case aS => exact below_size (below_alloc HB.out _)
    case aL => have := HL.out; simp only [List.length_nil]; omega
    intro v1 w1 hR hb hg hat
    have HR1 := Aside0.mk hR
    have HB1 := Aside0.mk hb
    clear hR hb hg hat
    go_wp2
    go_ret
    exact ⟨_, rfl, HR1.out, HB1.out⟩


/-! ### errors_New: function 91, by hand -/
-- HAND errors.New
-- making: yes
/-- A new error, never nil. -/
def errors_New.f (a0 : ByteArray) : Option (Option Int) := some (some 0)
set_option maxHeartbeats 2000000 in
set_option maxRecDepth 100000 in
theorem errors_New.calls (a0 : ByteArray) (r : Option Int) (w : World) (h : errors_New.f a0 = some r) :
    Calls Tryd.prog 91 #[.string a0] w fun e w' => ExE fun eT0_ eX0_ => e = .returned (errV r eT0_ eX0_) ∧ Below w.heap.size w w' := by
  obtain rfl := Option.some.inj h
  clear h
  have HB := Aside0.mk (Below.refl w.heap.size w)
  go_enter Tryd.func91, Tryd.ntmps91
  go_wp2
  go_ret
  exact ExE.intro _ _ ⟨rfl, below_alloc HB.out _⟩


end Go.Proofs.YtnhnlodmkbiiiaaDoor.PDif
