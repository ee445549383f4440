/- Printed by a program of this session (it drives the print of the kit, with contracts proved by hand beside): the Go functions of one law as Lean functions, and that the Go code comes to what they say. -/
import Derived.Test.YtbmeegkgcipmoaaPFnHashBitsx0
namespace Go.Proofs.Ytbmeegkgcipmoaa.PFnHashBits
open Go.RowKit Go.Proofs.YtbmeegkgcipmoaaW.PrintWords Go.Proofs.YtbmeegkgcipmoaaW.PrintLast Go.Proofs.YtbmeegkgcipmoaaW.PrintMore
attribute [local go_sem] max2_int min2_int max_two min_two max_three min_three max_four min_four   -- for this text's walks alone
set_option linter.unusedVariables false
set_option linter.unusedSimpArgs false

/-! ### bytes_Clone: function 20, by hand -/
-- HAND bytes.Clone
-- making: yes
/-- A copy of a slice, nil or not. -/
def bytes_Clone.f (l0 : List Int) : Option (List Int) := if l0.length * 1 ≤ 140737488351232 then some l0 else none
theorem bytes_Clone.infoE : (Try.prog.info? 5).map (fun i => (i.zero, i.size, i.bytes)) = some (some (.int .u8 0), 1, 1) := by kernel_rfl
set_option maxHeartbeats 2000000 in
set_option maxRecDepth 100000 in
theorem bytes_Clone.calls (A0 : Option Addr) (c0 : Nat) (l0 : List Int) (r : List Int) (w : World) (hr0 : Kd.C (Kd.int .u8) w A0 l0.length l0) (hc0 : l0.length ≤ c0) (h : bytes_Clone.f l0 = some r) :
    Calls Try.prog 20 #[.slice A0 l0.length c0] w fun e w' => ∃ v0_ : Value, e = .returned (v0_) ∧ Kd.R (Kd.int .u8) 5 w' w.heap.size (fun _ => True) v0_ r ∧ Below w.heap.size w w' := by
  unfold bytes_Clone.f at h
  by_cases hl : l0.length * 1 ≤ 140737488351232
  case neg => rw [if_neg hl] at h; exact absurd h (by simp)
  rw [if_pos hl] at h
  obtain rfl := Option.some.inj h
  clear h
  have qs : ∀ (w : World) (a : Option Addr) (n c n' c' : Nat), (binOp .eql 22 (.slice a n c) (.slice none n' c')).run Try.prog w = .ok (.bool a.isNone) w := fun w a n c n' c' => Lib.run_eql_slice_nil w _ _ a n c n' c' Try.underlying22
  have HB := Aside0.mk (Below.refl w.heap.size w)
  have HR0 := Aside0.mk hr0
  have HL := Aside0.mk hl
  clear hr0 hl hc0
  cases A0 with
  | none =>
    have e0 : l0 = [] := by
      have h1 := HR0.out
      rcases Nat.eq_zero_or_pos l0.length with h0 | h0
      · exact List.eq_nil_of_length_eq_zero h0
      · obtain ⟨ad, e, _⟩ := h1.2.2 h0
        exact absurd e (by simp)
    subst e0
    clear HR0 HL
    go_enter Try.func20, Try.ntmps20
    go_wp2
    go_ret
    exact ⟨_, rfl, Kd.R_nil _ _ _ _ _, HB.out⟩
  | some a =>
    have e5 : 0 ≤ 5 := by decide
    obtain ⟨i0, hi, hz0, hz1, hz2⟩ := info_parts bytes_Clone.infoE
    have z5 : ∀ w, Sem.run Try.prog (Go.sizeOf 5) w = .ok 1 w := fun w => by simp [Go.sizeOf, typeInfo, hi, hz1]
    clear e5 hi hz0 hz1 hz2
    go_enter Try.func20, Try.ntmps20
    go_wp2_with (at_builtin; refine Kd.R_append_rows (Kd.int .u8) (Rr := fun x cs => cs = [Value.int .u8 x]) (w0 := w) w.heap.size rfl (.tmp 5) (.tmp 6) 22 5 (.int .u8 0) 1 rfl Try.underlying22 bytes_Clone.infoE rfl (by decide) (by decide) _ [] l0 (some a) l0.length c0 (fun _ => True) (fun _ => False) rfl rfl ?aO ?aR ?aM (fun _ hk => hk.elim) (fun _ _ => trivial) ?aB ?aS ?aL ?_)
    case aO => exact Kd.R_of_own (xs := ([] : List Int)) (World.ownsRow_made w #[] 0 (Nat.le_refl _) (Nat.zero_le _) rfl) (fun _ _ => trivial)
    case aR => exact Kd.C_alloc HR0.out _
    case aM => exact fun x cs hx => hx
    case aB => exact below_alloc HB.out _
    case aS => exact below_size (below_alloc HB.out _)
    case aL => have := HL.out; simp only [List.length_nil]; omega
    intro v1 w1 hR hb hg hat
    have HR1 := Aside0.mk hR
    have HB1 := Aside0.mk hb
    clear hR hb hg hat
    go_wp2
    go_ret
    exact ⟨_, rfl, HR1.out, HB1.out⟩


/-! ### errors_New: function 65, by hand -/
-- HAND errors.New
-- making: yes
/-- A new error, never nil. -/
def errors_New.f (a0 : ByteArray) : Option (Option Int) := some (some 0)
set_option maxHeartbeats 2000000 in
set_option maxRecDepth 100000 in
theorem errors_New.calls (a0 : ByteArray) (r : Option Int) (w : World) (h : errors_New.f a0 = some r) :
    Calls Try.prog 65 #[.string a0] w fun e w' => ∃ (eT0_ : TypeId) (eX0_ : Value), e = .returned (errV r eT0_ eX0_) ∧ Below w.heap.size w w' := by
  obtain rfl := Option.some.inj h
  clear h
  have HB := Aside0.mk (Below.refl w.heap.size w)
  go_enter Try.func65, Try.ntmps65
  go_wp2
  go_ret
  exact ⟨_, _, rfl, below_alloc HB.out _⟩


/-! ### hamt_mkmask: function 86 -/
def hamt_mkmask.f (a0 : Int) : Option (Int) := if 0 ≤ (IntKind.u64.wrap (a0)) then (some (((shl .u8 1 (IntKind.u64.wrap (a0))) - 1) % 256)) else (none)
set_option maxHeartbeats 8000000 in
set_option maxRecDepth 100000 in
theorem hamt_mkmask.calls (a0 : Int) (r : Int) (w : World) (h : hamt_mkmask.f a0 = some r) :
    Calls Try.prog 86 #[.int .i64 a0] w fun e w' => e = .returned (.int .u8 r) ∧ Drawn0 w w' := by
  have H : (if 0 ≤ (IntKind.u64.wrap (a0)) then (some (((shl .u8 1 (IntKind.u64.wrap (a0))) - 1) % 256)) else (none)) = some r := h
  clear h
  obtain ⟨ji2, hji2⟩ : ∃ j_ : Int, (IntKind.u64.wrap (a0)) = j_ := ⟨_, rfl⟩
  replace H : (if 0 ≤ (ji2) then (some (((shl .u8 1 (ji2)) - 1) % 256)) else (none)) = some r := by first | (rw [hji2] at H; exact H) | (simp only [hji2] at H ⊢; exact H)
  by_cases c3 : 0 ≤ (ji2)
  · rw [if_pos c3] at H
    have c3b0 := eq_true c3
    have c3b1 : decide (0 ≤ (ji2)) = true := decide_eq_true c3
    clear c3
    obtain ⟨ji4, hji4⟩ : ∃ j_ : Int, (shl .u8 1 (ji2)) = j_ := ⟨_, rfl⟩
    replace H : (some (((ji4) - 1) % 256)) = some r := by first | (rw [hji4] at H; exact H) | (simp only [hji4] at H ⊢; exact H)
    have hji4_ : (IntKind.u8.wrap (1 * 2 ^ min (ji2).toNat 8)) = ji4 := hji4
    have hji4z : (ji2) ≤ 8 → (IntKind.u8.wrap (1 * 2 ^ (ji2).toNat)) = ji4 := shl_small hji4
    have hji4u : (IntKind.u8.wrap (2 ^ min (ji2).toNat 8)) = ji4 := by have h_ := hji4_; rw [Int.one_mul] at h_; exact h_
    have hji4v : (ji2) ≤ 8 → (IntKind.u8.wrap (2 ^ (ji2).toNat)) = ji4 := fun hle_ => by have h_ := hji4z hle_; rw [Int.one_mul] at h_; exact h_
    obtain rfl := Option.some.inj H
    go_enter Try.func86, Try.ntmps86
    go_wp2
    go_ret
    exact ⟨by first | rfl | (simp; done) | (simp only [← hji2, ← hji4] <;> (first | rfl | simp)) | (simp [*]; done), by repeat (first | exact Drawn0.refl _ | apply Drawn0.step)⟩
  · rw [if_neg c3] at H
    exact absurd H (by simp)

end Go.Proofs.Ytbmeegkgcipmoaa.PFnHashBits
