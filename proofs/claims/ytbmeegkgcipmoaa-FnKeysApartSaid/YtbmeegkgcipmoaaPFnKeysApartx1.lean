/- Printed by a program of this session (it drives the print of the kit, with contracts proved by hand beside): the Go functions of one law as Lean functions, and that the Go code comes to what they say. -/
import Derived.Test.YtbmeegkgcipmoaaPFnKeysApartx0
namespace Go.Proofs.Ytbmeegkgcipmoaa.PFnKeysApart
open Go.RowKit Go.Proofs.YtbmeegkgcipmoaaL Go.Proofs.YtbmeegkgcipmoaaW.PrintWords Go.Proofs.YtbmeegkgcipmoaaW.PrintLast Go.Proofs.YtbmeegkgcipmoaaW.PrintMore
attribute [local go_sem] max2_int min2_int max_two min_two max_three min_three max_four min_four   -- for this text's walks alone
set_option linter.unusedVariables false
set_option linter.unusedSimpArgs false

/-! ### bytes_Clone: function 20, by hand -/
-- HAND bytes.Clone
-- making: yes
/-- A copy of a slice, nil or not. -/
def bytes_Clone.f (l0 : List Int) : Option (List Int) := if l0.length * 1 ≤ 140737488351232 then some l0 else none
theorem bytes_Clone.infoE : (Try.prog.info? 5).map (fun i => (i.zero, i.size, i.bytes)) = some (some (.int .u8 0), 1, 1) := by kernel_rfl
set_option maxHeartbeats 2000000 in
set_option maxRecDepth 100000 in
theorem bytes_Clone.calls (A0 : Option Addr) (c0 : Nat) (l0 : List Int) (r : List Int) (w : World) (hr0 : Kd.C (Kd.int .u8) w A0 l0.length l0) (hc0 : l0.length ≤ c0) (h : bytes_Clone.f l0 = some r) :
    Calls Try.prog 20 #[.slice A0 l0.length c0] w fun e w' => ∃ v0_ : Value, e = .returned (v0_) ∧ Kd.R (Kd.int .u8) 5 w' w.heap.size (fun _ => True) v0_ r ∧ Below w.heap.size w w' := by
  unfold bytes_Clone.f at h
  by_cases hl : l0.length * 1 ≤ 140737488351232
  case neg => rw [if_neg hl] at h; exact absurd h (by simp)
  rw [if_pos hl] at h
  obtain rfl := Option.some.inj h
  clear h
  have qs : ∀ (w : World) (a : Option Addr) (n c n' c' : Nat), (binOp .eql 22 (.slice a n c) (.slice none n' c')).run Try.prog w = .ok (.bool a.isNone) w := fun w a n c n' c' => Lib.run_eql_slice_nil w _ _ a n c n' c' Try.underlying22
  have HB := Aside0.mk (Below.refl w.heap.size w)
  have HR0 := Aside0.mk hr0
  have HL := Aside0.mk hl
  clear hr0 hl hc0
  cases A0 with
  | none =>
    have e0 : l0 = [] := by
      have h1 := HR0.out
      rcases Nat.eq_zero_or_pos l0.length with h0 | h0
      · exact List.eq_nil_of_length_eq_zero h0
      · obtain ⟨ad, e, _⟩ := h1.2.2 h0
        exact absurd e (by simp)
    subst e0
    clear HR0 HL
    go_enter Try.func20, Try.ntmps20
    go_wp2
    go_ret
    exact ⟨_, rfl, Kd.R_nil _ _ _ _ _, HB.out⟩
  | some a =>
    have e5 : 0 ≤ 5 := by decide
    obtain ⟨i0, hi, hz0, hz1, hz2⟩ := info_parts bytes_Clone.infoE
    have z5 : ∀ w, Sem.run Try.prog (Go.sizeOf 5) w = .ok 1 w := fun w => by simp [Go.sizeOf, typeInfo, hi, hz1]
    clear e5 hi hz0 hz1 hz2
    go_enter Try.func20, Try.ntmps20
    go_wp2_with (at_builtin; refine Kd.R_append_rows (Kd.int .u8) (Rr := fun x cs => cs = [Value.int .u8 x]) (w0 := w) w.heap.size rfl (.tmp 5) (.tmp 6) 22 5 (.int .u8 0) 1 rfl Try.underlying22 bytes_Clone.infoE rfl (by decide) (by decide) _ [] l0 (some a) l0.length c0 (fun _ => True) (fun _ => False) rfl rfl ?aO ?aR ?aM (fun _ hk => hk.elim) (fun _ _ => trivial) ?aB ?aS ?aL ?_)
    case aO => exact Kd.R_of_own (xs := ([] : List Int)) (World.ownsRow_made w #[] 0 (Nat.le_refl _) (Nat.zero_le _) rfl) (fun _ _ => trivial)
    case aR => exact Kd.C_alloc HR0.out _
    case aM => exact fun x cs hx => hx
    case aB => exact below_alloc HB.out _
    case aS => exact below_size (below_alloc HB.out _)
    case aL => have := HL.out; simp only [List.length_nil]; omega
    intro v1 w1 hR hb hg hat
    have HR1 := Aside0.mk hR
    have HB1 := Aside0.mk hb
    clear hR hb hg hat
    go_wp2
    go_ret
    exact ⟨_, rfl, HR1.out, HB1.out⟩


/-! ### gobase32_asciiToLower: function 87 -/
def gobase32_asciiToLower.f (a0 : Int) : Option (Int) := if a0 ≥ 65 then (if a0 ≤ 90 then (some ((a0 + 32) % 256)) else (some a0)) else (some a0)
set_option maxHeartbeats 8000000 in
set_option maxRecDepth 100000 in
theorem gobase32_asciiToLower.calls (a0 : Int) (r : Int) (w : World) (h : gobase32_asciiToLower.f a0 = some r) :
    Calls Try.prog 87 #[.int .u8 a0] w fun e w' => e = .returned (.int .u8 r) ∧ Drawn0 w w' := by
  have H : (if a0 ≥ 65 then (if a0 ≤ 90 then (some ((a0 + 32) % 256)) else (some a0)) else (some a0)) = some r := h
  clear h
  by_cases c2 : a0 ≥ 65
  · rw [if_pos c2] at H
    have c2b0 : decide (65 ≤ a0) = true := decide_eq_true c2
    clear c2
    by_cases c3 : a0 ≤ 90
    · rw [if_pos c3] at H
      have c3b0 : decide (a0 ≤ 90) = true := decide_eq_true c3
      clear c3
      obtain rfl := Option.some.inj H
      go_enter Try.func87, Try.ntmps87
      go_wp2
      go_ret
      exact ⟨by first | rfl | (simp; done) | (simp [*]; done), by repeat (first | exact Drawn0.refl _ | apply Drawn0.step)⟩
    · rw [if_neg c3] at H
      have c3b0 : decide (a0 ≤ 90) = false := decide_eq_false c3
      clear c3
      obtain rfl := Option.some.inj H
      go_enter Try.func87, Try.ntmps87
      go_wp2
      go_ret
      exact ⟨by first | rfl | (simp; done) | (simp [*]; done), by repeat (first | exact Drawn0.refl _ | apply Drawn0.step)⟩
  · rw [if_neg c2] at H
    have c2b0 : decide (65 ≤ a0) = false := decide_eq_false c2
    clear c2
    obtain rfl := Option.some.inj H
    go_enter Try.func87, Try.ntmps87
    go_wp2
    go_ret
    exact ⟨by first | rfl | (simp; done) | (simp [*]; done), by repeat (first | exact Drawn0.refl _ | apply Drawn0.step)⟩

/-! ### gobase32_asciiToUpper: function 88 -/
def gobase32_asciiToUpper.f (a0 : Int) : Option (Int) := if a0 ≥ 97 then (if a0 ≤ 122 then (some ((a0 - 32) % 256)) else (some a0)) else (some a0)
set_option maxHeartbeats 8000000 in
set_option maxRecDepth 100000 in
theorem gobase32_asciiToUpper.calls (a0 : Int) (r : Int) (w : World) (h : gobase32_asciiToUpper.f a0 = some r) :
    Calls Try.prog 88 #[.int .u8 a0] w fun e w' => e = .returned (.int .u8 r) ∧ Drawn0 w w' := by
  have H : (if a0 ≥ 97 then (if a0 ≤ 122 then (some ((a0 - 32) % 256)) else (some a0)) else (some a0)) = some r := h
  clear h
  by_cases c2 : a0 ≥ 97
  · rw [if_pos c2] at H
    have c2b0 : decide (97 ≤ a0) = true := decide_eq_true c2
    clear c2
    by_cases c3 : a0 ≤ 122
    · rw [if_pos c3] at H
      have c3b0 : decide (a0 ≤ 122) = true := decide_eq_true c3
      clear c3
      obtain rfl := Option.some.inj H
      go_enter Try.func88, Try.ntmps88
      go_wp2
      go_ret
      exact ⟨by first | rfl | (simp; done) | (simp [*]; done), by repeat (first | exact Drawn0.refl _ | apply Drawn0.step)⟩
    · rw [if_neg c3] at H
      have c3b0 : decide (a0 ≤ 122) = false := decide_eq_false c3
      clear c3
      obtain rfl := Option.some.inj H
      go_enter Try.func88, Try.ntmps88
      go_wp2
      go_ret
      exact ⟨by first | rfl | (simp; done) | (simp [*]; done), by repeat (first | exact Drawn0.refl _ | apply Drawn0.step)⟩
  · rw [if_neg c2] at H
    have c2b0 : decide (97 ≤ a0) = false := decide_eq_false c2
    clear c2
    obtain rfl := Option.some.inj H
    go_enter Try.func88, Try.ntmps88
    go_wp2
    go_ret
    exact ⟨by first | rfl | (simp; done) | (simp [*]; done), by repeat (first | exact Drawn0.refl _ | apply Drawn0.step)⟩

-- NOT PRINTED: function 77 (gobase32_NewEncodingCI)

-- NOT PRINTED: function 78 (gobase32_Encoding_WithPadding)

-- NOT PRINTED: function 68 (gobase32_RawStdEncoding)

-- NOT PRINTED: function 69 (gobase32_Encoding_EncodedLen)

-- NOT PRINTED: function 70 (gobase32_Encoding_Encode)

/-! ### godatastore_RawKey: function 71 -/
def godatastore_RawKey.f (a0 : ByteArray) : Option (ByteArray) := if (a0.size : Int) = 0 then (some (⟨#[47]⟩ : ByteArray)) else (if 0 < (a0.size : Int) then (if (bt a0 0) = 47 then (if (a0.size : Int) > 1 then (if 0 ≤ (wrap64 ((a0.size : Int) - 1)) then (if (wrap64 ((a0.size : Int) - 1)) < (a0.size : Int) then (if (bt a0 (wrap64 ((a0.size : Int) - 1))) = 47 then (if 23 + a0.size ≤ 9223372036854775807 then (none) else (none)) else (some a0)) else (none)) else (none)) else (some a0)) else (if 23 + a0.size ≤ 9223372036854775807 then (none) else (none))) else (none))
set_option maxHeartbeats 8000000 in
set_option maxRecDepth 100000 in
theorem godatastore_RawKey.calls (a0 : ByteArray) (r : ByteArray) (w : World) (h : godatastore_RawKey.f a0 = some r) :
    Calls Try.prog 71 #[.string a0] w fun e w' => e = .returned (.agg #[.string r]) ∧ Below w.heap.size w w' := by
  have hu69 := Try.underlying69
  have HB := Aside0.mk (Below.refl w.heap.size w)
  have H : (if (a0.size : Int) = 0 then (some (⟨#[47]⟩ : ByteArray)) else (if 0 < (a0.size : Int) then (if (bt a0 0) = 47 then (if (a0.size : Int) > 1 then (if 0 ≤ (wrap64 ((a0.size : Int) - 1)) then (if (wrap64 ((a0.size : Int) - 1)) < (a0.size : Int) then (if (bt a0 (wrap64 ((a0.size : Int) - 1))) = 47 then (if 23 + a0.size ≤ 9223372036854775807 then (none) else (none)) else (some a0)) else (none)) else (none)) else (some a0)) else (if 23 + a0.size ≤ 9223372036854775807 then (none) else (none))) else (none))) = some r := h
  clear h
  by_cases c2 : (a0.size : Int) = 0
  · rw [if_pos c2] at H
    have c2b0 : ((a0.size : Int) == 0) = true := beq_iff_eq.mpr c2
    have c2b1 : ((a0.size : Int) != 0) = false := bne_eq_false_iff_eq.mpr c2
    clear c2
    obtain rfl := Option.some.inj H
    go_enter Try.func71, Try.ntmps71
    go_wp2_with (first | ((with_reducible refine gate_dst (N := 2) rfl ?_); (try (refine gate_guard (by rfl) ?_; dsimp only)); refine box_event ?hg (N := 2) ?hd (cs := #[.string (⟨#[]⟩ : ByteArray)]) (t := 69) ?hr ?_; (case hd => rfl); (case hg => rfl); (case hr => first | (go_simp; done) | (go_simp; rfl)); intro gb101 hg w3 hbox hb; have n0_ := Aside0.mk (below_step (by repeat (first | (with_reducible first | exact HB.out | apply below_alloc | apply pw_below_drewN | apply below_drew1) | exact HB.out)) hb); have n1_ := Aside0.mk (hbox); have n2_ := Aside0.mk ((by rw [hg]; exact (below_size (by repeat (first | (with_reducible first | exact HB.out | apply below_alloc | apply pw_below_drewN | apply below_drew1) | exact HB.out))) : w.heap.size ≤ gb101)); have n3_ := Aside0.mk ((by rw [hg]; exact (below_size (by repeat (first | (with_reducible first | exact HB.out | apply below_alloc | apply pw_below_drewN | apply below_drew1) | exact HB.out))) : w.heap.size ≤ gb101)); clear HB; have HB := n0_; have BK101 := n1_; have GW101 := n2_; have GE101 := n3_; clear n0_ n1_ n2_ n3_; clear hb hbox hg; have hcz4_0 : w3.cell? ⟨gb101, 0, none⟩ = some (.string (⟨#[]⟩ : ByteArray)) := (blk_cell BK101.out 0).trans rfl; have hfz4_0 := blk_frozen BK101.out 0))
    refine bodyPost_ret (results_cell_row rfl _ _ gb101 69 #[.string (⟨#[47]⟩ : ByteArray)] (0, 0) _ rfl (by (with_reducible repeat (first | refine blk_drewN ?_ _ | refine blk_drew ?_ | refine blk_alloc ?_ _)); refine blk_put (cs := #[.string (⟨#[]⟩ : ByteArray)]) ?_ 0 _ rfl; (with_reducible repeat (first | refine blk_drewN ?_ _ | refine blk_drew ?_ | refine blk_alloc ?_ _)); exact BK101.out) Try.underlying69 rfl (by kernel_rfl)) rfl ?_
    exact ⟨by first | rfl | (simp [errV_none, errV_some] <;> rfl) | (simp [*, errV_none, errV_some] <;> rfl), by repeat (first | (with_reducible first | exact HB.out | apply below_alloc | apply pw_below_drewN | apply below_drew1 | refine below_set ?_ GE101.out) | exact HB.out)⟩
  · rw [if_neg c2] at H
    have c2b0 : ((a0.size : Int) == 0) = false := beq_eq_false_iff_ne.mpr c2
    have c2b1 : ((a0.size : Int) != 0) = true := bne_iff_ne.mpr c2
    by_cases c5 : 0 < (a0.size : Int)
    · rw [if_pos c5] at H
      have c5b0 : decide (0 < (a0.size : Int)) = true := decide_eq_true c5
      have c5b1 : decide (0 < a0.size) = true := decide_eq_true (by omega)
      clear c5
      by_cases c7 : (bt a0 0) = 47
      · rw [if_pos c7] at H
        have c7b0 : ((bt a0 0) == 47) = true := beq_iff_eq.mpr c7
        have c7b1 : ((bt a0 0) != 47) = false := bne_eq_false_iff_eq.mpr c7
        clear c7
        by_cases c8 : (a0.size : Int) > 1
        · rw [if_pos c8] at H
          have c8b0 : decide (1 < (a0.size : Int)) = true := decide_eq_true c8
          have c8b1 : decide (1 < a0.size) = true := decide_eq_true (by omega)
          clear c8
          obtain ⟨ji9, hji9⟩ : ∃ j_ : Int, (wrap64 ((a0.size : Int) - 1)) = j_ := ⟨_, rfl⟩
          replace H : (if 0 ≤ (ji9) then (if (ji9) < (a0.size : Int) then (if (bt a0 (ji9)) = 47 then (if 23 + a0.size ≤ 9223372036854775807 then (none) else (none)) else (some a0)) else (none)) else (none)) = some r := by first | (rw [hji9] at H; exact H) | (simp only [hji9] at H ⊢; exact H)
          have hji9w : (IntKind.i64.wrap ((a0.size : Int) - 1)) = ji9 := (i64_w _).trans hji9
          by_cases c10 : 0 ≤ (ji9)
          · rw [if_pos c10] at H
            have c10b0 : decide (0 ≤ (ji9)) = true := decide_eq_true c10
            clear c10
            by_cases c11 : (ji9) < (a0.size : Int)
            · rw [if_pos c11] at H
              have c11b0 : decide ((ji9) < (a0.size : Int)) = true := decide_eq_true c11
              clear c11
              by_cases c13 : (bt a0 (ji9)) = 47
              · rw [if_pos c13] at H
                have c13b0 : ((bt a0 (ji9)) == 47) = true := beq_iff_eq.mpr c13
                have c13b1 : ((bt a0 (ji9)) != 47) = false := bne_eq_false_iff_eq.mpr c13
                clear c13
                by_cases c14 : 23 + a0.size ≤ 9223372036854775807
                · rw [if_pos c14] at H
                  exact absurd H (by simp)
                · rw [if_neg c14] at H
                  exact absurd H (by simp)
              · rw [if_neg c13] at H
                have c13b0 : ((bt a0 (ji9)) == 47) = false := beq_eq_false_iff_ne.mpr c13
                have c13b1 : ((bt a0 (ji9)) != 47) = true := bne_iff_ne.mpr c13
                obtain rfl := Option.some.inj H
                go_enter Try.func71, Try.ntmps71
                go_wp2_with (first | ((with_reducible refine gate_dst (N := 2) rfl ?_); (try (refine gate_guard (by rfl) ?_; dsimp only)); refine box_event ?hg (N := 2) ?hd (cs := #[.string (⟨#[]⟩ : ByteArray)]) (t := 69) ?hr ?_; (case hd => rfl); (case hg => rfl); (case hr => first | (go_simp; done) | (go_simp; rfl)); intro gb101 hg w15 hbox hb; have n0_ := Aside0.mk (below_step (by repeat (first | (with_reducible first | exact HB.out | apply below_alloc | apply pw_below_drewN | apply below_drew1) | exact HB.out)) hb); have n1_ := Aside0.mk (hbox); have n2_ := Aside0.mk ((by rw [hg]; exact (below_size (by repeat (first | (with_reducible first | exact HB.out | apply below_alloc | apply pw_below_drewN | apply below_drew1) | exact HB.out))) : w.heap.size ≤ gb101)); have n3_ := Aside0.mk ((by rw [hg]; exact (below_size (by repeat (first | (with_reducible first | exact HB.out | apply below_alloc | apply pw_below_drewN | apply below_drew1) | exact HB.out))) : w.heap.size ≤ gb101)); clear HB; have HB := n0_; have BK101 := n1_; have GW101 := n2_; have GE101 := n3_; clear n0_ n1_ n2_ n3_; clear hb hbox hg; have p6 : 0 ≤ (0 : Int) := (by omega); have q6 : 0 < a0.size := (by have : (0 : Int) < (a0.size : Int) := of_decide_eq_true (by first | (with_reducible assumption) | assumption); omega); have hx6 : ∀ h : 0 < a0.size, ((a0[0]'h).toNat : Int) = bt a0 0 := bt_at a0 0; clear p6; have qi6 : (0 < (a0.size : Int)) = True := eq_true (of_decide_eq_true (by first | (with_reducible assumption) | assumption)); replace q6 := eq_true q6; have p12 : 0 ≤ ((ji9) : Int) := of_decide_eq_true (by first | (with_reducible assumption) | assumption); have q12 : (ji9) < (a0.size : Int) := of_decide_eq_true (by first | (with_reducible assumption) | assumption); have hx12 := bt_at a0 (ji9); replace p12 := eq_true p12; replace q12 := eq_true q12; have hcz16_0 : w15.cell? ⟨gb101, 0, none⟩ = some (.string (⟨#[]⟩ : ByteArray)) := (blk_cell BK101.out 0).trans rfl; have hfz16_0 := blk_frozen BK101.out 0))
                refine bodyPost_ret (results_cell_row rfl _ _ gb101 69 #[.string a0] (0, 0) _ rfl (by (with_reducible repeat (first | refine blk_drewN ?_ _ | refine blk_drew ?_ | refine blk_alloc ?_ _)); refine blk_put (cs := #[.string (⟨#[]⟩ : ByteArray)]) ?_ 0 _ rfl; (with_reducible repeat (first | refine blk_drewN ?_ _ | refine blk_drew ?_ | refine blk_alloc ?_ _)); exact BK101.out) Try.underlying69 rfl (by kernel_rfl)) rfl ?_
                exact ⟨by first | rfl | (simp [errV_none, errV_some] <;> rfl) | (simp only [← hji9]; first | rfl | (simp [errV_none, errV_some] <;> rfl)) | (simp [*, errV_none, errV_some] <;> rfl), by repeat (first | (with_reducible first | exact HB.out | apply below_alloc | apply pw_below_drewN | apply below_drew1 | refine below_set ?_ GE101.out) | exact HB.out)⟩
            · rw [if_neg c11] at H
              exact absurd H (by simp)
          · rw [if_neg c10] at H
            exact absurd H (by simp)
        · rw [if_neg c8] at H
          have c8b0 : decide (1 < (a0.size : Int)) = false := decide_eq_false c8
          have c8b1 : decide (1 < a0.size) = false := decide_eq_false (by omega)
          clear c8
          obtain rfl := Option.some.inj H
          go_enter Try.func71, Try.ntmps71
          go_wp2_with (first | ((with_reducible refine gate_dst (N := 2) rfl ?_); (try (refine gate_guard (by rfl) ?_; dsimp only)); refine box_event ?hg (N := 2) ?hd (cs := #[.string (⟨#[]⟩ : ByteArray)]) (t := 69) ?hr ?_; (case hd => rfl); (case hg => rfl); (case hr => first | (go_simp; done) | (go_simp; rfl)); intro gb101 hg w17 hbox hb; have n0_ := Aside0.mk (below_step (by repeat (first | (with_reducible first | exact HB.out | apply below_alloc | apply pw_below_drewN | apply below_drew1) | exact HB.out)) hb); have n1_ := Aside0.mk (hbox); have n2_ := Aside0.mk ((by rw [hg]; exact (below_size (by repeat (first | (with_reducible first | exact HB.out | apply below_alloc | apply pw_below_drewN | apply below_drew1) | exact HB.out))) : w.heap.size ≤ gb101)); have n3_ := Aside0.mk ((by rw [hg]; exact (below_size (by repeat (first | (with_reducible first | exact HB.out | apply below_alloc | apply pw_below_drewN | apply below_drew1) | exact HB.out))) : w.heap.size ≤ gb101)); clear HB; have HB := n0_; have BK101 := n1_; have GW101 := n2_; have GE101 := n3_; clear n0_ n1_ n2_ n3_; clear hb hbox hg; have p6 : 0 ≤ (0 : Int) := (by omega); have q6 : 0 < a0.size := (by have : (0 : Int) < (a0.size : Int) := of_decide_eq_true (by first | (with_reducible assumption) | assumption); omega); have hx6 : ∀ h : 0 < a0.size, ((a0[0]'h).toNat : Int) = bt a0 0 := bt_at a0 0; clear p6; have qi6 : (0 < (a0.size : Int)) = True := eq_true (of_decide_eq_true (by first | (with_reducible assumption) | assumption)); replace q6 := eq_true q6; have hcz18_0 : w17.cell? ⟨gb101, 0, none⟩ = some (.string (⟨#[]⟩ : ByteArray)) := (blk_cell BK101.out 0).trans rfl; have hfz18_0 := blk_frozen BK101.out 0))
          refine bodyPost_ret (results_cell_row rfl _ _ gb101 69 #[.string a0] (0, 0) _ rfl (by (with_reducible repeat (first | refine blk_drewN ?_ _ | refine blk_drew ?_ | refine blk_alloc ?_ _)); refine blk_put (cs := #[.string (⟨#[]⟩ : ByteArray)]) ?_ 0 _ rfl; (with_reducible repeat (first | refine blk_drewN ?_ _ | refine blk_drew ?_ | refine blk_alloc ?_ _)); exact BK101.out) Try.underlying69 rfl (by kernel_rfl)) rfl ?_
          exact ⟨by first | rfl | (simp [errV_none, errV_some] <;> rfl) | (simp [*, errV_none, errV_some] <;> rfl), by repeat (first | (with_reducible first | exact HB.out | apply below_alloc | apply pw_below_drewN | apply below_drew1 | refine below_set ?_ GE101.out) | exact HB.out)⟩
      · rw [if_neg c7] at H
        have c7b0 : ((bt a0 0) == 47) = false := beq_eq_false_iff_ne.mpr c7
        have c7b1 : ((bt a0 0) != 47) = true := bne_iff_ne.mpr c7
        by_cases c19 : 23 + a0.size ≤ 9223372036854775807
        · rw [if_pos c19] at H
          exact absurd H (by simp)
        · rw [if_neg c19] at H
          exact absurd H (by simp)
    · rw [if_neg c5] at H
      exact absurd H (by simp)

end Go.Proofs.Ytbmeegkgcipmoaa.PFnKeysApart
