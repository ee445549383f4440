/- Printed by a program of this session (it drives the print of the kit, with contracts proved by hand beside): the Go functions of one law as Lean functions, and that the Go code comes to what they say. -/
import Derived.Test.YtbmeegkgcipmoaaPFnHashBitsx0
import Derived.Test.YtbmeegkgcipmoaaPFnHashBitsx1
import Derived.Test.YtbmeegkgcipmoaaPFnHashBitsx2
namespace Go.Proofs.Ytbmeegkgcipmoaa.PFnHashBits
open Go.RowKit Go.Proofs.YtbmeegkgcipmoaaW.PrintWords Go.Proofs.YtbmeegkgcipmoaaW.PrintLast Go.Proofs.YtbmeegkgcipmoaaW.PrintMore
attribute [local go_sem] max2_int min2_int max_two min_two max_three min_three max_four min_four   -- for this text's walks alone
set_option linter.unusedVariables false
set_option linter.unusedSimpArgs false

/-! ### hamt_hashBits_Next: function 64 -/
def hamt_hashBits_Next.f (k : Nat) (s0_0 : List Int) (s0_1 : Int) (a1 : Int) : Option (Int × Option Int × Int) := if (wrap64 (s0_1 + a1)) > (wrap64 ((s0_0.length : Int) * 8)) then ((errors_New.f (⟨#[115, 104, 97, 114, 100, 101, 100, 32, 100, 105, 114, 101, 99, 116, 111, 114, 121, 32, 116, 111, 111, 32, 100, 101, 101, 112]⟩ : ByteArray)).bind fun t108 => (some (0, t108, s0_1))) else ((hamt_hashBits_next.f k s0_0 s0_1 a1).bind fun bt109 => (some (bt109.1, none, bt109.2)))
theorem hamt_hashBits_Next.mono : ∀ a0 a1 a2 k, LeO (hamt_hashBits_Next.f k a0 a1 a2) (hamt_hashBits_Next.f (k + 1) a0 a1 a2) := by
  intro a0 a1 a2 k
  unfold hamt_hashBits_Next.f
  repeat' first
      | (with_reducible exact hamt_hashBits_next.mono _ _ _ _)
      | (with_reducible exact LeO.refl _)
      | (with_reducible exact LeO.none _)
      | (with_reducible refine LeO.ite ?_ ?_)
      | (with_reducible refine LeO.bind ?_ (fun _ => ?_))
      | exact hamt_hashBits_next.mono _ _ _ _
      | exact LeO.none _
      | refine LeO.ite ?_ ?_
      | refine LeO.bind ?_ (fun _ => ?_)
set_option maxHeartbeats 8000000 in
set_option maxRecDepth 100000 in
theorem hamt_hashBits_Next.calls (k : Nat) (g : Nat) (s0_0 : List Int) (s0_1 : Int) (a1 : Int) (r1 : Int) (r2 : Option Int) (r3 : Int) (w0 w : World) (hI : IsS87 w0 w g s0_0 s0_1) (hB : Below w0.heap.size w0 w) (h : hamt_hashBits_Next.f k s0_0 s0_1 a1 = some (r1, r2, r3)) :
    Calls Try.prog 64 #[.pointer (some ⟨g, 0, none⟩), .int .i64 a1] w fun e w' => ∃ (eT1_ : TypeId) (eX1_ : Value), e = .returned (.tuple #[.int .i64 r1, errV r2 eT1_ eX1_]) ∧ IsS87 w0 w' g s0_0 r3 ∧ Below w0.heap.size w0 w' ∧ KeepBut w w' g none := by
  have HI0 := Aside0.mk hI
  have HK := Aside0.mk (KeepBut.refl w g none)
  have HL := Aside0.mk hB.size
  clear hI
  have HW0 := Aside0.mk hB.size
  have HB := Aside0.mk hB
  clear hB
  have H : (if (wrap64 (s0_1 + a1)) > (wrap64 ((s0_0.length : Int) * 8)) then ((errors_New.f (⟨#[115, 104, 97, 114, 100, 101, 100, 32, 100, 105, 114, 101, 99, 116, 111, 114, 121, 32, 116, 111, 111, 32, 100, 101, 101, 112]⟩ : ByteArray)).bind fun t108 => (some (0, t108, s0_1))) else ((hamt_hashBits_next.f k s0_0 s0_1 a1).bind fun bt109 => (some (bt109.1, none, bt109.2)))) = some (r1, r2, r3) := h
  clear h
  by_cases c3 : (wrap64 (s0_1 + a1)) > (wrap64 ((s0_0.length : Int) * 8))
  · rw [if_pos c3] at H
    have c3b0 : decide ((wrap64 ((s0_0.length : Int) * 8)) < (wrap64 (s0_1 + a1))) = true := decide_eq_true c3
    clear c3
    replace H := Option.bind_eq_some_iff.mp H
    obtain ⟨t108, A40, H⟩ := H
    replace H : (some (0, t108, s0_1)) = some (r1, r2, r3) := H
    have A4 := Aside0.mk A40
    clear A40
    simp only [Option.some.injEq, Prod.mk.injEq] at H
    obtain ⟨rfl, rfl, rfl⟩ := H
    obtain ⟨ASz5_0, cSz5_0, HGz5, hgz5, HSz5_0⟩ := HI0.out
    have hcz5_0 := cellS87_0 HGz5
    have hcz5_1 := cellS87_1 HGz5
    have hfz5_1 := blk_frozen HGz5 1
    clear HGz5 hgz5
    go_enter Try.func64, Try.ntmps64
    go_wp2_with (first | (go_at_call 65; (with_reducible refine (errors_New.calls (⟨#[115, 104, 97, 114, 100, 101, 100, 32, 100, 105, 114, 101, 99, 116, 111, 114, 121, 32, 116, 111, 111, 32, 100, 101, 101, 112]⟩ : ByteArray) t108 _ A4.out).mono ?_); rintro e w6 ⟨eT_t108, eX_t108, rfl, hb⟩; have n0_ := Aside0.mk (IsS87.below (by repeat (first | (with_reducible first | exact HI0.out | apply IsS87.alloc | apply IsS87.drewN | apply IsS87.drew | apply IsS87.set_1) | exact HI0.out)) hb); have n1_ := Aside0.mk (KeepBut.trans (by repeat (first | (with_reducible first | exact HK.out | apply KeepBut.set_ | apply keep_drewN | apply keep_drew | apply keep_alloc) | exact HK.out)) (KeepBut.of_below hb g none) (.inl rfl)); have n2_ := Aside0.mk (below_step (by repeat (first | (with_reducible first | exact HB.out | apply below_alloc | apply pw_below_drewN | apply below_drew1 | refine below_set ?_ (IsS87.ge HI0.out)) | exact HB.out)) hb); clear HI0; clear HK; clear HB; have HI0 := n0_; have HK := n1_; have HB := n2_; clear n0_ n1_ n2_; (try clear hb); (try clear hb2); (try clear hk); (try clear hi); (try simp only [errV_none, errV_some])))
    repeat (go_quiet (first | (go_at_call 65; (with_reducible refine (errors_New.calls (⟨#[115, 104, 97, 114, 100, 101, 100, 32, 100, 105, 114, 101, 99, 116, 111, 114, 121, 32, 116, 111, 111, 32, 100, 101, 101, 112]⟩ : ByteArray) t108 _ A4.out).mono ?_); rintro e w6 ⟨eT_t108, eX_t108, rfl, hb⟩; have n0_ := Aside0.mk (IsS87.below (by repeat (first | (with_reducible first | exact HI0.out | apply IsS87.alloc | apply IsS87.drewN | apply IsS87.drew | apply IsS87.set_1) | exact HI0.out)) hb); have n1_ := Aside0.mk (KeepBut.trans (by repeat (first | (with_reducible first | exact HK.out | apply KeepBut.set_ | apply keep_drewN | apply keep_drew | apply keep_alloc) | exact HK.out)) (KeepBut.of_below hb g none) (.inl rfl)); have n2_ := Aside0.mk (below_step (by repeat (first | (with_reducible first | exact HB.out | apply below_alloc | apply pw_below_drewN | apply below_drew1 | refine below_set ?_ (IsS87.ge HI0.out)) | exact HB.out)) hb); clear HI0; clear HK; clear HB; have HI0 := n0_; have HK := n1_; have HB := n2_; clear n0_ n1_ n2_; (try clear hb); (try clear hb2); (try clear hk); (try clear hi); (try simp only [errV_none, errV_some]))); try go_wp2_with (first | (go_at_call 65; (with_reducible refine (errors_New.calls (⟨#[115, 104, 97, 114, 100, 101, 100, 32, 100, 105, 114, 101, 99, 116, 111, 114, 121, 32, 116, 111, 111, 32, 100, 101, 101, 112]⟩ : ByteArray) t108 _ A4.out).mono ?_); rintro e w6 ⟨eT_t108, eX_t108, rfl, hb⟩; have n0_ := Aside0.mk (IsS87.below (by repeat (first | (with_reducible first | exact HI0.out | apply IsS87.alloc | apply IsS87.drewN | apply IsS87.drew | apply IsS87.set_1) | exact HI0.out)) hb); have n1_ := Aside0.mk (KeepBut.trans (by repeat (first | (with_reducible first | exact HK.out | apply KeepBut.set_ | apply keep_drewN | apply keep_drew | apply keep_alloc) | exact HK.out)) (KeepBut.of_below hb g none) (.inl rfl)); have n2_ := Aside0.mk (below_step (by repeat (first | (with_reducible first | exact HB.out | apply below_alloc | apply pw_below_drewN | apply below_drew1 | refine below_set ?_ (IsS87.ge HI0.out)) | exact HB.out)) hb); clear HI0; clear HK; clear HB; have HI0 := n0_; have HK := n1_; have HB := n2_; clear n0_ n1_ n2_; (try clear hb); (try clear hb2); (try clear hk); (try clear hi); (try simp only [errV_none, errV_some]))))
    go_ret2
    exact ⟨_, _, by first | rfl | (simp [errV_none, errV_some] <;> rfl) | (simp [*, errV_none, errV_some] <;> rfl), by repeat (first | (with_reducible first | exact HI0.out | apply IsS87.alloc | apply IsS87.drewN | apply IsS87.drew | apply IsS87.set_1) | exact HI0.out), by repeat (first | (with_reducible first | exact HB.out | apply below_alloc | apply pw_below_drewN | apply below_drew1 | refine below_set ?_ (IsS87.ge HI0.out)) | exact HB.out), by repeat (first | (with_reducible first | exact HK.out | apply KeepBut.set_ | apply keep_drewN | apply keep_drew | apply keep_alloc) | exact HK.out)⟩
  · rw [if_neg c3] at H
    have c3b0 : decide ((wrap64 ((s0_0.length : Int) * 8)) < (wrap64 (s0_1 + a1))) = false := decide_eq_false c3
    clear c3
    replace H := Option.bind_eq_some_iff.mp H
    obtain ⟨⟨t109, t110⟩, A70, H⟩ := H
    replace H : (some (t109, none, t110)) = some (r1, r2, r3) := H
    have A7 := Aside0.mk A70
    clear A70
    simp only [Option.some.injEq, Prod.mk.injEq] at H
    obtain ⟨rfl, rfl, rfl⟩ := H
    obtain ⟨ASz8_0, cSz8_0, HGz8, hgz8, HSz8_0⟩ := HI0.out
    have hcz8_0 := cellS87_0 HGz8
    have hcz8_1 := cellS87_1 HGz8
    have hfz8_1 := blk_frozen HGz8 1
    clear HGz8 hgz8
    go_enter Try.func64, Try.ntmps64
    go_wp2_with (first | (go_at_call 76; (with_reducible refine (hamt_hashBits_next.calls k g s0_0 s0_1 a1 t109 t110 w0 _ ?side1 ?side2 A7.out).mono ?_); (case side1 => repeat (first | (with_reducible first | exact HI0.out | apply IsS87.alloc | apply IsS87.drewN | apply IsS87.drew | apply IsS87.set_1) | exact HI0.out)); (case side2 => repeat (first | (with_reducible first | exact HB.out | apply below_alloc | apply pw_below_drewN | apply below_drew1 | refine below_set ?_ (IsS87.ge HI0.out)) | exact HB.out)); rintro e w9 ⟨rfl, hi, hb, hk⟩; have n0_ := Aside0.mk (KeepBut.trans (by repeat (first | (with_reducible first | exact HK.out | apply KeepBut.set_ | apply keep_drewN | apply keep_drew | apply keep_alloc) | exact HK.out)) hk (.inl rfl)); have n1_ := Aside0.mk (hb); have n2_ := Aside0.mk (hi); clear HK; clear HB; clear HI0; have HK := n0_; have HB := n1_; have HI0 := n2_; clear n0_ n1_ n2_; (try clear hb); (try clear hb2); (try clear hk); (try clear hi)))
    repeat (go_quiet (first | (go_at_call 76; (with_reducible refine (hamt_hashBits_next.calls k g s0_0 s0_1 a1 t109 t110 w0 _ ?side1 ?side2 A7.out).mono ?_); (case side1 => repeat (first | (with_reducible first | exact HI0.out | apply IsS87.alloc | apply IsS87.drewN | apply IsS87.drew | apply IsS87.set_1) | exact HI0.out)); (case side2 => repeat (first | (with_reducible first | exact HB.out | apply below_alloc | apply pw_below_drewN | apply below_drew1 | refine below_set ?_ (IsS87.ge HI0.out)) | exact HB.out)); rintro e w9 ⟨rfl, hi, hb, hk⟩; have n0_ := Aside0.mk (KeepBut.trans (by repeat (first | (with_reducible first | exact HK.out | apply KeepBut.set_ | apply keep_drewN | apply keep_drew | apply keep_alloc) | exact HK.out)) hk (.inl rfl)); have n1_ := Aside0.mk (hb); have n2_ := Aside0.mk (hi); clear HK; clear HB; clear HI0; have HK := n0_; have HB := n1_; have HI0 := n2_; clear n0_ n1_ n2_; (try clear hb); (try clear hb2); (try clear hk); (try clear hi))); try go_wp2_with (first | (go_at_call 76; (with_reducible refine (hamt_hashBits_next.calls k g s0_0 s0_1 a1 t109 t110 w0 _ ?side1 ?side2 A7.out).mono ?_); (case side1 => repeat (first | (with_reducible first | exact HI0.out | apply IsS87.alloc | apply IsS87.drewN | apply IsS87.drew | apply IsS87.set_1) | exact HI0.out)); (case side2 => repeat (first | (with_reducible first | exact HB.out | apply below_alloc | apply pw_below_drewN | apply below_drew1 | refine below_set ?_ (IsS87.ge HI0.out)) | exact HB.out)); rintro e w9 ⟨rfl, hi, hb, hk⟩; have n0_ := Aside0.mk (KeepBut.trans (by repeat (first | (with_reducible first | exact HK.out | apply KeepBut.set_ | apply keep_drewN | apply keep_drew | apply keep_alloc) | exact HK.out)) hk (.inl rfl)); have n1_ := Aside0.mk (hb); have n2_ := Aside0.mk (hi); clear HK; clear HB; clear HI0; have HK := n0_; have HB := n1_; have HI0 := n2_; clear n0_ n1_ n2_; (try clear hb); (try clear hb2); (try clear hk); (try clear hi))))
    go_ret2
    exact ⟨0, .nilIface, by first | rfl | (simp [errV_none, errV_some] <;> rfl) | (simp [*, errV_none, errV_some] <;> rfl), by repeat (first | (with_reducible first | exact HI0.out | apply IsS87.alloc | apply IsS87.drewN | apply IsS87.drew | apply IsS87.set_1) | exact HI0.out), by repeat (first | (with_reducible first | exact HB.out | apply below_alloc | apply pw_below_drewN | apply below_drew1 | refine below_set ?_ (IsS87.ge HI0.out)) | exact HB.out), by repeat (first | (with_reducible first | exact HK.out | apply KeepBut.set_ | apply keep_drewN | apply keep_drew | apply keep_alloc) | exact HK.out)⟩

/-! ### hamt_HashBits: function 39, by hand -/
-- HAND pub-tholos/pub/boxo/ipld/unixfs/hamt.HashBits
-- making: yes
-- rounds: yes
def hamt_HashBits.l0 : Nat → List Int → List Int → Int → List Int → Int → Option (List Int × Option Int)
  | 0, _, _, _, _, _ => none
  | k + 1, l0, l1, con, out, i => if i < (l1.length : Int) then (if 0 ≤ i then ((hamt_hashBits_Next.f k l0 con (rd l1 i)).bind fun b => (if b.2.1.isNone = true then (if out.length < 17592186044416 then (hamt_HashBits.l0 k l0 l1 b.2.2 (out ++ [b.1]) (wrap64 (i + 1))) else none) else some ([], some (b.2.1.getD 0)))) else none) else some (out, none)
def hamt_HashBits.f (k : Nat) (l0 l1 : List Int) : Option (List Int × Option Int) := hamt_HashBits.l0 k l0 l1 0 [] 0
theorem hamt_HashBits.mono_l : ∀ k, (∀ y0 y1 y2 y3 y4, LeO (hamt_HashBits.l0 k y0 y1 y2 y3 y4) (hamt_HashBits.l0 (k + 1) y0 y1 y2 y3 y4))
  | 0 => fun _ _ _ _ _ r h => by simp [hamt_HashBits.l0] at h
  | k + 1 => by
    have ih0 := hamt_HashBits.mono_l k
    intro y0 y1 y2 y3 y4
    unfold hamt_HashBits.l0
    repeat' first
      | (with_reducible exact ih0 _ _ _ _ _)
      | (with_reducible exact hamt_hashBits_Next.mono _ _ _ _)
      | (with_reducible exact LeO.refl _)
      | (with_reducible exact LeO.none _)
      | (with_reducible refine LeO.ite ?_ ?_)
      | (with_reducible refine LeO.bind ?_ (fun _ => ?_))
theorem hamt_HashBits.mono : ∀ a0 a1 k, LeO (hamt_HashBits.f k a0 a1) (hamt_HashBits.f (k + 1) a0 a1) := by
  intro a0 a1 k
  exact hamt_HashBits.mono_l k _ _ _ _ _
theorem hamt_HashBits.infoE : (Try.prog.info? 3).map (fun i => (i.zero, i.size, i.bytes)) = some (some (.int .i64 0), 1, 8) := by kernel_rfl
set_option maxHeartbeats 2000000 in
set_option maxRecDepth 100000 in
theorem hamt_HashBits.calls (k : Nat) (A0 : Option Addr) (c0 : Nat) (l0 : List Int) (A1 : Option Addr) (c1 : Nat) (l1 : List Int) (r1 : List Int) (r2 : Option Int) (w : World) (hr0 : Kd.C (Kd.int .u8) w A0 l0.length l0) (hc0 : l0.length ≤ c0) (hr1 : Kd.C (Kd.int .i64) w A1 l1.length l1) (hc1 : l1.length ≤ c1) (h : hamt_HashBits.f k l0 l1 = some (r1, r2)) :
    Calls Try.prog 39 #[.slice A0 l0.length c0, .slice A1 l1.length c1] w fun e w' => ∃ v0_ : Value, ∃ (eT1_ : TypeId) (eX1_ : Value), e = .returned (.tuple #[v0_, errV r2 eT1_ eX1_]) ∧ Kd.R (Kd.int .i64) 3 w' w.heap.size (fun _ => True) v0_ r1 ∧ Below w.heap.size w w' := by
  have HR0 := Aside0.mk hr0
  have HR1 := Aside0.mk hr1
  clear hr0 hc0 hr1 hc1
  have hu87 := Try.underlying87
  have HB := Aside0.mk (Below.refl w.heap.size w)
  have H' := Aside0.mk (show hamt_HashBits.l0 k l0 l1 0 [] 0 = some (r1, r2) from h)
  clear h
  have HI0 := Aside0.mk (IsS87.new w w A0 c0 l0 0 HB.out HR0.out)
  obtain ⟨g, hg⟩ : ∃ g, g = w.heap.size := ⟨_, rfl⟩
  have HG := Aside0.mk hg
  clear hg
  go_enter Try.func39, Try.ntmps39
  go_wp2
  go_loopg [7, 17] k (fun kq v7 v17 w' => ∃ (out : List Int) (con i : Int), v17 = .int .i64 i ∧ Aside0 (hamt_HashBits.l0 kq l0 l1 con out i = some (r1, r2)) ∧ Aside0 (kq ≤ k) ∧ Aside0 (Kd.R (Kd.int .i64) 3 w' w.heap.size (fun _ => True) v7 out) ∧ Aside0 (IsS87 w w' w.heap.size l0 con) ∧ Aside0 (Below w.heap.size w w'))
  case atStart => exact ⟨[], 0, 0, rfl, H', ⟨Nat.le_refl _⟩, ⟨Kd.R_nil _ _ _ _ _⟩, HI0, ⟨below_alloc HB.out _⟩⟩
  case round =>
    clear H' HI0
    obtain ⟨out, con, i, rfl, HA, HK1, HO, HI, HBr⟩ := hrel
    clear HB
    cases gk with
    | zero => exact absurd HA.out (by simp [hamt_HashBits.l0])
    | succ k1 =>
      have H := HA.out
      clear HA
      simp only [hamt_HashBits.l0] at H
      by_cases c3 : i < (l1.length : Int)
      · rw [if_pos c3] at H
        have c3b0 : decide (i < (l1.length : Int)) = true := decide_eq_true c3
        by_cases c4 : 0 ≤ i
        · rw [if_pos c4] at H
          have c4b0 : decide (0 ≤ i) = true := decide_eq_true c4
          obtain ⟨ad1, e1, hx1⟩ := Kd.at_int HR1.out i c4 c3
          cases e1
          replace hx1 := (HBr.out.cell (World.block_lt_of_cell? w _ hx1)).trans hx1
          replace c3 := eq_true c3
          replace c4 := eq_true c4
          replace H := Option.bind_eq_some_iff.mp H
          obtain ⟨⟨t1, t2, t3⟩, A0', H⟩ := H
          have A1' := Aside0.mk A0'
          clear A0'
          rcases t2 with _ | q
          · have H1 : (if out.length < 17592186044416 then (hamt_HashBits.l0 k1 l0 l1 t3 (out ++ [t1]) (wrap64 (i + 1))) else none) = some (r1, r2) := H
            clear H
            by_cases c5 : out.length < 17592186044416
            · rw [if_pos c5] at H1
              have LM := Aside0.mk c5
              clear c5
              have H' := Aside0.mk H1
              clear H1
              go_wp2_with (first | (go_at_call 64; refine (hamt_hashBits_Next.calls k1 w.heap.size l0 con (rd l1 i) t1 none t3 w _ HI.out HBr.out A1'.out).mono ?_; rintro e w5 ⟨eT, eX, rfl, hi, hb, hk⟩; simp only [errV_none]; have HO2 := Aside0.mk (Kd.R_keep (IsS87.apart HI.out HO.out (by decide)) hk (fun _ h => h.2)); have HI2 := Aside0.mk hi; have HB2 := Aside0.mk hb; clear hi hb hk HO HI HBr) | (at_builtin; refine Kd.R_append (Kd.int .i64) (w0 := w) w.heap.size rfl (.tmp 30) (.tmp 32) 24 3 (.int .i64 0) 8 rfl Try.underlying24 hamt_HashBits.infoE rfl (by decide) (by omega) u7 out t1 [.int .i64 t1] (fun k_ => True ∧ k_ ≠ w.heap.size) (fun _ => False) rfl rfl ?aP (fun _ hk => hk.elim) ?aF ?aO ?aB ?aS ?aL ?_; (case aP => exact rfl); (case aF => exact fun k_ hk => ⟨trivial, fun e => by have := IsS87.lt HI2.out; first | omega | (simp at hk; omega)⟩); (case aO => exact HO2.out); (case aB => exact HB2.out); (case aS => exact below_size HB2.out); (case aL => have := LM.out; omega); intro v1 w6 ho hb hg hat; have HI3 := Aside0.mk (IsS87.grown HI2.out hg (IsS87.own_ne HI2.out HO2.out (by decide))); have HO3 := Aside0.mk (Kd.R_mono ho (fun _ _ => trivial)); have HB3 := Aside0.mk hb; clear ho hb hg hat HI2 HO2 HB2))
              go_wp2
              go_roundg k1
              case measure => have := HK1.out; omega
              case rel => exact ⟨out ++ [t1], t3, wrap64 (i + 1), rfl, H', ⟨by have := HK1.out; omega⟩, HO3, HI3, HB3⟩
            · rw [if_neg c5] at H1
              exact absurd H1 (by simp)
          · have H1 : (some (([] : List Int), some q)) = some (r1, r2) := H
            clear H
            simp only [Option.some.injEq, Prod.mk.injEq] at H1
            obtain ⟨rfl, rfl⟩ := H1
            go_wp2_with (go_at_call 64; refine (hamt_hashBits_Next.calls k1 w.heap.size l0 con (rd l1 i) t1 (some q) t3 w _ HI.out HBr.out A1'.out).mono ?_; rintro e w5 ⟨eT, eX, rfl, hi, hb, hk⟩; simp only [errV_some]; have HB2 := Aside0.mk hb; clear hi hb hk HO HI HBr)
            go_ret2
            exact ⟨_, _, _, rfl, Kd.R_nil _ _ _ _ _, HB2.out⟩
        · rw [if_neg c4] at H
          exact absurd H (by simp)
      · rw [if_neg c3] at H
        have c3b0 : decide (i < (l1.length : Int)) = false := decide_eq_false c3
        simp only [Option.some.injEq, Prod.mk.injEq] at H
        obtain ⟨rfl, rfl⟩ := H
        clear c3
        go_wp2
        go_ret2
        exact ⟨_, 0, .nilIface, rfl, HO.out, HBr.out⟩


/-! ### slices_Clone_int_int: function 40, by hand -/
-- HAND slices.Clone[[]int,int]
-- making: yes
/-- A copy of a slice, nil or not. -/
def slices_Clone_int_int.f (l0 : List Int) : Option (List Int) := if l0.length * 8 ≤ 140737488351232 then some l0 else none
theorem slices_Clone_int_int.infoE : (Try.prog.info? 3).map (fun i => (i.zero, i.size, i.bytes)) = some (some (.int .i64 0), 1, 8) := by kernel_rfl
set_option maxHeartbeats 2000000 in
set_option maxRecDepth 100000 in
theorem slices_Clone_int_int.calls (A0 : Option Addr) (c0 : Nat) (l0 : List Int) (r : List Int) (w : World) (hr0 : Kd.C (Kd.int .i64) w A0 l0.length l0) (hc0 : l0.length ≤ c0) (h : slices_Clone_int_int.f l0 = some r) :
    Calls Try.prog 40 #[.slice A0 l0.length c0] w fun e w' => ∃ v0_ : Value, e = .returned (v0_) ∧ Kd.R (Kd.int .i64) 3 w' w.heap.size (fun _ => True) v0_ r ∧ Below w.heap.size w w' := by
  unfold slices_Clone_int_int.f at h
  by_cases hl : l0.length * 8 ≤ 140737488351232
  case neg => rw [if_neg hl] at h; exact absurd h (by simp)
  rw [if_pos hl] at h
  obtain rfl := Option.some.inj h
  clear h
  have qs : ∀ (w : World) (a : Option Addr) (n c n' c' : Nat), (binOp .eql 24 (.slice a n c) (.slice none n' c')).run Try.prog w = .ok (.bool a.isNone) w := fun w a n c n' c' => Lib.run_eql_slice_nil w _ _ a n c n' c' Try.underlying24
  have HB := Aside0.mk (Below.refl w.heap.size w)
  have HR0 := Aside0.mk hr0
  have HL := Aside0.mk hl
  clear hr0 hl hc0
  cases A0 with
  | none =>
    have e0 : l0 = [] := by
      have h1 := HR0.out
      rcases Nat.eq_zero_or_pos l0.length with h0 | h0
      · exact List.eq_nil_of_length_eq_zero h0
      · obtain ⟨ad, e, _⟩ := h1.2.2 h0
        exact absurd e (by simp)
    subst e0
    clear HR0 HL
    go_enter Try.func40, Try.ntmps40
    go_wp2
    go_ret
    exact ⟨_, rfl, Kd.R_nil _ _ _ _ _, HB.out⟩
  | some a =>
    have e5 : 0 ≤ 5 := by decide
    obtain ⟨i0, hi, hz0, hz1, hz2⟩ := info_parts slices_Clone_int_int.infoE
    have z5 : ∀ w, Sem.run Try.prog (Go.sizeOf 3) w = .ok 1 w := fun w => by simp [Go.sizeOf, typeInfo, hi, hz1]
    clear e5 hi hz0 hz1 hz2
    go_enter Try.func40, Try.ntmps40
    go_wp2_with (at_builtin; refine Kd.R_append_rows (Kd.int .i64) (Rr := fun x cs => cs = [Value.int .i64 x]) (w0 := w) w.heap.size rfl (.tmp 5) (.tmp 6) 24 3 (.int .i64 0) 8 rfl Try.underlying24 slices_Clone_int_int.infoE rfl (by decide) (by decide) _ [] l0 (some a) l0.length c0 (fun _ => True) (fun _ => False) rfl rfl ?aO ?aR ?aM (fun _ hk => hk.elim) (fun _ _ => trivial) ?aB ?aS ?aL ?_)
    case aO => exact Kd.R_of_own (xs := ([] : List Int)) (World.ownsRow_made w #[] 0 (Nat.le_refl _) (Nat.zero_le _) rfl) (fun _ _ => trivial)
    case aR => exact Kd.C_alloc HR0.out _
    case aM => exact fun x cs hx => hx
    case aB => exact below_alloc HB.out _
    case aS => exact below_size (below_alloc HB.out _)
    case aL => have := HL.out; simp only [List.length_nil]; omega
    intro v1 w1 hR hb hg hat
    have HR1 := Aside0.mk hR
    have HB1 := Aside0.mk hb
    clear hR hb hg hat
    go_wp2
    go_ret
    exact ⟨_, rfl, HR1.out, HB1.out⟩


/-! ### impl_HashBits: function 10 -/
def impl_HashBits.f (k : Nat) (l0 : List Int) (l1 : List Int) : Option (List Int × Bool) := (bytes_Clone.f l0).bind fun t111 => ((slices_Clone_int_int.f l1).bind fun t114 => ((hamt_HashBits.f k t111 t114).bind fun bt117 => (if bt117.2.isNone = true then (some (bt117.1, true)) else (some (bt117.1, false)))))
theorem impl_HashBits.mono : ∀ a0 a1 k, LeO (impl_HashBits.f k a0 a1) (impl_HashBits.f (k + 1) a0 a1) := by
  intro a0 a1 k
  unfold impl_HashBits.f
  repeat' first
      | (with_reducible exact hamt_HashBits.mono _ _ _)
      | (with_reducible exact LeO.refl _)
      | (with_reducible exact LeO.none _)
      | (with_reducible refine LeO.ite ?_ ?_)
      | (with_reducible refine LeO.bind ?_ (fun _ => ?_))
      | exact hamt_HashBits.mono _ _ _
      | exact LeO.none _
      | refine LeO.ite ?_ ?_
      | refine LeO.bind ?_ (fun _ => ?_)
set_option maxHeartbeats 8000000 in
set_option maxRecDepth 100000 in
theorem impl_HashBits.calls (k : Nat) (A0 : Option Addr) (c0 : Nat) (l0 : List Int) (A1 : Option Addr) (c1 : Nat) (l1 : List Int) (r1 : List Int) (r2 : Bool) (w : World) (hr0 : Kd.C (Kd.int .u8) w A0 l0.length l0) (hc0 : l0.length ≤ c0) (hr1 : Kd.C (Kd.int .i64) w A1 l1.length l1) (hc1 : l1.length ≤ c1) (h : impl_HashBits.f k l0 l1 = some (r1, r2)) :
    Calls Try.prog 10 #[.slice A0 l0.length c0, .slice A1 l1.length c1] w fun e w' => ∃ v0_ : Value, e = .returned (.tuple #[v0_, .bool r2]) ∧ Kd.R (Kd.int .i64) 3 w' w.heap.size (fun _ => True) v0_ r1 ∧ Below w.heap.size w w' := by
  have hu54 := Try.underlying54
  have HR0 := Aside0.mk hr0
  have HC0 := Aside0.mk hc0
  clear hr0 hc0
  have HR1 := Aside0.mk hr1
  have HC1 := Aside0.mk hc1
  clear hr1 hc1
  have HB := Aside0.mk (Below.refl w.heap.size w)
  have H : ((bytes_Clone.f l0).bind fun t111 => ((slices_Clone_int_int.f l1).bind fun t114 => ((hamt_HashBits.f k t111 t114).bind fun bt117 => (if bt117.2.isNone = true then (some (bt117.1, true)) else (some (bt117.1, false)))))) = some (r1, r2) := h
  clear h
  replace H := Option.bind_eq_some_iff.mp H
  obtain ⟨t111, A30, H⟩ := H
  replace H : ((slices_Clone_int_int.f l1).bind fun t114 => ((hamt_HashBits.f k t111 t114).bind fun bt117 => (if bt117.2.isNone = true then (some (bt117.1, true)) else (some (bt117.1, false))))) = some (r1, r2) := H
  have A3 := Aside0.mk A30
  clear A30
  replace H := Option.bind_eq_some_iff.mp H
  obtain ⟨t114, A40, H⟩ := H
  replace H : ((hamt_HashBits.f k t111 t114).bind fun bt117 => (if bt117.2.isNone = true then (some (bt117.1, true)) else (some (bt117.1, false)))) = some (r1, r2) := H
  have A4 := Aside0.mk A40
  clear A40
  replace H := Option.bind_eq_some_iff.mp H
  obtain ⟨⟨t117, t118⟩, A50, H⟩ := H
  replace H : (if t118.isNone = true then (some (t117, true)) else (some (t117, false))) = some (r1, r2) := H
  have A5 := Aside0.mk A50
  clear A50
  rcases t118 with _ | q121
  · have H1 : (some (t117, true)) = some (r1, r2) := by rw [if_pos (show (none : Option Int).isNone = true by rfl)] at H; exact H
    clear H
    have H := H1
    clear H1
    try simp only [errV_none, errV_some]
    simp only [Option.some.injEq, Prod.mk.injEq] at H
    obtain ⟨rfl, rfl⟩ := H
    go_enter Try.func10, Try.ntmps10
    go_wp2_with (first | (go_at_call 20; (with_reducible refine (bytes_Clone.calls _ _ l0 t111 _ ?side1 ?side2 A3.out).mono ?_); (case side1 => repeat (first | exact HR0.out | (with_reducible refine Kd.C_alloc ?_ _) | (with_reducible refine Kd.C_drewN ?_ _) | (with_reducible refine Kd.C_drew ?_))); (case side2 => exact HC0.out); rintro e w6 ⟨v112, rfl, ho0, hb⟩; have n0_ := Aside0.mk (Kd.R_lower ho0 (below_size (by repeat (first | (with_reducible first | exact HB.out | apply below_alloc | apply pw_below_drewN | apply below_drew1) | exact HB.out)))); have n1_ := Aside0.mk (below_step (by repeat (first | (with_reducible first | exact HB.out | apply below_alloc | apply pw_below_drewN | apply below_drew1) | exact HB.out)) hb); clear HB; have HO113 := n0_; have HB := n1_; clear n0_ n1_; (try clear hb); (try clear hb2); (try clear hk); (try clear hi); (try clear ho0)) | (go_at_call 40; (with_reducible refine (slices_Clone_int_int.calls _ _ l1 t114 _ ?side1 ?side2 A4.out).mono ?_); (case side1 => repeat (first | exact (Kd.C_below HR1.out HB.out) | (with_reducible refine Kd.C_alloc ?_ _) | (with_reducible refine Kd.C_drewN ?_ _) | (with_reducible refine Kd.C_drew ?_))); (case side2 => exact HC1.out); rintro e w7 ⟨v115, rfl, ho0, hb⟩; have n0_ := Aside0.mk (Kd.R_below (by (with_reducible repeat (first | apply Kd.R_alloc | apply Kd.R_drewN | apply Kd.R_drew)); exact HO113.out) hb); have n1_ := Aside0.mk (Kd.R_lower ho0 (below_size (by repeat (first | (with_reducible first | exact HB.out | apply below_alloc | apply pw_below_drewN | apply below_drew1) | exact HB.out)))); have n2_ := Aside0.mk (below_step (by repeat (first | (with_reducible first | exact HB.out | apply below_alloc | apply pw_below_drewN | apply below_drew1) | exact HB.out)) hb); clear HO113; clear HB; have HO113 := n0_; have HO116 := n1_; have HB := n2_; clear n0_ n1_ n2_; (try clear hb); (try clear hb2); (try clear hk); (try clear hi); (try clear ho0); obtain ⟨Ao8, co8, eo8⟩ := Kd.R_slice HO113.out; subst eo8; obtain ⟨Ao9, co9, eo9⟩ := Kd.R_slice HO116.out; subst eo9) | (go_at_call 39; (with_reducible refine (hamt_HashBits.calls k _ _ t111 _ _ t114 t117 none _ ?side1 ?side2 ?side3 ?side4 A5.out).mono ?_); (case side1 => repeat (first | exact (Kd.R_reads' HO113.out).2.2 | (with_reducible refine Kd.C_alloc ?_ _) | (with_reducible refine Kd.C_drewN ?_ _) | (with_reducible refine Kd.C_drew ?_))); (case side2 => exact (Kd.R_reads' HO113.out).2.1); (case side3 => repeat (first | exact (Kd.R_reads' HO116.out).2.2 | (with_reducible refine Kd.C_alloc ?_ _) | (with_reducible refine Kd.C_drewN ?_ _) | (with_reducible refine Kd.C_drew ?_))); (case side4 => exact (Kd.R_reads' HO116.out).2.1); rintro e w10 ⟨v119, eT_t118, eX_t118, rfl, ho0, hb⟩; have n0_ := Aside0.mk (Kd.R_below (by (with_reducible repeat (first | apply Kd.R_alloc | apply Kd.R_drewN | apply Kd.R_drew)); exact HO113.out) hb); have n1_ := Aside0.mk (Kd.R_elder' (by (with_reducible repeat (first | apply Kd.R_alloc | apply Kd.R_drewN | apply Kd.R_drew)); exact HO116.out) (Kd.R_base ho0) hb); have n2_ := Aside0.mk (Kd.R_lower (Kd.R_new' ho0 (Kd.R_lt (by (with_reducible repeat (first | apply Kd.R_alloc | apply Kd.R_drewN | apply Kd.R_drew)); exact HO116.out))) (below_size (by repeat (first | (with_reducible first | exact HB.out | apply below_alloc | apply pw_below_drewN | apply below_drew1) | exact HB.out)))); have n3_ := Aside0.mk (below_step (by repeat (first | (with_reducible first | exact HB.out | apply below_alloc | apply pw_below_drewN | apply below_drew1) | exact HB.out)) hb); clear HO113; clear HO116; clear HB; have HO113 := n0_; have HO116 := n1_; have HO120 := n2_; have HB := n3_; clear n0_ n1_ n2_ n3_; (try clear hb); (try clear hb2); (try clear hk); (try clear hi); (try clear ho0); (try simp only [errV_none, errV_some])))
    repeat (go_quiet (first | (go_at_call 20; (with_reducible refine (bytes_Clone.calls _ _ l0 t111 _ ?side1 ?side2 A3.out).mono ?_); (case side1 => repeat (first | exact HR0.out | (with_reducible refine Kd.C_alloc ?_ _) | (with_reducible refine Kd.C_drewN ?_ _) | (with_reducible refine Kd.C_drew ?_))); (case side2 => exact HC0.out); rintro e w6 ⟨v112, rfl, ho0, hb⟩; have n0_ := Aside0.mk (Kd.R_lower ho0 (below_size (by repeat (first | (with_reducible first | exact HB.out | apply below_alloc | apply pw_below_drewN | apply below_drew1) | exact HB.out)))); have n1_ := Aside0.mk (below_step (by repeat (first | (with_reducible first | exact HB.out | apply below_alloc | apply pw_below_drewN | apply below_drew1) | exact HB.out)) hb); clear HB; have HO113 := n0_; have HB := n1_; clear n0_ n1_; (try clear hb); (try clear hb2); (try clear hk); (try clear hi); (try clear ho0)) | (go_at_call 40; (with_reducible refine (slices_Clone_int_int.calls _ _ l1 t114 _ ?side1 ?side2 A4.out).mono ?_); (case side1 => repeat (first | exact (Kd.C_below HR1.out HB.out) | (with_reducible refine Kd.C_alloc ?_ _) | (with_reducible refine Kd.C_drewN ?_ _) | (with_reducible refine Kd.C_drew ?_))); (case side2 => exact HC1.out); rintro e w7 ⟨v115, rfl, ho0, hb⟩; have n0_ := Aside0.mk (Kd.R_below (by (with_reducible repeat (first | apply Kd.R_alloc | apply Kd.R_drewN | apply Kd.R_drew)); exact HO113.out) hb); have n1_ := Aside0.mk (Kd.R_lower ho0 (below_size (by repeat (first | (with_reducible first | exact HB.out | apply below_alloc | apply pw_below_drewN | apply below_drew1) | exact HB.out)))); have n2_ := Aside0.mk (below_step (by repeat (first | (with_reducible first | exact HB.out | apply below_alloc | apply pw_below_drewN | apply below_drew1) | exact HB.out)) hb); clear HO113; clear HB; have HO113 := n0_; have HO116 := n1_; have HB := n2_; clear n0_ n1_ n2_; (try clear hb); (try clear hb2); (try clear hk); (try clear hi); (try clear ho0); obtain ⟨Ao8, co8, eo8⟩ := Kd.R_slice HO113.out; subst eo8; obtain ⟨Ao9, co9, eo9⟩ := Kd.R_slice HO116.out; subst eo9) | (go_at_call 39; (with_reducible refine (hamt_HashBits.calls k _ _ t111 _ _ t114 t117 none _ ?side1 ?side2 ?side3 ?side4 A5.out).mono ?_); (case side1 => repeat (first | exact (Kd.R_reads' HO113.out).2.2 | (with_reducible refine Kd.C_alloc ?_ _) | (with_reducible refine Kd.C_drewN ?_ _) | (with_reducible refine Kd.C_drew ?_))); (case side2 => exact (Kd.R_reads' HO113.out).2.1); (case side3 => repeat (first | exact (Kd.R_reads' HO116.out).2.2 | (with_reducible refine Kd.C_alloc ?_ _) | (with_reducible refine Kd.C_drewN ?_ _) | (with_reducible refine Kd.C_drew ?_))); (case side4 => exact (Kd.R_reads' HO116.out).2.1); rintro e w10 ⟨v119, eT_t118, eX_t118, rfl, ho0, hb⟩; have n0_ := Aside0.mk (Kd.R_below (by (with_reducible repeat (first | apply Kd.R_alloc | apply Kd.R_drewN | apply Kd.R_drew)); exact HO113.out) hb); have n1_ := Aside0.mk (Kd.R_elder' (by (with_reducible repeat (first | apply Kd.R_alloc | apply Kd.R_drewN | apply Kd.R_drew)); exact HO116.out) (Kd.R_base ho0) hb); have n2_ := Aside0.mk (Kd.R_lower (Kd.R_new' ho0 (Kd.R_lt (by (with_reducible repeat (first | apply Kd.R_alloc | apply Kd.R_drewN | apply Kd.R_drew)); exact HO116.out))) (below_size (by repeat (first | (with_reducible first | exact HB.out | apply below_alloc | apply pw_below_drewN | apply below_drew1) | exact HB.out)))); have n3_ := Aside0.mk (below_step (by repeat (first | (with_reducible first | exact HB.out | apply below_alloc | apply pw_below_drewN | apply below_drew1) | exact HB.out)) hb); clear HO113; clear HO116; clear HB; have HO113 := n0_; have HO116 := n1_; have HO120 := n2_; have HB := n3_; clear n0_ n1_ n2_ n3_; (try clear hb); (try clear hb2); (try clear hk); (try clear hi); (try clear ho0); (try simp only [errV_none, errV_some]))); try go_wp2_with (first | (go_at_call 20; (with_reducible refine (bytes_Clone.calls _ _ l0 t111 _ ?side1 ?side2 A3.out).mono ?_); (case side1 => repeat (first | exact HR0.out | (with_reducible refine Kd.C_alloc ?_ _) | (with_reducible refine Kd.C_drewN ?_ _) | (with_reducible refine Kd.C_drew ?_))); (case side2 => exact HC0.out); rintro e w6 ⟨v112, rfl, ho0, hb⟩; have n0_ := Aside0.mk (Kd.R_lower ho0 (below_size (by repeat (first | (with_reducible first | exact HB.out | apply below_alloc | apply pw_below_drewN | apply below_drew1) | exact HB.out)))); have n1_ := Aside0.mk (below_step (by repeat (first | (with_reducible first | exact HB.out | apply below_alloc | apply pw_below_drewN | apply below_drew1) | exact HB.out)) hb); clear HB; have HO113 := n0_; have HB := n1_; clear n0_ n1_; (try clear hb); (try clear hb2); (try clear hk); (try clear hi); (try clear ho0)) | (go_at_call 40; (with_reducible refine (slices_Clone_int_int.calls _ _ l1 t114 _ ?side1 ?side2 A4.out).mono ?_); (case side1 => repeat (first | exact (Kd.C_below HR1.out HB.out) | (with_reducible refine Kd.C_alloc ?_ _) | (with_reducible refine Kd.C_drewN ?_ _) | (with_reducible refine Kd.C_drew ?_))); (case side2 => exact HC1.out); rintro e w7 ⟨v115, rfl, ho0, hb⟩; have n0_ := Aside0.mk (Kd.R_below (by (with_reducible repeat (first | apply Kd.R_alloc | apply Kd.R_drewN | apply Kd.R_drew)); exact HO113.out) hb); have n1_ := Aside0.mk (Kd.R_lower ho0 (below_size (by repeat (first | (with_reducible first | exact HB.out | apply below_alloc | apply pw_below_drewN | apply below_drew1) | exact HB.out)))); have n2_ := Aside0.mk (below_step (by repeat (first | (with_reducible first | exact HB.out | apply below_alloc | apply pw_below_drewN | apply below_drew1) | exact HB.out)) hb); clear HO113; clear HB; have HO113 := n0_; have HO116 := n1_; have HB := n2_; clear n0_ n1_ n2_; (try clear hb); (try clear hb2); (try clear hk); (try clear hi); (try clear ho0); obtain ⟨Ao8, co8, eo8⟩ := Kd.R_slice HO113.out; subst eo8; obtain ⟨Ao9, co9, eo9⟩ := Kd.R_slice HO116.out; subst eo9) | (go_at_call 39; (with_reducible refine (hamt_HashBits.calls k _ _ t111 _ _ t114 t117 none _ ?side1 ?side2 ?side3 ?side4 A5.out).mono ?_); (case side1 => repeat (first | exact (Kd.R_reads' HO113.out).2.2 | (with_reducible refine Kd.C_alloc ?_ _) | (with_reducible refine Kd.C_drewN ?_ _) | (with_reducible refine Kd.C_drew ?_))); (case side2 => exact (Kd.R_reads' HO113.out).2.1); (case side3 => repeat (first | exact (Kd.R_reads' HO116.out).2.2 | (with_reducible refine Kd.C_alloc ?_ _) | (with_reducible refine Kd.C_drewN ?_ _) | (with_reducible refine Kd.C_drew ?_))); (case side4 => exact (Kd.R_reads' HO116.out).2.1); rintro e w10 ⟨v119, eT_t118, eX_t118, rfl, ho0, hb⟩; have n0_ := Aside0.mk (Kd.R_below (by (with_reducible repeat (first | apply Kd.R_alloc | apply Kd.R_drewN | apply Kd.R_drew)); exact HO113.out) hb); have n1_ := Aside0.mk (Kd.R_elder' (by (with_reducible repeat (first | apply Kd.R_alloc | apply Kd.R_drewN | apply Kd.R_drew)); exact HO116.out) (Kd.R_base ho0) hb); have n2_ := Aside0.mk (Kd.R_lower (Kd.R_new' ho0 (Kd.R_lt (by (with_reducible repeat (first | apply Kd.R_alloc | apply Kd.R_drewN | apply Kd.R_drew)); exact HO116.out))) (below_size (by repeat (first | (with_reducible first | exact HB.out | apply below_alloc | apply pw_below_drewN | apply below_drew1) | exact HB.out)))); have n3_ := Aside0.mk (below_step (by repeat (first | (with_reducible first | exact HB.out | apply below_alloc | apply pw_below_drewN | apply below_drew1) | exact HB.out)) hb); clear HO113; clear HO116; clear HB; have HO113 := n0_; have HO116 := n1_; have HO120 := n2_; have HB := n3_; clear n0_ n1_ n2_ n3_; (try clear hb); (try clear hb2); (try clear hk); (try clear hi); (try clear ho0); (try simp only [errV_none, errV_some]))))
    go_ret2
    exact ⟨_, by first | rfl | (simp [errV_none, errV_some] <;> rfl) | (simp [*, errV_none, errV_some] <;> rfl), by (with_reducible repeat (first | apply Kd.R_alloc | apply Kd.R_drewN | apply Kd.R_drew)); exact Kd.R_mono HO120.out (fun _ hk => trivial), by repeat (first | (with_reducible first | exact HB.out | apply below_alloc | apply pw_below_drewN | apply below_drew1) | exact HB.out)⟩
  · have H1 : (some (t117, false)) = some (r1, r2) := by rw [if_neg (show ¬ (some q121).isNone = true by simp)] at H; exact H
    clear H
    have H := H1
    clear H1
    try simp only [errV_none, errV_some]
    simp only [Option.some.injEq, Prod.mk.injEq] at H
    obtain ⟨rfl, rfl⟩ := H
    go_enter Try.func10, Try.ntmps10
    go_wp2_with (first | (go_at_call 20; (with_reducible refine (bytes_Clone.calls _ _ l0 t111 _ ?side1 ?side2 A3.out).mono ?_); (case side1 => repeat (first | exact HR0.out | (with_reducible refine Kd.C_alloc ?_ _) | (with_reducible refine Kd.C_drewN ?_ _) | (with_reducible refine Kd.C_drew ?_))); (case side2 => exact HC0.out); rintro e w11 ⟨v112, rfl, ho0, hb⟩; have n0_ := Aside0.mk (Kd.R_lower ho0 (below_size (by repeat (first | (with_reducible first | exact HB.out | apply below_alloc | apply pw_below_drewN | apply below_drew1) | exact HB.out)))); have n1_ := Aside0.mk (below_step (by repeat (first | (with_reducible first | exact HB.out | apply below_alloc | apply pw_below_drewN | apply below_drew1) | exact HB.out)) hb); clear HB; have HO113 := n0_; have HB := n1_; clear n0_ n1_; (try clear hb); (try clear hb2); (try clear hk); (try clear hi); (try clear ho0)) | (go_at_call 40; (with_reducible refine (slices_Clone_int_int.calls _ _ l1 t114 _ ?side1 ?side2 A4.out).mono ?_); (case side1 => repeat (first | exact (Kd.C_below HR1.out HB.out) | (with_reducible refine Kd.C_alloc ?_ _) | (with_reducible refine Kd.C_drewN ?_ _) | (with_reducible refine Kd.C_drew ?_))); (case side2 => exact HC1.out); rintro e w12 ⟨v115, rfl, ho0, hb⟩; have n0_ := Aside0.mk (Kd.R_below (by (with_reducible repeat (first | apply Kd.R_alloc | apply Kd.R_drewN | apply Kd.R_drew)); exact HO113.out) hb); have n1_ := Aside0.mk (Kd.R_lower ho0 (below_size (by repeat (first | (with_reducible first | exact HB.out | apply below_alloc | apply pw_below_drewN | apply below_drew1) | exact HB.out)))); have n2_ := Aside0.mk (below_step (by repeat (first | (with_reducible first | exact HB.out | apply below_alloc | apply pw_below_drewN | apply below_drew1) | exact HB.out)) hb); clear HO113; clear HB; have HO113 := n0_; have HO116 := n1_; have HB := n2_; clear n0_ n1_ n2_; (try clear hb); (try clear hb2); (try clear hk); (try clear hi); (try clear ho0); obtain ⟨Ao13, co13, eo13⟩ := Kd.R_slice HO113.out; subst eo13; obtain ⟨Ao14, co14, eo14⟩ := Kd.R_slice HO116.out; subst eo14) | (go_at_call 39; (with_reducible refine (hamt_HashBits.calls k _ _ t111 _ _ t114 t117 (some q121) _ ?side1 ?side2 ?side3 ?side4 A5.out).mono ?_); (case side1 => repeat (first | exact (Kd.R_reads' HO113.out).2.2 | (with_reducible refine Kd.C_alloc ?_ _) | (with_reducible refine Kd.C_drewN ?_ _) | (with_reducible refine Kd.C_drew ?_))); (case side2 => exact (Kd.R_reads' HO113.out).2.1); (case side3 => repeat (first | exact (Kd.R_reads' HO116.out).2.2 | (with_reducible refine Kd.C_alloc ?_ _) | (with_reducible refine Kd.C_drewN ?_ _) | (with_reducible refine Kd.C_drew ?_))); (case side4 => exact (Kd.R_reads' HO116.out).2.1); rintro e w15 ⟨v119, eT_t118, eX_t118, rfl, ho0, hb⟩; have n0_ := Aside0.mk (Kd.R_below (by (with_reducible repeat (first | apply Kd.R_alloc | apply Kd.R_drewN | apply Kd.R_drew)); exact HO113.out) hb); have n1_ := Aside0.mk (Kd.R_elder' (by (with_reducible repeat (first | apply Kd.R_alloc | apply Kd.R_drewN | apply Kd.R_drew)); exact HO116.out) (Kd.R_base ho0) hb); have n2_ := Aside0.mk (Kd.R_lower (Kd.R_new' ho0 (Kd.R_lt (by (with_reducible repeat (first | apply Kd.R_alloc | apply Kd.R_drewN | apply Kd.R_drew)); exact HO116.out))) (below_size (by repeat (first | (with_reducible first | exact HB.out | apply below_alloc | apply pw_below_drewN | apply below_drew1) | exact HB.out)))); have n3_ := Aside0.mk (below_step (by repeat (first | (with_reducible first | exact HB.out | apply below_alloc | apply pw_below_drewN | apply below_drew1) | exact HB.out)) hb); clear HO113; clear HO116; clear HB; have HO113 := n0_; have HO116 := n1_; have HO120 := n2_; have HB := n3_; clear n0_ n1_ n2_ n3_; (try clear hb); (try clear hb2); (try clear hk); (try clear hi); (try clear ho0); (try simp only [errV_none, errV_some])))
    repeat (go_quiet (first | (go_at_call 20; (with_reducible refine (bytes_Clone.calls _ _ l0 t111 _ ?side1 ?side2 A3.out).mono ?_); (case side1 => repeat (first | exact HR0.out | (with_reducible refine Kd.C_alloc ?_ _) | (with_reducible refine Kd.C_drewN ?_ _) | (with_reducible refine Kd.C_drew ?_))); (case side2 => exact HC0.out); rintro e w11 ⟨v112, rfl, ho0, hb⟩; have n0_ := Aside0.mk (Kd.R_lower ho0 (below_size (by repeat (first | (with_reducible first | exact HB.out | apply below_alloc | apply pw_below_drewN | apply below_drew1) | exact HB.out)))); have n1_ := Aside0.mk (below_step (by repeat (first | (with_reducible first | exact HB.out | apply below_alloc | apply pw_below_drewN | apply below_drew1) | exact HB.out)) hb); clear HB; have HO113 := n0_; have HB := n1_; clear n0_ n1_; (try clear hb); (try clear hb2); (try clear hk); (try clear hi); (try clear ho0)) | (go_at_call 40; (with_reducible refine (slices_Clone_int_int.calls _ _ l1 t114 _ ?side1 ?side2 A4.out).mono ?_); (case side1 => repeat (first | exact (Kd.C_below HR1.out HB.out) | (with_reducible refine Kd.C_alloc ?_ _) | (with_reducible refine Kd.C_drewN ?_ _) | (with_reducible refine Kd.C_drew ?_))); (case side2 => exact HC1.out); rintro e w12 ⟨v115, rfl, ho0, hb⟩; have n0_ := Aside0.mk (Kd.R_below (by (with_reducible repeat (first | apply Kd.R_alloc | apply Kd.R_drewN | apply Kd.R_drew)); exact HO113.out) hb); have n1_ := Aside0.mk (Kd.R_lower ho0 (below_size (by repeat (first | (with_reducible first | exact HB.out | apply below_alloc | apply pw_below_drewN | apply below_drew1) | exact HB.out)))); have n2_ := Aside0.mk (below_step (by repeat (first | (with_reducible first | exact HB.out | apply below_alloc | apply pw_below_drewN | apply below_drew1) | exact HB.out)) hb); clear HO113; clear HB; have HO113 := n0_; have HO116 := n1_; have HB := n2_; clear n0_ n1_ n2_; (try clear hb); (try clear hb2); (try clear hk); (try clear hi); (try clear ho0); obtain ⟨Ao13, co13, eo13⟩ := Kd.R_slice HO113.out; subst eo13; obtain ⟨Ao14, co14, eo14⟩ := Kd.R_slice HO116.out; subst eo14) | (go_at_call 39; (with_reducible refine (hamt_HashBits.calls k _ _ t111 _ _ t114 t117 (some q121) _ ?side1 ?side2 ?side3 ?side4 A5.out).mono ?_); (case side1 => repeat (first | exact (Kd.R_reads' HO113.out).2.2 | (with_reducible refine Kd.C_alloc ?_ _) | (with_reducible refine Kd.C_drewN ?_ _) | (with_reducible refine Kd.C_drew ?_))); (case side2 => exact (Kd.R_reads' HO113.out).2.1); (case side3 => repeat (first | exact (Kd.R_reads' HO116.out).2.2 | (with_reducible refine Kd.C_alloc ?_ _) | (with_reducible refine Kd.C_drewN ?_ _) | (with_reducible refine Kd.C_drew ?_))); (case side4 => exact (Kd.R_reads' HO116.out).2.1); rintro e w15 ⟨v119, eT_t118, eX_t118, rfl, ho0, hb⟩; have n0_ := Aside0.mk (Kd.R_below (by (with_reducible repeat (first | apply Kd.R_alloc | apply Kd.R_drewN | apply Kd.R_drew)); exact HO113.out) hb); have n1_ := Aside0.mk (Kd.R_elder' (by (with_reducible repeat (first | apply Kd.R_alloc | apply Kd.R_drewN | apply Kd.R_drew)); exact HO116.out) (Kd.R_base ho0) hb); have n2_ := Aside0.mk (Kd.R_lower (Kd.R_new' ho0 (Kd.R_lt (by (with_reducible repeat (first | apply Kd.R_alloc | apply Kd.R_drewN | apply Kd.R_drew)); exact HO116.out))) (below_size (by repeat (first | (with_reducible first | exact HB.out | apply below_alloc | apply pw_below_drewN | apply below_drew1) | exact HB.out)))); have n3_ := Aside0.mk (below_step (by repeat (first | (with_reducible first | exact HB.out | apply below_alloc | apply pw_below_drewN | apply below_drew1) | exact HB.out)) hb); clear HO113; clear HO116; clear HB; have HO113 := n0_; have HO116 := n1_; have HO120 := n2_; have HB := n3_; clear n0_ n1_ n2_ n3_; (try clear hb); (try clear hb2); (try clear hk); (try clear hi); (try clear ho0); (try simp only [errV_none, errV_some]))); try go_wp2_with (first | (go_at_call 20; (with_reducible refine (bytes_Clone.calls _ _ l0 t111 _ ?side1 ?side2 A3.out).mono ?_); (case side1 => repeat (first | exact HR0.out | (with_reducible refine Kd.C_alloc ?_ _) | (with_reducible refine Kd.C_drewN ?_ _) | (with_reducible refine Kd.C_drew ?_))); (case side2 => exact HC0.out); rintro e w11 ⟨v112, rfl, ho0, hb⟩; have n0_ := Aside0.mk (Kd.R_lower ho0 (below_size (by repeat (first | (with_reducible first | exact HB.out | apply below_alloc | apply pw_below_drewN | apply below_drew1) | exact HB.out)))); have n1_ := Aside0.mk (below_step (by repeat (first | (with_reducible first | exact HB.out | apply below_alloc | apply pw_below_drewN | apply below_drew1) | exact HB.out)) hb); clear HB; have HO113 := n0_; have HB := n1_; clear n0_ n1_; (try clear hb); (try clear hb2); (try clear hk); (try clear hi); (try clear ho0)) | (go_at_call 40; (with_reducible refine (slices_Clone_int_int.calls _ _ l1 t114 _ ?side1 ?side2 A4.out).mono ?_); (case side1 => repeat (first | exact (Kd.C_below HR1.out HB.out) | (with_reducible refine Kd.C_alloc ?_ _) | (with_reducible refine Kd.C_drewN ?_ _) | (with_reducible refine Kd.C_drew ?_))); (case side2 => exact HC1.out); rintro e w12 ⟨v115, rfl, ho0, hb⟩; have n0_ := Aside0.mk (Kd.R_below (by (with_reducible repeat (first | apply Kd.R_alloc | apply Kd.R_drewN | apply Kd.R_drew)); exact HO113.out) hb); have n1_ := Aside0.mk (Kd.R_lower ho0 (below_size (by repeat (first | (with_reducible first | exact HB.out | apply below_alloc | apply pw_below_drewN | apply below_drew1) | exact HB.out)))); have n2_ := Aside0.mk (below_step (by repeat (first | (with_reducible first | exact HB.out | apply below_alloc | apply pw_below_drewN | apply below_drew1) | exact HB.out)) hb); clear HO113; clear HB; have HO113 := n0_; have HO116 := n1_; have HB := n2_; clear n0_ n1_ n2_; (try clear hb); (try clear hb2); (try clear hk); (try clear hi); (try clear ho0); obtain ⟨Ao13, co13, eo13⟩ := Kd.R_slice HO113.out; subst eo13; obtain ⟨Ao14, co14, eo14⟩ := Kd.R_slice HO116.out; subst eo14) | (go_at_call 39; (with_reducible refine (hamt_HashBits.calls k _ _ t111 _ _ t114 t117 (some q121) _ ?side1 ?side2 ?side3 ?side4 A5.out).mono ?_); (case side1 => repeat (first | exact (Kd.R_reads' HO113.out).2.2 | (with_reducible refine Kd.C_alloc ?_ _) | (with_reducible refine Kd.C_drewN ?_ _) | (with_reducible refine Kd.C_drew ?_))); (case side2 => exact (Kd.R_reads' HO113.out).2.1); (case side3 => repeat (first | exact (Kd.R_reads' HO116.out).2.2 | (with_reducible refine Kd.C_alloc ?_ _) | (with_reducible refine Kd.C_drewN ?_ _) | (with_reducible refine Kd.C_drew ?_))); (case side4 => exact (Kd.R_reads' HO116.out).2.1); rintro e w15 ⟨v119, eT_t118, eX_t118, rfl, ho0, hb⟩; have n0_ := Aside0.mk (Kd.R_below (by (with_reducible repeat (first | apply Kd.R_alloc | apply Kd.R_drewN | apply Kd.R_drew)); exact HO113.out) hb); have n1_ := Aside0.mk (Kd.R_elder' (by (with_reducible repeat (first | apply Kd.R_alloc | apply Kd.R_drewN | apply Kd.R_drew)); exact HO116.out) (Kd.R_base ho0) hb); have n2_ := Aside0.mk (Kd.R_lower (Kd.R_new' ho0 (Kd.R_lt (by (with_reducible repeat (first | apply Kd.R_alloc | apply Kd.R_drewN | apply Kd.R_drew)); exact HO116.out))) (below_size (by repeat (first | (with_reducible first | exact HB.out | apply below_alloc | apply pw_below_drewN | apply below_drew1) | exact HB.out)))); have n3_ := Aside0.mk (below_step (by repeat (first | (with_reducible first | exact HB.out | apply below_alloc | apply pw_below_drewN | apply below_drew1) | exact HB.out)) hb); clear HO113; clear HO116; clear HB; have HO113 := n0_; have HO116 := n1_; have HO120 := n2_; have HB := n3_; clear n0_ n1_ n2_ n3_; (try clear hb); (try clear hb2); (try clear hk); (try clear hi); (try clear ho0); (try simp only [errV_none, errV_some]))))
    go_ret2
    exact ⟨_, by first | rfl | (simp [errV_none, errV_some] <;> rfl) | (simp [*, errV_none, errV_some] <;> rfl), by (with_reducible repeat (first | apply Kd.R_alloc | apply Kd.R_drewN | apply Kd.R_drew)); exact Kd.R_mono HO120.out (fun _ hk => trivial), by repeat (first | (with_reducible first | exact HB.out | apply below_alloc | apply pw_below_drewN | apply below_drew1) | exact HB.out)⟩

end Go.Proofs.Ytbmeegkgcipmoaa.PFnHashBits
