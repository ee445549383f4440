/- Printed by a program of this session (it drives the print of the kit, with contracts proved by hand beside): the Go functions of one law as Lean functions, and that the Go code comes to what they say. -/
import Derived.Test.YtbmeegkgcipmoaaPFnHashBitsx0
import Derived.Test.YtbmeegkgcipmoaaPFnHashBitsx1
namespace Go.Proofs.Ytbmeegkgcipmoaa.PFnHashBits
open Go.RowKit Go.Proofs.YtbmeegkgcipmoaaW.PrintWords Go.Proofs.YtbmeegkgcipmoaaW.PrintLast Go.Proofs.YtbmeegkgcipmoaaW.PrintMore
attribute [local go_sem] max2_int min2_int max_two min_two max_three min_three max_four min_four   -- for this text's walks alone
set_option linter.unusedVariables false
set_option linter.unusedSimpArgs false

/-- A state of type 87 at block g of W; what its slices lead to came in by w0. -/
def IsS87 (w0 W : World) (g : Nat) (f0 : List Int) (f1 : Int) : Prop := ∃ A0 c0, W.heap[g]? = some (.cells #[.slice A0 f0.length c0, .int .i64 f1] 87 (0, 0)) ∧ w0.heap.size ≤ g ∧ Kd.C (Kd.int .u8) w0 A0 f0.length f0
theorem IsS87.grown {w0 W : World} {g : Nat} {f0 : List Int} {f1 : Int} {W1 : World} {row : Option Nat} (h : IsS87 w0 W g f0 f1) (hw : W.grownBy W1 row) (hne : some g ≠ row) : IsS87 w0 W1 g f0 f1 := by
  obtain ⟨A0, c0, hb, hg, hr0⟩ := h
  exact ⟨A0, c0, blk_grown hb hw hne, hg, hr0⟩
theorem IsS87.own_neN {w0 W : World} {g : Nat} {f0 : List Int} {f1 : Int} {α : Type} {d : Kd α} {e : Nat} {base : Nat} {ok : Nat → Prop} {v : Value} {xs : List α} (h : IsS87 w0 W g f0 f1) (ho : Kd.N d e W base ok v xs) (ht : e ≠ 87) : some g ≠ v.ownBlock := by
  obtain ⟨A0, c0, hb, hg, hr0⟩ := h
  exact Kd.N_ne ho hb ht
theorem IsS87.fresh {w0 W : World} {g : Nat} {f0 : List Int} {f1 : Int} (h : IsS87 w0 W g f0 f1) : ∀ k, W.heap.size ≤ k → k ≠ g := by
  obtain ⟨A0, c0, hb, hg, hr0⟩ := h
  exact Kd.freshB hb
theorem IsS87.kept {w0 W : World} {g : Nat} {f0 : List Int} {f1 : Int} {W1 : World} {S : Nat → Prop} (h : IsS87 w0 W g f0 f1) (hk : Kept W W1 S) (hne : ¬ S g) : IsS87 w0 W1 g f0 f1 := by
  obtain ⟨A0, c0, hb, hg, hr0⟩ := h
  exact ⟨A0, c0, blk_kept hb hk hne, hg, hr0⟩
theorem IsS87.below {w0 W : World} {g : Nat} {f0 : List Int} {f1 : Int} {W1 : World} (h : IsS87 w0 W g f0 f1) (hw : Below W.heap.size W W1) : IsS87 w0 W1 g f0 f1 := h.grown (grown_of_below hw none) (by simp)
theorem IsS87.alloc {w0 W : World} {g : Nat} {f0 : List Int} {f1 : Int} (h : IsS87 w0 W g f0 f1) (o : Obj) : IsS87 w0 (W.alloc o) g f0 f1 := h.below (below_alloc (Below.refl _ _) o)
theorem IsS87.drewN {w0 W : World} {g : Nat} {f0 : List Int} {f1 : Int} (h : IsS87 w0 W g f0 f1) (m : Nat) : IsS87 w0 (W.drewN m) g f0 f1 := h
theorem IsS87.drew {w0 W : World} {g : Nat} {f0 : List Int} {f1 : Int} (h : IsS87 w0 W g f0 f1) : IsS87 w0 W.drew g f0 f1 := h
theorem IsS87.at_ {w0 W : World} {g : Nat} {f0 : List Int} {f1 : Int} {w' : World} {m : Nat} (hq : W.drewN m = w') (h : IsS87 w0 W g f0 f1) : IsS87 w0 w' g f0 f1 := by subst hq; exact IsS87.drewN h m
theorem IsS87.apart {w0 W : World} {g : Nat} {f0 : List Int} {f1 : Int} {α : Type} {d : Kd α} {e : Nat} {base : Nat} {ok : Nat → Prop} {v : Value} {xs : List α} (h : IsS87 w0 W g f0 f1) (ho : d.R e W base ok v xs) (ht : ∀ q, q ∈ e :: d.E → q ≠ 87) : d.R e W base (fun k => ok k ∧ k ≠ g) v xs := by
  obtain ⟨A0, c0, hb, hg, hr0⟩ := h
  exact Kd.R_types ho hb ht
theorem IsS87.own_ne {w0 W : World} {g : Nat} {f0 : List Int} {f1 : Int} {α : Type} {d : Kd α} {e : Nat} {base : Nat} {ok : Nat → Prop} {v : Value} {xs : List α} (h : IsS87 w0 W g f0 f1) (ho : d.R e W base ok v xs) (ht : e ≠ 87) : some g ≠ v.ownBlock := by
  obtain ⟨A0, c0, hb, hg, hr0⟩ := h
  exact Kd.R_ne ho hb ht
theorem IsS87.apartQ {w0 W : World} {g : Nat} {f0 : List Int} {f1 : Int} {α : Type} {d : Kd α} {e : Nat} {base : Nat} {ok : Nat → Prop} {v : Value} {xs : List α} (h : IsS87 w0 W g f0 f1) (ho : d.Q e W base ok v xs) (ht : ∀ q, q ∈ e :: d.E → q ≠ 87) : d.Q e W base (fun k => ok k ∧ k ≠ g) v xs := by
  obtain ⟨A0, c0, hb, hg, hr0⟩ := h
  exact Kd.Q_types ho hb ht
theorem IsS87.own_neQ {w0 W : World} {g : Nat} {f0 : List Int} {f1 : Int} {α : Type} {d : Kd α} {e : Nat} {base : Nat} {ok : Nat → Prop} {v : Value} {xs : List α} (h : IsS87 w0 W g f0 f1) (ho : d.Q e W base ok v xs) (ht : e ≠ 87) : some g ≠ v.ownBlock := by
  obtain ⟨A0, c0, hb, hg, hr0⟩ := h
  exact Kd.Q_ne ho hb ht
theorem IsS87.apartS {w0 W : World} {g : Nat} {f0 : List Int} {f1 : Int} {α : Type} {d : Kd α} {e : Nat} {base : Nat} {ok : Nat → Prop} {v : Value} {xs : List α} (h : IsS87 w0 W g f0 f1) (ho : d.S e W base ok v xs) (ht : ∀ q, q ∈ e :: d.E → q ≠ 87) : d.S e W base (fun k => ok k ∧ k ≠ g) v xs := by
  obtain ⟨A0, c0, hb, hg, hr0⟩ := h
  exact Kd.S_types ho hb ht
theorem IsS87.own_neS {w0 W : World} {g : Nat} {f0 : List Int} {f1 : Int} {α : Type} {d : Kd α} {e : Nat} {base : Nat} {ok : Nat → Prop} {v : Value} {xs : List α} (h : IsS87 w0 W g f0 f1) (ho : d.S e W base ok v xs) (ht : e ≠ 87) : some g ≠ v.ownBlock := by
  obtain ⟨A0, c0, hb, hg, hr0⟩ := h
  exact Kd.S_ne ho hb ht
theorem IsS87.lt {w0 W : World} {g : Nat} {f0 : List Int} {f1 : Int} (h : IsS87 w0 W g f0 f1) : g < W.heap.size := by
  obtain ⟨A0, c0, hb, hg, hr0⟩ := h
  exact blk_lt hb
theorem IsS87.ge {w0 W : World} {g : Nat} {f0 : List Int} {f1 : Int} (h : IsS87 w0 W g f0 f1) : w0.heap.size ≤ g := by
  obtain ⟨A0, c0, hb, hg, hr0⟩ := h
  exact hg
theorem IsS87.ne_blk {w0 W : World} {g : Nat} {f0 : List Int} {f1 : Int} {a : Nat} {cs : Array Value} {t : TypeId} {fr : Nat × Nat} (h : IsS87 w0 W g f0 f1) (hb2 : W.heap[a]? = some (.cells cs t fr)) (ht : t ≠ 87) : g ≠ a := by
  obtain ⟨A0, c0, hb, hg, hr0⟩ := h
  rintro rfl
  rw [hb] at hb2
  injection hb2 with hb2
  injection hb2 with _ ht2
  exact ht ht2.symm
theorem IsS87.far {w0 W : World} {g : Nat} {f0 : List Int} {f1 : Int} {p : Addr} (h : IsS87 w0 W g f0 f1) (hne : g ≠ p.block) (u : Value) : IsS87 w0 (W.setCell p u) g f0 f1 := by
  obtain ⟨A0, c0, hb, hg, hr0⟩ := h
  exact ⟨A0, c0, blk_far hb hne u, hg, hr0⟩
theorem cellS87_0 {W : World} {g : Nat} {A0 : Option Addr} {c0 : Nat} {f0 : List Int} {f1 : Int} (h : W.heap[g]? = some (.cells #[.slice A0 f0.length c0, .int .i64 f1] 87 (0, 0))) : W.cell? ⟨g, 0, none⟩ = some (.slice A0 f0.length c0) := (blk_cell h 0).trans rfl
theorem cellS87_1 {W : World} {g : Nat} {A0 : Option Addr} {c0 : Nat} {f0 : List Int} {f1 : Int} (h : W.heap[g]? = some (.cells #[.slice A0 f0.length c0, .int .i64 f1] 87 (0, 0))) : W.cell? ⟨g, 1, none⟩ = some (.int .i64 f1) := (blk_cell h 1).trans rfl
theorem IsS87.set_1 {w0 W : World} {g : Nat} {f0 : List Int} {f1 : Int} (h : IsS87 w0 W g f0 f1) (x : Int) : IsS87 w0 (W.setCell ⟨g, 1, none⟩ (.int .i64 x)) g f0 x := by
  obtain ⟨A0, c0, hb, hg, hr0⟩ := h
  exact ⟨A0, c0, by simpa using blk_set hb 1 (.int .i64 x), hg, hr0⟩
theorem IsS87.new (w0 W : World) (A0 : Option Addr) (c0 : Nat) (f0 : List Int) (f1 : Int) (hB : Below w0.heap.size w0 W) (hr0 : Kd.C (Kd.int .u8) w0 A0 f0.length f0) : IsS87 w0 (W.alloc (.cells #[.slice A0 f0.length c0, .int .i64 f1] 87)) W.heap.size f0 f1 := ⟨A0, c0, by simpa using heap_alloc_new W _, hB.size, hr0⟩

/-! ### hamt_hashBits_next: function 76 -/
def hamt_hashBits_next.f : Nat → List Int → Int → Int → Option (Int × Int)
  | 0, _, _, _ => none
  | k + 1, s0_0, s0_1, a1 => if 0 ≤ (wrap64 (Int.tdiv s0_1 8)) then (if (wrap64 (Int.tdiv s0_1 8)) < (s0_0.length : Int) then (if a1 = (wrap64 (8 - (Int.tmod s0_1 8))) then ((hamt_mkmask.f a1).bind fun t102 => (some (wrap64 (Go.bits .and .u8 t102 (rd s0_0 (wrap64 (Int.tdiv s0_1 8)))), wrap64 (s0_1 + a1)))) else (if a1 < (wrap64 (8 - (Int.tmod s0_1 8))) then ((hamt_mkmask.f (wrap64 (8 - (Int.tmod s0_1 8)))).bind fun t103 => ((hamt_mkmask.f (wrap64 ((wrap64 (8 - (Int.tmod s0_1 8))) - a1))).bind fun t104 => (if 0 ≤ (IntKind.u64.wrap (wrap64 ((wrap64 (8 - (Int.tmod s0_1 8))) - a1))) then (some (wrap64 (shr .u8 (Go.bits .and .u8 (Go.bits .and .u8 (rd s0_0 (wrap64 (Int.tdiv s0_1 8))) t103) (Go.bits .xor .u8 255 t104)) (IntKind.u64.wrap (wrap64 ((wrap64 (8 - (Int.tmod s0_1 8))) - a1)))), wrap64 (s0_1 + a1))) else (none)))) else ((hamt_mkmask.f (wrap64 (8 - (Int.tmod s0_1 8)))).bind fun t105 => (if 0 ≤ (IntKind.u64.wrap (wrap64 (a1 - (wrap64 (8 - (Int.tmod s0_1 8)))))) then ((hamt_hashBits_next.f k s0_0 (wrap64 (s0_1 + (wrap64 (8 - (Int.tmod s0_1 8))))) (wrap64 (a1 - (wrap64 (8 - (Int.tmod s0_1 8)))))).bind fun bt106 => (some (wrap64 ((shl .i64 (wrap64 (Go.bits .and .u8 t105 (rd s0_0 (wrap64 (Int.tdiv s0_1 8))))) (IntKind.u64.wrap (wrap64 (a1 - (wrap64 (8 - (Int.tmod s0_1 8))))))) + bt106.1), bt106.2))) else (none))))) else (none)) else (none)
theorem hamt_hashBits_next.mono_l : ∀ k, (∀ y0 y1 y2, LeO (hamt_hashBits_next.f k y0 y1 y2) (hamt_hashBits_next.f (k + 1) y0 y1 y2))
  | 0 => fun _ _ _ r h => by simp [hamt_hashBits_next.f] at h
  | k + 1 => by
    have ih0 := hamt_hashBits_next.mono_l k
    · intro y0 y1 y2
      unfold hamt_hashBits_next.f
      repeat' first
      | (with_reducible exact ih0 _ _ _)
      | (with_reducible exact LeO.refl _)
      | (with_reducible exact LeO.none _)
      | (with_reducible refine LeO.ite ?_ ?_)
      | (with_reducible refine LeO.bind ?_ (fun _ => ?_))
      | exact ih0 _ _ _
      | exact LeO.none _
      | refine LeO.ite ?_ ?_
      | refine LeO.bind ?_ (fun _ => ?_)
theorem hamt_hashBits_next.mono : ∀ a0 a1 a2 k, LeO (hamt_hashBits_next.f k a0 a1 a2) (hamt_hashBits_next.f (k + 1) a0 a1 a2) := by
  intro a0 a1 a2 k
  have ih0 := hamt_hashBits_next.mono_l k
  exact ih0 a0 a1 a2
set_option maxHeartbeats 8000000 in
set_option maxRecDepth 100000 in
theorem hamt_hashBits_next.calls (k : Nat) : ∀ (g : Nat) (s0_0 : List Int) (s0_1 : Int) (a1 : Int) (r1 : Int) (r2 : Int) (w0 w : World) (hI : IsS87 w0 w g s0_0 s0_1) (hB : Below w0.heap.size w0 w) (h : hamt_hashBits_next.f k s0_0 s0_1 a1 = some (r1, r2)),
    Calls Try.prog 76 #[.pointer (some ⟨g, 0, none⟩), .int .i64 a1] w fun e w' => e = .returned (.int .i64 r1) ∧ IsS87 w0 w' g s0_0 r2 ∧ Below w0.heap.size w0 w' ∧ KeepBut w w' g none := by
  induction k using Nat.strongRecOn with
  | _ k ih =>
  intro g s0_0 s0_1 a1 r1 r2 w0 w hI hB h
  cases k with
  | zero => exact absurd h (by simp [hamt_hashBits_next.f])
  | succ k =>
  simp only [hamt_hashBits_next.f] at h
  have HI0 := Aside0.mk hI
  have HK := Aside0.mk (KeepBut.refl w g none)
  have HL := Aside0.mk hB.size
  clear hI
  have HW0 := Aside0.mk hB.size
  have HB := Aside0.mk hB
  clear hB
  have H : (if 0 ≤ (wrap64 (Int.tdiv s0_1 8)) then (if (wrap64 (Int.tdiv s0_1 8)) < (s0_0.length : Int) then (if a1 = (wrap64 (8 - (Int.tmod s0_1 8))) then ((hamt_mkmask.f a1).bind fun t102 => (some (wrap64 (Go.bits .and .u8 t102 (rd s0_0 (wrap64 (Int.tdiv s0_1 8)))), wrap64 (s0_1 + a1)))) else (if a1 < (wrap64 (8 - (Int.tmod s0_1 8))) then ((hamt_mkmask.f (wrap64 (8 - (Int.tmod s0_1 8)))).bind fun t103 => ((hamt_mkmask.f (wrap64 ((wrap64 (8 - (Int.tmod s0_1 8))) - a1))).bind fun t104 => (if 0 ≤ (IntKind.u64.wrap (wrap64 ((wrap64 (8 - (Int.tmod s0_1 8))) - a1))) then (some (wrap64 (shr .u8 (Go.bits .and .u8 (Go.bits .and .u8 (rd s0_0 (wrap64 (Int.tdiv s0_1 8))) t103) (Go.bits .xor .u8 255 t104)) (IntKind.u64.wrap (wrap64 ((wrap64 (8 - (Int.tmod s0_1 8))) - a1)))), wrap64 (s0_1 + a1))) else (none)))) else ((hamt_mkmask.f (wrap64 (8 - (Int.tmod s0_1 8)))).bind fun t105 => (if 0 ≤ (IntKind.u64.wrap (wrap64 (a1 - (wrap64 (8 - (Int.tmod s0_1 8)))))) then ((hamt_hashBits_next.f k s0_0 (wrap64 (s0_1 + (wrap64 (8 - (Int.tmod s0_1 8))))) (wrap64 (a1 - (wrap64 (8 - (Int.tmod s0_1 8)))))).bind fun bt106 => (some (wrap64 ((shl .i64 (wrap64 (Go.bits .and .u8 t105 (rd s0_0 (wrap64 (Int.tdiv s0_1 8))))) (IntKind.u64.wrap (wrap64 (a1 - (wrap64 (8 - (Int.tmod s0_1 8))))))) + bt106.1), bt106.2))) else (none))))) else (none)) else (none)) = some (r1, r2) := h
  clear h
  obtain ⟨ji3, hji3⟩ : ∃ j_ : Int, (wrap64 (Int.tdiv s0_1 8)) = j_ := ⟨_, rfl⟩
  replace H : (if 0 ≤ (ji3) then (if (ji3) < (s0_0.length : Int) then (if a1 = (wrap64 (8 - (Int.tmod s0_1 8))) then ((hamt_mkmask.f a1).bind fun t102 => (some (wrap64 (Go.bits .and .u8 t102 (rd s0_0 (ji3))), wrap64 (s0_1 + a1)))) else (if a1 < (wrap64 (8 - (Int.tmod s0_1 8))) then ((hamt_mkmask.f (wrap64 (8 - (Int.tmod s0_1 8)))).bind fun t103 => ((hamt_mkmask.f (wrap64 ((wrap64 (8 - (Int.tmod s0_1 8))) - a1))).bind fun t104 => (if 0 ≤ (IntKind.u64.wrap (wrap64 ((wrap64 (8 - (Int.tmod s0_1 8))) - a1))) then (some (wrap64 (shr .u8 (Go.bits .and .u8 (Go.bits .and .u8 (rd s0_0 (ji3)) t103) (Go.bits .xor .u8 255 t104)) (IntKind.u64.wrap (wrap64 ((wrap64 (8 - (Int.tmod s0_1 8))) - a1)))), wrap64 (s0_1 + a1))) else (none)))) else ((hamt_mkmask.f (wrap64 (8 - (Int.tmod s0_1 8)))).bind fun t105 => (if 0 ≤ (IntKind.u64.wrap (wrap64 (a1 - (wrap64 (8 - (Int.tmod s0_1 8)))))) then ((hamt_hashBits_next.f k s0_0 (wrap64 (s0_1 + (wrap64 (8 - (Int.tmod s0_1 8))))) (wrap64 (a1 - (wrap64 (8 - (Int.tmod s0_1 8)))))).bind fun bt106 => (some (wrap64 ((shl .i64 (wrap64 (Go.bits .and .u8 t105 (rd s0_0 (ji3)))) (IntKind.u64.wrap (wrap64 (a1 - (wrap64 (8 - (Int.tmod s0_1 8))))))) + bt106.1), bt106.2))) else (none))))) else (none)) else (none)) = some (r1, r2) := by first | (rw [hji3] at H; exact H) | (simp only [hji3] at H ⊢; exact H)
  have hji3w : (IntKind.i64.wrap (Int.tdiv s0_1 8)) = ji3 := (i64_w _).trans hji3
  by_cases c4 : 0 ≤ (ji3)
  · rw [if_pos c4] at H
    have c4b0 : decide (0 ≤ (ji3)) = true := decide_eq_true c4
    clear c4
    by_cases c5 : (ji3) < (s0_0.length : Int)
    · rw [if_pos c5] at H
      have c5b0 : decide ((ji3) < (s0_0.length : Int)) = true := decide_eq_true c5
      clear c5
      by_cases c6 : a1 = (wrap64 (8 - (Int.tmod s0_1 8)))
      · rw [if_pos c6] at H
        have c6b0 : (a1 == (wrap64 (8 - (Int.tmod s0_1 8)))) = true := beq_iff_eq.mpr c6
        have c6b1 : (a1 != (wrap64 (8 - (Int.tmod s0_1 8)))) = false := bne_eq_false_iff_eq.mpr c6
        clear c6
        replace H := Option.bind_eq_some_iff.mp H
        obtain ⟨t102, A70, H⟩ := H
        replace H : (some (wrap64 (Go.bits .and .u8 t102 (rd s0_0 (ji3))), wrap64 (s0_1 + a1))) = some (r1, r2) := H
        have A7 := Aside0.mk A70
        clear A70
        simp only [Option.some.injEq, Prod.mk.injEq] at H
        obtain ⟨rfl, rfl⟩ := H
        obtain ⟨ASz8_0, cSz8_0, HGz8, hgz8, HSz8_0⟩ := HI0.out
        have hcz8_0 := cellS87_0 HGz8
        have hcz8_1 := cellS87_1 HGz8
        have hfz8_1 := blk_frozen HGz8 1
        clear HGz8 hgz8
        have p101 : 0 ≤ ((ji3) : Int) := of_decide_eq_true (by first | (with_reducible assumption) | assumption)
        have q101 : (ji3) < (s0_0.length : Int) := of_decide_eq_true (by first | (with_reducible assumption) | assumption)
        obtain ⟨ad101, e101, hx101_0⟩ := Kd.at_int HSz8_0 (ji3) p101 q101
        cases e101
        replace hx101_0 := pw_cell_below HB.out hx101_0
        replace p101 := eq_true p101
        replace q101 := eq_true q101
        go_enter Try.func76, Try.ntmps76
        go_wp2_with (first | ((with_reducible refine gate_callee (f := 86) rfl ?_); refine goesL_ (some 35) rfl rfl Try.func86 (by kernel_rfl) rfl #[.int .i64 a1] rfl (by (try simp only [List.map_toArray, List.map_cons, List.map_nil]); first | done | rfl | (simp only [List.length_drop, List.length_take]; rfl)) ?_; (with_reducible refine (hamt_mkmask.calls a1 t102 _ A7.out).mono ?_); rintro e w' ⟨rfl, ⟨nd, rfl⟩⟩; refine ⟨_, rfl, ?_⟩))
        go_ret
        exact ⟨by first | rfl | (simp [errV_none, errV_some] <;> rfl) | (simp only [← hji3]; first | rfl | (simp [errV_none, errV_some] <;> rfl)) | (simp [*, errV_none, errV_some] <;> rfl), by repeat (first | (with_reducible first | exact HI0.out | apply IsS87.alloc | apply IsS87.drewN | apply IsS87.drew | apply IsS87.set_1) | exact HI0.out), by repeat (first | (with_reducible first | exact HB.out | apply below_alloc | apply pw_below_drewN | apply below_drew1 | refine below_set ?_ (IsS87.ge HI0.out)) | exact HB.out), by repeat (first | (with_reducible first | exact HK.out | apply KeepBut.set_ | apply keep_drewN | apply keep_drew | apply keep_alloc) | exact HK.out)⟩
      · rw [if_neg c6] at H
        have c6b0 : (a1 == (wrap64 (8 - (Int.tmod s0_1 8)))) = false := beq_eq_false_iff_ne.mpr c6
        have c6b1 : (a1 != (wrap64 (8 - (Int.tmod s0_1 8)))) = true := bne_iff_ne.mpr c6
        by_cases c9 : a1 < (wrap64 (8 - (Int.tmod s0_1 8)))
        · rw [if_pos c9] at H
          have c9b0 : decide (a1 < (wrap64 (8 - (Int.tmod s0_1 8)))) = true := decide_eq_true c9
          clear c9
          replace H := Option.bind_eq_some_iff.mp H
          obtain ⟨t103, A100, H⟩ := H
          replace H : ((hamt_mkmask.f (wrap64 ((wrap64 (8 - (Int.tmod s0_1 8))) - a1))).bind fun t104 => (if 0 ≤ (IntKind.u64.wrap (wrap64 ((wrap64 (8 - (Int.tmod s0_1 8))) - a1))) then (some (wrap64 (shr .u8 (Go.bits .and .u8 (Go.bits .and .u8 (rd s0_0 (ji3)) t103) (Go.bits .xor .u8 255 t104)) (IntKind.u64.wrap (wrap64 ((wrap64 (8 - (Int.tmod s0_1 8))) - a1)))), wrap64 (s0_1 + a1))) else (none))) = some (r1, r2) := H
          have A10 := Aside0.mk A100
          clear A100
          replace H := Option.bind_eq_some_iff.mp H
          obtain ⟨t104, A110, H⟩ := H
          replace H : (if 0 ≤ (IntKind.u64.wrap (wrap64 ((wrap64 (8 - (Int.tmod s0_1 8))) - a1))) then (some (wrap64 (shr .u8 (Go.bits .and .u8 (Go.bits .and .u8 (rd s0_0 (ji3)) t103) (Go.bits .xor .u8 255 t104)) (IntKind.u64.wrap (wrap64 ((wrap64 (8 - (Int.tmod s0_1 8))) - a1)))), wrap64 (s0_1 + a1))) else (none)) = some (r1, r2) := H
          have A11 := Aside0.mk A110
          clear A110
          obtain ⟨ji12, hji12⟩ : ∃ j_ : Int, (IntKind.u64.wrap (wrap64 ((wrap64 (8 - (Int.tmod s0_1 8))) - a1))) = j_ := ⟨_, rfl⟩
          replace H : (if 0 ≤ (ji12) then (some (wrap64 (shr .u8 (Go.bits .and .u8 (Go.bits .and .u8 (rd s0_0 (ji3)) t103) (Go.bits .xor .u8 255 t104)) (ji12)), wrap64 (s0_1 + a1))) else (none)) = some (r1, r2) := by first | (rw [hji12] at H; exact H) | (simp only [hji12] at H ⊢; exact H)
          (try rw [hji12] at A10)
          (try rw [hji12] at A11)
          by_cases c13 : 0 ≤ (ji12)
          · rw [if_pos c13] at H
            have c13b0 := eq_true c13
            have c13b1 : decide (0 ≤ (ji12)) = true := decide_eq_true c13
            clear c13
            obtain ⟨ji14, hji14⟩ : ∃ j_ : Int, (shr .u8 (Go.bits .and .u8 (Go.bits .and .u8 (rd s0_0 (ji3)) t103) (Go.bits .xor .u8 255 t104)) (ji12)) = j_ := ⟨_, rfl⟩
            replace H : (some (wrap64 (ji14), wrap64 (s0_1 + a1))) = some (r1, r2) := by first | (rw [hji14] at H; exact H) | (simp only [hji14] at H ⊢; exact H)
            (try rw [hji14] at A10)
            (try rw [hji14] at A11)
            have hji14_ : ((Go.bits .and .u8 (Go.bits .and .u8 (rd s0_0 (ji3)) t103) (Go.bits .xor .u8 255 t104)) / 2 ^ min (ji12).toNat 8) = ji14 := hji14
            have hji14z : (ji12) ≤ 8 → ((Go.bits .and .u8 (Go.bits .and .u8 (rd s0_0 (ji3)) t103) (Go.bits .xor .u8 255 t104)) / 2 ^ (ji12).toNat) = ji14 := shr_small hji14
            simp only [Option.some.injEq, Prod.mk.injEq] at H
            obtain ⟨rfl, rfl⟩ := H
            obtain ⟨ASz15_0, cSz15_0, HGz15, hgz15, HSz15_0⟩ := HI0.out
            have hcz15_0 := cellS87_0 HGz15
            have hcz15_1 := cellS87_1 HGz15
            have hfz15_1 := blk_frozen HGz15 1
            clear HGz15 hgz15
            have p101 : 0 ≤ ((ji3) : Int) := of_decide_eq_true (by first | (with_reducible assumption) | assumption)
            have q101 : (ji3) < (s0_0.length : Int) := of_decide_eq_true (by first | (with_reducible assumption) | assumption)
            obtain ⟨ad101, e101, hx101_0⟩ := Kd.at_int HSz15_0 (ji3) p101 q101
            cases e101
            replace hx101_0 := pw_cell_below HB.out hx101_0
            replace p101 := eq_true p101
            replace q101 := eq_true q101
            go_enter Try.func76, Try.ntmps76
            go_wp2_with (first | ((with_reducible refine gate_callee (f := 86) rfl ?_); refine goesL_ (some 53) rfl rfl Try.func86 (by kernel_rfl) rfl #[.int .i64 (wrap64 (8 - (Int.tmod s0_1 8)))] rfl (by (try simp only [List.map_toArray, List.map_cons, List.map_nil]); first | done | rfl | (simp only [List.length_drop, List.length_take]; rfl)) ?_; (with_reducible refine (hamt_mkmask.calls (wrap64 (8 - (Int.tmod s0_1 8))) t103 _ A10.out).mono ?_); rintro e w' ⟨rfl, ⟨nd, rfl⟩⟩; refine ⟨_, rfl, ?_⟩) | ((with_reducible refine gate_callee (f := 86) rfl ?_); refine goesL_ (some 59) rfl rfl Try.func86 (by kernel_rfl) rfl #[.int .i64 (wrap64 ((wrap64 (8 - (Int.tmod s0_1 8))) - a1))] rfl (by (try simp only [List.map_toArray, List.map_cons, List.map_nil]); first | done | rfl | (simp only [List.length_drop, List.length_take]; rfl)) ?_; (with_reducible refine (hamt_mkmask.calls (wrap64 ((wrap64 (8 - (Int.tmod s0_1 8))) - a1)) t104 _ A11.out).mono ?_); rintro e w' ⟨rfl, ⟨nd, rfl⟩⟩; refine ⟨_, rfl, ?_⟩))
            go_ret
            exact ⟨by first | rfl | (simp [errV_none, errV_some] <;> rfl) | (simp only [← hji3, ← hji12, ← hji14]; first | rfl | (simp [errV_none, errV_some] <;> rfl)) | (simp [*, errV_none, errV_some] <;> rfl), by repeat (first | (with_reducible first | exact HI0.out | apply IsS87.alloc | apply IsS87.drewN | apply IsS87.drew | apply IsS87.set_1) | exact HI0.out), by repeat (first | (with_reducible first | exact HB.out | apply below_alloc | apply pw_below_drewN | apply below_drew1 | refine below_set ?_ (IsS87.ge HI0.out)) | exact HB.out), by repeat (first | (with_reducible first | exact HK.out | apply KeepBut.set_ | apply keep_drewN | apply keep_drew | apply keep_alloc) | exact HK.out)⟩
          · rw [if_neg c13] at H
            exact absurd H (by simp)
        · rw [if_neg c9] at H
          have c9b0 : decide (a1 < (wrap64 (8 - (Int.tmod s0_1 8)))) = false := decide_eq_false c9
          clear c9
          replace H := Option.bind_eq_some_iff.mp H
          obtain ⟨t105, A160, H⟩ := H
          replace H : (if 0 ≤ (IntKind.u64.wrap (wrap64 (a1 - (wrap64 (8 - (Int.tmod s0_1 8)))))) then ((hamt_hashBits_next.f k s0_0 (wrap64 (s0_1 + (wrap64 (8 - (Int.tmod s0_1 8))))) (wrap64 (a1 - (wrap64 (8 - (Int.tmod s0_1 8)))))).bind fun bt106 => (some (wrap64 ((shl .i64 (wrap64 (Go.bits .and .u8 t105 (rd s0_0 (ji3)))) (IntKind.u64.wrap (wrap64 (a1 - (wrap64 (8 - (Int.tmod s0_1 8))))))) + bt106.1), bt106.2))) else (none)) = some (r1, r2) := H
          have A16 := Aside0.mk A160
          clear A160
          obtain ⟨ji17, hji17⟩ : ∃ j_ : Int, (IntKind.u64.wrap (wrap64 (a1 - (wrap64 (8 - (Int.tmod s0_1 8)))))) = j_ := ⟨_, rfl⟩
          replace H : (if 0 ≤ (ji17) then ((hamt_hashBits_next.f k s0_0 (wrap64 (s0_1 + (wrap64 (8 - (Int.tmod s0_1 8))))) (wrap64 (a1 - (wrap64 (8 - (Int.tmod s0_1 8)))))).bind fun bt106 => (some (wrap64 ((shl .i64 (wrap64 (Go.bits .and .u8 t105 (rd s0_0 (ji3)))) (ji17)) + bt106.1), bt106.2))) else (none)) = some (r1, r2) := by first | (rw [hji17] at H; exact H) | (simp only [hji17] at H ⊢; exact H)
          (try rw [hji17] at A16)
          by_cases c18 : 0 ≤ (ji17)
          · rw [if_pos c18] at H
            have c18b0 := eq_true c18
            have c18b1 : decide (0 ≤ (ji17)) = true := decide_eq_true c18
            clear c18
            obtain ⟨ji19, hji19⟩ : ∃ j_ : Int, (shl .i64 (wrap64 (Go.bits .and .u8 t105 (rd s0_0 (ji3)))) (ji17)) = j_ := ⟨_, rfl⟩
            replace H : ((hamt_hashBits_next.f k s0_0 (wrap64 (s0_1 + (wrap64 (8 - (Int.tmod s0_1 8))))) (wrap64 (a1 - (wrap64 (8 - (Int.tmod s0_1 8)))))).bind fun bt106 => (some (wrap64 ((ji19) + bt106.1), bt106.2))) = some (r1, r2) := by first | (rw [hji19] at H; exact H) | (simp only [hji19] at H ⊢; exact H)
            (try rw [hji19] at A16)
            have hji19_ : (IntKind.i64.wrap ((wrap64 (Go.bits .and .u8 t105 (rd s0_0 (ji3)))) * 2 ^ min (ji17).toNat 64)) = ji19 := hji19
            have hji19z : (ji17) ≤ 64 → (IntKind.i64.wrap ((wrap64 (Go.bits .and .u8 t105 (rd s0_0 (ji3)))) * 2 ^ (ji17).toNat)) = ji19 := shl_small hji19
            have hji19y : (wrap64 ((wrap64 (Go.bits .and .u8 t105 (rd s0_0 (ji3)))) * 2 ^ min (ji17).toNat 64)) = ji19 := (i64_w _).symm.trans hji19_
            have hji19x : (ji17) ≤ 64 → (wrap64 ((wrap64 (Go.bits .and .u8 t105 (rd s0_0 (ji3)))) * 2 ^ (ji17).toNat)) = ji19 := fun h_ => (i64_w _).symm.trans (hji19z h_)
            replace H := Option.bind_eq_some_iff.mp H
            obtain ⟨⟨t106, t107⟩, A200, H⟩ := H
            replace H : (some (wrap64 ((ji19) + t106), t107)) = some (r1, r2) := H
            have A20 := Aside0.mk A200
            clear A200
            simp only [Option.some.injEq, Prod.mk.injEq] at H
            obtain ⟨rfl, rfl⟩ := H
            obtain ⟨ASz21_0, cSz21_0, HGz21, hgz21, HSz21_0⟩ := HI0.out
            have hcz21_0 := cellS87_0 HGz21
            have hcz21_1 := cellS87_1 HGz21
            have hfz21_1 := blk_frozen HGz21 1
            clear HGz21 hgz21
            have p101 : 0 ≤ ((ji3) : Int) := of_decide_eq_true (by first | (with_reducible assumption) | assumption)
            have q101 : (ji3) < (s0_0.length : Int) := of_decide_eq_true (by first | (with_reducible assumption) | assumption)
            obtain ⟨ad101, e101, hx101_0⟩ := Kd.at_int HSz21_0 (ji3) p101 q101
            cases e101
            replace hx101_0 := pw_cell_below HB.out hx101_0
            replace p101 := eq_true p101
            replace q101 := eq_true q101
            go_enter Try.func76, Try.ntmps76
            go_wp2_with (first | ((with_reducible refine gate_callee (f := 86) rfl ?_); refine goesL_ (some 79) rfl rfl Try.func86 (by kernel_rfl) rfl #[.int .i64 (wrap64 (8 - (Int.tmod s0_1 8)))] rfl (by (try simp only [List.map_toArray, List.map_cons, List.map_nil]); first | done | rfl | (simp only [List.length_drop, List.length_take]; rfl)) ?_; (with_reducible refine (hamt_mkmask.calls (wrap64 (8 - (Int.tmod s0_1 8))) t105 _ A16.out).mono ?_); rintro e w' ⟨rfl, ⟨nd, rfl⟩⟩; refine ⟨_, rfl, ?_⟩) | ((with_reducible refine gate_callee (f := 76) rfl ?_); refine goesL_ (some 102) rfl rfl Try.func76 (by kernel_rfl) rfl #[.pointer (some ⟨g, 0, none⟩), .int .i64 (wrap64 (a1 - (wrap64 (8 - (Int.tmod s0_1 8)))))] rfl (by (try simp only [List.map_toArray, List.map_cons, List.map_nil]); first | done | rfl | (simp only [List.length_drop, List.length_take]; rfl)) ?_; (with_reducible refine (ih k (by omega) g s0_0 (wrap64 (s0_1 + (wrap64 (8 - (Int.tmod s0_1 8))))) (wrap64 (a1 - (wrap64 (8 - (Int.tmod s0_1 8))))) t106 t107 w0 _ ?side1 ?side2 A20.out).mono ?_); (case side1 => repeat (first | (with_reducible first | exact HI0.out | apply IsS87.alloc | apply IsS87.drewN | apply IsS87.drew | apply IsS87.set_1) | exact HI0.out)); (case side2 => repeat (first | (with_reducible first | exact HB.out | apply below_alloc | apply pw_below_drewN | apply below_drew1 | refine below_set ?_ (IsS87.ge HI0.out)) | exact HB.out)); rintro e w22 ⟨rfl, hi, hb, hk⟩; refine ⟨_, rfl, ?_⟩; have n0_ := Aside0.mk (KeepBut.trans (by repeat (first | (with_reducible first | exact HK.out | apply KeepBut.set_ | apply keep_drewN | apply keep_drew | apply keep_alloc) | exact HK.out)) hk (.inl rfl)); have n1_ := Aside0.mk (hb); have n2_ := Aside0.mk (hi); clear HK; clear HB; clear HI0; have HK := n0_; have HB := n1_; have HI0 := n2_; clear n0_ n1_ n2_; (try clear hb); (try clear hb2); (try clear hk); (try clear hi)))
            go_ret
            exact ⟨by first | rfl | (simp [errV_none, errV_some] <;> rfl) | (simp only [← hji3, ← hji17, ← hji19]; first | rfl | (simp [errV_none, errV_some] <;> rfl)) | (simp [*, errV_none, errV_some] <;> rfl), by repeat (first | (with_reducible first | exact HI0.out | apply IsS87.alloc | apply IsS87.drewN | apply IsS87.drew | apply IsS87.set_1) | exact HI0.out), by repeat (first | (with_reducible first | exact HB.out | apply below_alloc | apply pw_below_drewN | apply below_drew1 | refine below_set ?_ (IsS87.ge HI0.out)) | exact HB.out), by repeat (first | (with_reducible first | exact HK.out | apply KeepBut.set_ | apply keep_drewN | apply keep_drew | apply keep_alloc) | exact HK.out)⟩
          · rw [if_neg c18] at H
            exact absurd H (by simp)
    · rw [if_neg c5] at H
      exact absurd H (by simp)
  · rw [if_neg c4] at H
    exact absurd H (by simp)

end Go.Proofs.Ytbmeegkgcipmoaa.PFnHashBits
