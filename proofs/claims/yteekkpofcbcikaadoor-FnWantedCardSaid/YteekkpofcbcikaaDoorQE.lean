/- Several texts of this claim, joined. -/
import Derived.Test.YteekkpofcbcikaaDoorQD
import Derived.Test.YteekkpofcbcikaaDoorL0
import Derived.Test.YteekkpofcbcikaaDoorQA
/- What stands behind a step of spec.Wanted. -/
section
namespace Go.Proofs.YteekkpofcbcikaaDoor.HandWan
open Go Go.RowKit Go.Proofs.YteekkpofcbcikaaDoorL Go.Proofs.YteekkpofcbcikaaDoorW.PrintWords Go.Proofs.YteekkpofcbcikaaDoorW.PrintLast Go.Proofs.YteekkpofcbcikaaDoorW.PrintMore Go.Proofs.YteekkpofcbcikaaDoor.PWan
attribute [local go_sem] max2_int min2_int max_two min_two max_three min_three max_four min_four
set_option linter.unusedVariables false
set_option linter.unusedSimpArgs false
/-! spec.Wanted. -/
theorem fold_len (L : List S31) : ∀ l : List S27, (L.foldl spL l).length ≤ l.length + L.length := by
  induction L with
  | nil => intro l; exact Nat.le_refl _
  | cons x L ih => intro l; rw [List.foldl_cons]; have h1 := ih (spL l x); have h2 := spL_len l x; simp only [List.length_cons]; omega
theorem heap_set1 {w : World} {g : Nat} {e : TypeId} {cur cur' : Array Value} (o : Nat) (v : Value) (h : w.heap[g]? = some (.cells cur e (0, 0))) (hc : cur.setIfInBounds o v = cur') : (w.setCell ⟨g, o, none⟩ v).heap[g]? = some (.cells cur' e (0, 0)) := by
  have := heap_setCells [v] o cur w h
  rw [← hc]
  exact this
theorem NE.put {B base g o : Nat} {w : World} {v u : Value} {l : List S27} (h : NE B w base v l) (hg : B ≤ g) (hn : some g ≠ v.ownBlock) : NE B (w.setCell ⟨g, o, none⟩ u) base v l :=
  h.step (fun k hk _ => Below.heap_setCell w ⟨g, o, none⟩ u k (fun e => by
    rcases hk with hk | hk
    · have e : k = g := e; omega
    · have e : k = g := e; exact hn (e ▸ hk)))
theorem F_put {α : Type} {d : Kd α} {B g o : Nat} {w : World} {A : Option Addr} {n : Nat} {xs : List α} (u : Value) (h : Kd.F d w (fun k => k < B) A n xs) (hg : B ≤ g) : Kd.F d (w.setCell ⟨g, o, none⟩ u) (fun k => k < B) A n xs :=
  fun W' hW => h W' (fun k hk hlt => by
    have := hW k hk (by rw [show (w.setCell ⟨g, o, none⟩ u).heap.size = w.heap.size from by rw [Go.Sort.setCell_eq]; simp [Go.Sort.mapBlock]]; exact hlt)
    rw [this]
    exact Below.heap_setCell w ⟨g, o, none⟩ u k (fun e => by have e : k = g := e; omega))
theorem grown_put {w w1 : World} {g o : Nat} {row : Option Nat} (h : w.grownBy w1 row) (hg : w.heap.size ≤ g) (v : Value) : w.grownBy (w1.setCell ⟨g, o, none⟩ v) row :=
  ⟨h.os, h.tape, h.output, by rw [show (w1.setCell ⟨g, o, none⟩ v).heap.size = w1.heap.size from by rw [Go.Sort.setCell_eq]; simp [Go.Sort.mapBlock]]; exact h.size, fun k hk hne => (Below.heap_setCell w1 ⟨g, o, none⟩ v k (fun e => by have e : k = g := e; omega)).trans (h.block k hk hne)⟩
/-- What stands behind a step of spec.Wanted's switch. -/
structure SB (B : Nat) (wr we : World) (v4 v4' : Value) (L : List S27) (x : S31) (gt : Nat) (Ae : Option Addr) (ce : Nat) : Prop where
  gr : wr.grownBy we v4.ownBlock
  ne : NE B we B v4' (spL L x)
  at_ : v4'.ownBlock = v4.ownBlock ∨ ∃ q, v4'.ownBlock = some q ∧ wr.heap.size ≤ q
  bt : we.heap[gt]? = some (.cells #[.bool (spB L x), .slice Ae (spE L x).f0.length ce, .int .i32 (spE L x).f1, .bool (spE L x).f2, .int .i64 0, .slice none 0 0] 36 (0, 0))
  le : (spE L x).f0.length ≤ ce
  fe : Kd.F (Kd.int .u8) we (fun k => k < B) Ae (spE L x).f0.length (spE L x).f0
theorem blk_fz {w : World} {g t : Nat} {c : Array Value} (h : w.heap[g]? = some (.cells c t (0, 0))) (j : Nat) : w.frozen? ⟨g, j, none⟩ = false := by simp [World.frozen?, h]
theorem F_none (w : World) (ok : Nat → Prop) : Kd.F (Kd.int .u8) w ok none z27.f0.length z27.f0 := fun _ _ => Kd.C_nil _ _
theorem grown_fresh {a b c : World} {row row2 : Option Nat} (h : a.grownBy b row) (h2 : b.grownBy c row2) (hf : ∀ k, row2 = some k → a.heap.size ≤ k) : a.grownBy c row :=
  ⟨h2.os.trans h.os, h2.tape.trans h.tape, h2.output.trans h.output, Nat.le_trans h.size h2.size, fun k hk hne => (h2.block k (Nat.lt_of_lt_of_le hk h.size) (fun e => by have := hf k e.symm; omega)).trans (h.block k hk hne)⟩
theorem delNE (v : Value) (l : List S27) (w : World) (B base : Nat) (h : NE B w base v l) (hl : l.length ≤ 1000) (k : Nat) (hk : k < l.length) (r r1 : Int) (hr : r = (k : Int)) (hr1 : r1 = (k : Int) + 1) :
    Calls Tryd.prog 45 #[v, .int .i64 r, .int .i64 r1] w fun e w' => ∃ v', e = .returned v' ∧ NE B w' base v' (l.eraseIdx r.toNat) ∧ w.grownBy w' v.ownBlock ∧ v'.ownBlock = v.ownBlock := by
  subst hr
  subst hr1
  refine (slDel_calls v l w base _ h hl k hk).mono ?_
  rintro e w' ⟨v', rfl, hN, hg, ho⟩
  refine ⟨v', rfl, ?_, hg, ho⟩
  unfold NE
  rw [ho, Int.toNat_natCast]
  exact hN
theorem sp_miss (L : List S27) (x : S31) (h : fI L x.f1.f0 0 = -1) (hk : x.f0 = 1 ∨ x.f0 = 2 ∨ x.f0 = 3) : spL L x = L ∧ spB L x = false ∧ spE L x = z27 := by
  have hH : spHit L x = false := by unfold spHit; rw [h]; rfl
  have hD : spDel L x = false := by unfold spDel; rw [hH]; rfl
  unfold spL spB spE
  rw [hH, hD]
  rcases hk with hk | hk | hk
  · simp only [hk, n10, n13, if_false, if_true, true_or, Bool.false_eq_true, and_self]
  · simp only [hk, n20, n21, n23, if_false, if_true, or_true, Bool.false_eq_true, and_self]
  · simp only [hk, n30, n31, n32, if_false, if_true, or_self, Bool.false_eq_true, and_self]
theorem sp_hit (L : List S27) (x : S31) (y : S27) (r : Int) (h : fI L x.f1.f0 0 = r) (h0 : 0 ≤ r) (hy : rd_T27 L r = y) : (x.f0 = 1 → spL L x = L.eraseIdx r.toNat ∧ spB L x = true ∧ spE L x = z27) ∧ (x.f0 = 2 → (y.f2 || !x.f1.f2) = true → spL L x = L.eraseIdx r.toNat ∧ spB L x = true ∧ spE L x = z27) ∧ (x.f0 = 2 → (y.f2 || !x.f1.f2) = false → spL L x = L ∧ spB L x = false ∧ spE L x = z27) ∧ (x.f0 = 3 → spL L x = L ∧ spB L x = true ∧ spE L x = y) := by
  have hH : spHit L x = true := by unfold spHit; rw [h]; exact decide_eq_true h0
  have hA : spAt L x = y := by unfold spAt; rw [h]; exact hy
  have hD : spDel L x = (x.f0 == 1 || y.f2 || !x.f1.f2) := by unfold spDel; rw [hH, hA]; rfl
  unfold spL spB spE
  rw [hH, hD, hA, h]
  refine ⟨fun hk => ?_, fun hk hv => ?_, fun hk hv => ?_, fun hk => ?_⟩
  · simp only [hk, n10, n13, if_false, if_true, true_or, beq_self_eq_true, Bool.true_or, and_self]
  · simp only [hk, n20, n21, n23, show ((2 : Int) == 1) = false from rfl, Bool.false_or, hv, if_false, if_true, or_true, and_self]
  · simp only [hk, n20, n21, n23, show ((2 : Int) == 1) = false from rfl, Bool.false_or, hv, if_false, if_true, or_true, Bool.false_eq_true, and_self]
  · simp only [hk, n30, n31, n32, if_false, if_true, or_self, and_self]
theorem told_F {w : World} {okp : Nat → Prop} {ok : Bool} {y : S27} {n : Int} {L3 : List S27} {A Ae : Option Addr} {ce c m : Nat} (hm : m = L3.length) (h1 : y.f0.length ≤ ce) (hF : Kd.F (Kd.int .u8) w okp Ae y.f0.length y.f0) (h2 : m ≤ c) (h3 : Kd.F k27 w okp A m L3) : Kd.FK k36 w okp ⟨ok, y, n, L3⟩ [.bool ok, .slice Ae y.f0.length ce, .int .i32 y.f1, .bool y.f2, .int .i64 n, .slice A m c] := by
  subst hm
  exact k36_mkF w okp ⟨ok, y, n, L3⟩ h1 hF h2 h3
end Go.Proofs.YteekkpofcbcikaaDoor.HandWan
end
/- slices.EqualFunc at rows that are the same. -/
section
namespace Go.Proofs.YteekkpofcbcikaaDoor.HandWan
open Go Go.RowKit Go.Proofs.YteekkpofcbcikaaDoorL Go.Proofs.YteekkpofcbcikaaDoorW.PrintWords Go.Proofs.YteekkpofcbcikaaDoorW.PrintLast Go.Proofs.YteekkpofcbcikaaDoorW.PrintMore Go.Proofs.YteekkpofcbcikaaDoor.PWan
attribute [local go_sem] max2_int min2_int max_two min_two max_three min_three max_four min_four
set_option linter.unusedVariables false
set_option linter.unusedSimpArgs false
/-! slices.EqualFunc at rows that are the same. -/
theorem eqBytes (l : List Int) : bytes_Equal.f l l = some true := by
  unfold bytes_Equal.f
  simp
theorem sameE_f (q : List Int) (p : Int) (b : Bool) : laws_sameEntry.f q p b q p b = some true := by
  unfold laws_sameEntry.f
  rw [eqBytes, Option.bind_some, if_pos rfl, if_pos rfl]
  simp
set_option maxHeartbeats 4000000 in
theorem eqE_calls (l : List S27) (A B : Option Addr) (c d : Nat) (w : World) (h0 : Kd.C k27 w A l.length l) (h1 : Kd.C k27 w B l.length l) (hl : l.length ≤ 1000) :
    Calls Tryd.prog 15 #[.slice A l.length c, .slice B l.length d, .func (.func 11) #[] #[]] w fun e w' => e = .returned (.bool true) ∧ Below w.heap.size w w' := by
  have HC := Aside0.mk h0
  have HD := Aside0.mk h1
  have HL := Aside0.mk hl
  clear h0 h1 hl
  have qn : ((l.length : Int) != (l.length : Int)) = false := by simp
  go_enter Tryd.func15, Tryd.ntmps15
  go_wp2_with fail
  go_loopg [17] l.length (fun kq v17 w' => ∃ i : Int, v17 = .int .i64 i ∧ Aside0 (∃ j : Nat, i = (j : Int) ∧ j + kq = l.length ∧ Below w.heap.size w w'))
  case atStart => exact ⟨0, rfl, ⟨0, rfl, by omega, Below.refl _ _⟩⟩
  case round =>
    obtain ⟨i, rfl, HJ⟩ := hrel
    by_cases hi : i < (l.length : Int)
    · have q0 : decide (i < (l.length : Int)) = true := decide_eq_true hi
      obtain ⟨j, hij, hjk, hB⟩ := HJ.out
      have hjl : j < l.length := by omega
      have hi0 : ((0 : Int) ≤ i) = True := eq_true (by omega)
      have hi1 : (i < (l.length : Int)) = True := eq_true (by omega)
      obtain ⟨ad, A1, c1, eA, hx0, hx1, hx2, hl1, hr1⟩ := at_T27 (Kd.C_below HC.out hB) i (by omega) (by omega)
      subst eA
      obtain ⟨x, hxx⟩ : ∃ x, x = rd_T27 l i := ⟨_, rfl⟩
      rw [← hxx] at hx0 hx1 hx2 hl1 hr1
      have HXX := Aside0.mk hxx
      have HB := Aside0.mk hB
      have HL1 := Aside0.mk hl1
      have HR1 := Aside0.mk hr1
      have HII : Aside0 (0 ≤ i ∧ i < (l.length : Int)) := ⟨by omega⟩
      obtain ⟨i1, hi1e⟩ : ∃ y : Int, wrap64 (i + 1) = y := ⟨_, rfl⟩
      have hi1w : IntKind.i64.wrap (i + 1) = i1 := (i64_w _).trans hi1e
      have HI1 := Aside0.mk (show i1 = ((j + 1 : Nat) : Int) by have := HL.out; rw [← hi1e]; unfold wrap64; omega)
      have HJ2 := Aside0.mk (show j + gk = l.length ∧ j < l.length from ⟨hjk, hjl⟩)
      clear hij hjk hjl hi HJ hB hxx hl1 hr1
      go_upto_region 6 with fail
      obtain ⟨w1, hw1⟩ : ∃ w1, w1 = wr.alloc (.cells #[.slice A1 x.f0.length c1, .int .i32 x.f1, .bool x.f2] 27) := ⟨_, rfl⟩
      obtain ⟨g1, hg1⟩ : ∃ g1, g1 = wr.heap.size := ⟨_, rfl⟩
      rw [← hw1, ← hg1]
      have hB1 : Below wr.heap.size wr w1 := by rw [hw1]; exact below_alloc (Below.refl _ _) _
      have hb1 : w1.heap[g1]? = some (.cells #[.slice A1 x.f0.length c1, .int .i32 x.f1, .bool x.f2] 27 (0, 0)) := by rw [hw1, hg1]; exact blk_new wr _
      obtain ⟨ad2, A2, c2, eA2, hz0, hz1, hz2, hl2, hr2⟩ := at_T27 (Kd.C_below HD.out (below_step HB.out hB1)) i HII.out.1 HII.out.2
      subst eA2
      rw [← HXX.out] at hz0 hz1 hz2 hl2 hr2
      have HB1 := Aside0.mk hB1
      have HBL1 := Aside0.mk hb1
      have HL2 := Aside0.mk hl2
      have HR2 := Aside0.mk hr2
      clear hw1 hg1 hB1 hb1 hl2 hr2 hx0 hx1 hx2
      go_upto_region 7 with fail
      obtain ⟨w2, hw2⟩ : ∃ w2, w2 = w1.alloc (.cells #[.slice A2 x.f0.length c2, .int .i32 x.f1, .bool x.f2] 27) := ⟨_, rfl⟩
      obtain ⟨g2, hg2⟩ : ∃ g2, g2 = w1.heap.size := ⟨_, rfl⟩
      rw [← hw2, ← hg2]
      have hB2 : Below w1.heap.size w1 w2 := by rw [hw2]; exact below_alloc (Below.refl _ _) _
      have hb2 : w2.heap[g2]? = some (.cells #[.slice A2 x.f0.length c2, .int .i32 x.f1, .bool x.f2] 27 (0, 0)) := by rw [hw2, hg2]; exact blk_new w1 _
      have hb1 := (hB2.block _ (blk_lt HBL1.out)).trans HBL1.out
      have u0 : w2.cell? ⟨g1, 0, none⟩ = some (.slice A1 x.f0.length c1) := (blk_cell hb1 0).trans rfl
      have u1 : w2.cell? ⟨g1, 1, none⟩ = some (.int .i32 x.f1) := (blk_cell hb1 1).trans rfl
      have u2 : w2.cell? ⟨g1, 2, none⟩ = some (.bool x.f2) := (blk_cell hb1 2).trans rfl
      have v0 : w2.cell? ⟨g2, 0, none⟩ = some (.slice A2 x.f0.length c2) := (blk_cell hb2 0).trans rfl
      have v1 : w2.cell? ⟨g2, 1, none⟩ = some (.int .i32 x.f1) := (blk_cell hb2 1).trans rfl
      have v2 : w2.cell? ⟨g2, 2, none⟩ = some (.bool x.f2) := (blk_cell hb2 2).trans rfl
      have HB2 := Aside0.mk (below_step HB1.out hB2)
      have HCR := Aside0.mk (laws_sameEntry.calls A1 c1 x.f0 x.f1 x.f2 A2 c2 x.f0 x.f1 x.f2 true w2 (Kd.C_below HR1.out (below_step HB1.out hB2)) HL1.out (Kd.C_below HR2.out hB2) HL2.out (sameE_f _ _ _))
      clear hw2 hg2 hB2 hb2 hb1 hz0 hz1 hz2
      go_wp2_with (go_at_call 11; refine HCR.out.mono ?_; rintro e w3 ⟨rfl, hb⟩; have HB3 := Aside0.mk (below_step HB2.out hb); clear hb)
      go_roundg (gk - 1)
      case measure => have := HJ2.out; omega
      case rel => exact ⟨i1, rfl, ⟨j + 1, HI1.out, by have := HJ2.out; omega, below_step HB.out HB3.out⟩⟩
    · have q0 : decide (i < (l.length : Int)) = false := decide_eq_false hi
      obtain ⟨j, hij, hjk, hB⟩ := HJ.out
      have HB := Aside0.mk hB
      clear hij hjk hB HJ hi
      go_wp2_with fail
      go_ret
      exact ⟨rfl, HB.out⟩
set_option maxHeartbeats 4000000 in
theorem eqT_calls (ok : Bool) (q : List Int) (p : Int) (h : Bool) (n : Int) (L : List S27) (A1 A5 B1 B5 : Option Addr) (c1 c5 d1 d5 : Nat) (w : World) (h1 : Kd.C (Kd.int .u8) w A1 q.length q) (l1 : q.length ≤ c1) (h5 : Kd.C k27 w A5 L.length L) (g1 : Kd.C (Kd.int .u8) w B1 q.length q) (m1 : q.length ≤ d1) (g5 : Kd.C k27 w B5 L.length L) (hL : L.length ≤ 1000) :
    Calls Tryd.prog 14 #[.agg #[.bool ok, .slice A1 q.length c1, .int .i32 p, .bool h, .int .i64 n, .slice A5 L.length c5], .agg #[.bool ok, .slice B1 q.length d1, .int .i32 p, .bool h, .int .i64 n, .slice B5 L.length d5]] w fun e w' => e = .returned (.bool true) ∧ Below w.heap.size w w' := by
  obtain ⟨w2, hw2⟩ : ∃ w2, w2 = (w.alloc (.cells #[.bool ok, .slice A1 q.length c1, .int .i32 p, .bool h, .int .i64 n, .slice A5 L.length c5] 36 (0, 0))).alloc (.cells #[.bool ok, .slice B1 q.length d1, .int .i32 p, .bool h, .int .i64 n, .slice B5 L.length d5] 36 (0, 0)) := ⟨_, rfl⟩
  obtain ⟨ga, hga⟩ : ∃ ga, ga = w.heap.size := ⟨_, rfl⟩
  obtain ⟨gb, hgb⟩ : ∃ gb, gb = w.heap.size + 1 := ⟨_, rfl⟩
  have hB2 : Below w.heap.size w w2 := by rw [hw2]; exact below_alloc (below_alloc (Below.refl _ _) _) _
  have hba : w2.heap[ga]? = some (.cells #[.bool ok, .slice A1 q.length c1, .int .i32 p, .bool h, .int .i64 n, .slice A5 L.length c5] 36 (0, 0)) := by rw [hw2, hga]; exact blk_alloc (blk_new w _) _
  have hbb : w2.heap[gb]? = some (.cells #[.bool ok, .slice B1 q.length d1, .int .i32 p, .bool h, .int .i64 n, .slice B5 L.length d5] 36 (0, 0)) := by
    have := blk_new (w.alloc (.cells #[.bool ok, .slice A1 q.length c1, .int .i32 p, .bool h, .int .i64 n, .slice A5 L.length c5] 36 (0, 0))) (.cells #[.bool ok, .slice B1 q.length d1, .int .i32 p, .bool h, .int .i64 n, .slice B5 L.length d5] 36 (0, 0))
    rw [show (w.alloc (.cells #[.bool ok, .slice A1 q.length c1, .int .i32 p, .bool h, .int .i64 n, .slice A5 L.length c5] 36 (0, 0))).heap.size = w.heap.size + 1 from Array.size_push ..] at this
    rw [hw2, hgb]
    exact this
  have a0 : w2.cell? ⟨ga, 0, none⟩ = some (.bool ok) := (blk_cell hba 0).trans rfl
  have a1 : w2.cell? ⟨ga, 1, none⟩ = some (.slice A1 q.length c1) := (blk_cell hba 1).trans rfl
  have a2 : w2.cell? ⟨ga, 2, none⟩ = some (.int .i32 p) := (blk_cell hba 2).trans rfl
  have a3 : w2.cell? ⟨ga, 3, none⟩ = some (.bool h) := (blk_cell hba 3).trans rfl
  have b0 : w2.cell? ⟨gb, 0, none⟩ = some (.bool ok) := (blk_cell hbb 0).trans rfl
  have b1 : w2.cell? ⟨gb, 1, none⟩ = some (.slice B1 q.length d1) := (blk_cell hbb 1).trans rfl
  have b2 : w2.cell? ⟨gb, 2, none⟩ = some (.int .i32 p) := (blk_cell hbb 2).trans rfl
  have b3 : w2.cell? ⟨gb, 3, none⟩ = some (.bool h) := (blk_cell hbb 3).trans rfl
  have HBA := Aside0.mk hba
  have HBB := Aside0.mk hbb
  have HB2 := Aside0.mk hB2
  have H5 := Aside0.mk (Kd.C_below h5 hB2)
  have G5 := Aside0.mk (Kd.C_below g5 hB2)
  have HL := Aside0.mk hL
  have HS := Aside0.mk (laws_sameEntry.calls A1 c1 q p h B1 d1 q p h true w2 (Kd.C_below h1 hB2) l1 (Kd.C_below g1 hB2) m1 (sameE_f _ _ _))
  have qo : (ok == ok) = true := by cases ok <;> rfl
  have qn : (n == n) = true := beq_self_eq_true n
  clear h1 l1 h5 g1 m1 g5 hL hba hbb hB2
  go_enter Tryd.func14, Tryd.ntmps14
  go_upto_region 1 with fail
  rw [← hw2, ← hgb, ← hga]
  clear hw2 hga hgb
  go_wp2_with (first
    | (go_at_call 15; refine (eqE_calls L A5 B5 c5 d5 w3 (Kd.C_below H5.out HB3.out) (Kd.C_below G5.out HB3.out) HL.out).mono ?_; rintro e w4 ⟨rfl, hb⟩; have HB4 := Aside0.mk (below_step HB23.out hb); clear hb)
    | (go_at_call 11; refine HS.out.mono ?_; rintro e w3 ⟨rfl, hb⟩; have hba := (hb.block _ (blk_lt HBA.out)).trans HBA.out; have hbb := (hb.block _ (blk_lt HBB.out)).trans HBB.out; have e2 : w3.cell? ⟨ga, 4, none⟩ = some (.int .i64 n) := (blk_cell hba 4).trans rfl; have e3 : w3.cell? ⟨ga, 5, none⟩ = some (.slice A5 L.length c5) := (blk_cell hba 5).trans rfl; have f2 : w3.cell? ⟨gb, 4, none⟩ = some (.int .i64 n) := (blk_cell hbb 4).trans rfl; have f3 : w3.cell? ⟨gb, 5, none⟩ = some (.slice B5 L.length d5) := (blk_cell hbb 5).trans rfl; have HB3 := Aside0.mk hb; have HB23 := Aside0.mk (below_step HB2.out hb); clear hb hba hbb))
  go_ret
  exact ⟨rfl, HB4.out⟩
theorem rd36_at (l : List S36) (i : Int) (j : Nat) (h : i = (j : Int)) (hj : j < l.length) : rd_T36 l i = l[j] := by
  unfold rd_T36
  rw [h, Int.toNat_natCast, List.getD_eq_getElem?_getD, List.getElem?_eq_getElem hj]
  rfl
set_option maxHeartbeats 4000000 in
theorem eqTs_calls (l : List S36) (A B : Option Addr) (c d : Nat) (w : World) (h0 : Kd.C k36 w A l.length l) (h1 : Kd.C k36 w B l.length l) (hl : l.length ≤ 1000) (hL : ∀ t ∈ l, t.f3.length ≤ 1000) :
    Calls Tryd.prog 13 #[.slice A l.length c, .slice B l.length d, .func (.func 14) #[] #[]] w fun e w' => e = .returned (.bool true) ∧ Below w.heap.size w w' := by
  have HC := Aside0.mk h0
  have HD := Aside0.mk h1
  have HL := Aside0.mk hl
  have HLL := Aside0.mk hL
  clear h0 h1 hl hL
  have qn : ((l.length : Int) != (l.length : Int)) = false := by simp
  go_enter Tryd.func13, Tryd.ntmps13
  go_wp2_with fail
  go_loopg [17] l.length (fun kq v17 w' => ∃ i : Int, v17 = .int .i64 i ∧ Aside0 (∃ j : Nat, i = (j : Int) ∧ j + kq = l.length ∧ Below w.heap.size w w'))
  case atStart => exact ⟨0, rfl, ⟨0, rfl, by omega, Below.refl _ _⟩⟩
  case round =>
    obtain ⟨i, rfl, HJ⟩ := hrel
    by_cases hi : i < (l.length : Int)
    · have q0 : decide (i < (l.length : Int)) = true := decide_eq_true hi
      obtain ⟨j, hij, hjk, hB⟩ := HJ.out
      have hjl : j < l.length := by omega
      have hi0 : ((0 : Int) ≤ i) = True := eq_true (by omega)
      have hi1 : (i < (l.length : Int)) = True := eq_true (by omega)
      obtain ⟨ad, A1, c1, A5, c5, eA, hx0, hx1, hx2, hx3, hx4, hx5, hl1, hr1, hl5, hr5⟩ := at_T36 (Kd.C_below HC.out hB) i (by omega) (by omega)
      subst eA
      obtain ⟨x, hxx⟩ : ∃ x, x = rd_T36 l i := ⟨_, rfl⟩
      have HX3 : Aside0 (x.f3.length ≤ 1000) := ⟨by rw [hxx, rd36_at l i j hij hjl]; exact HLL.out _ (List.getElem_mem hjl)⟩
      rw [← hxx] at hx0 hx1 hx2 hx3 hx4 hx5 hl1 hr1 hl5 hr5
      have HXX := Aside0.mk hxx
      have HB := Aside0.mk hB
      have HL1 := Aside0.mk hl1
      have HR1 := Aside0.mk hr1
      have HR5 := Aside0.mk hr5
      have HII : Aside0 (0 ≤ i ∧ i < (l.length : Int)) := ⟨by omega⟩
      obtain ⟨i1, hi1e⟩ : ∃ y : Int, wrap64 (i + 1) = y := ⟨_, rfl⟩
      have hi1w : IntKind.i64.wrap (i + 1) = i1 := (i64_w _).trans hi1e
      have HI1 := Aside0.mk (show i1 = ((j + 1 : Nat) : Int) by have := HL.out; rw [← hi1e]; unfold wrap64; omega)
      have HJ2 := Aside0.mk (show j + gk = l.length ∧ j < l.length from ⟨hjk, hjl⟩)
      clear hij hjk hjl hi HJ hB hxx hl1 hr1 hl5 hr5
      go_upto_region 6 with fail
      obtain ⟨w1, hw1⟩ : ∃ w1, w1 = wr.alloc (.cells #[.bool x.f0, .slice A1 x.f1.f0.length c1, .int .i32 x.f1.f1, .bool x.f1.f2, .int .i64 x.f2, .slice A5 x.f3.length c5] 36) := ⟨_, rfl⟩
      obtain ⟨g1, hg1⟩ : ∃ g1, g1 = wr.heap.size := ⟨_, rfl⟩
      rw [← hw1, ← hg1]
      have hB1 : Below wr.heap.size wr w1 := by rw [hw1]; exact below_alloc (Below.refl _ _) _
      have hb1 : w1.heap[g1]? = some (.cells #[.bool x.f0, .slice A1 x.f1.f0.length c1, .int .i32 x.f1.f1, .bool x.f1.f2, .int .i64 x.f2, .slice A5 x.f3.length c5] 36 (0, 0)) := by rw [hw1, hg1]; exact blk_new wr _
      obtain ⟨ad2, A2, c2, A6, c6, eA2, hz0, hz1, hz2, hz3, hz4, hz5, hl2, hr2, hl6, hr6⟩ := at_T36 (Kd.C_below HD.out (below_step HB.out hB1)) i HII.out.1 HII.out.2
      subst eA2
      rw [← HXX.out] at hz0 hz1 hz2 hz3 hz4 hz5 hl2 hr2 hl6 hr6
      have HB1 := Aside0.mk hB1
      have HBL1 := Aside0.mk hb1
      have HL2 := Aside0.mk hl2
      have HR2 := Aside0.mk hr2
      have HR6 := Aside0.mk hr6
      clear hw1 hg1 hB1 hb1 hl2 hr2 hl6 hr6 hx0 hx1 hx2 hx3 hx4 hx5
      go_upto_region 7 with fail
      obtain ⟨w2, hw2⟩ : ∃ w2, w2 = w1.alloc (.cells #[.bool x.f0, .slice A2 x.f1.f0.length c2, .int .i32 x.f1.f1, .bool x.f1.f2, .int .i64 x.f2, .slice A6 x.f3.length c6] 36) := ⟨_, rfl⟩
      obtain ⟨g2, hg2⟩ : ∃ g2, g2 = w1.heap.size := ⟨_, rfl⟩
      rw [← hw2, ← hg2]
      have hB2 : Below w1.heap.size w1 w2 := by rw [hw2]; exact below_alloc (Below.refl _ _) _
      have hb2 : w2.heap[g2]? = some (.cells #[.bool x.f0, .slice A2 x.f1.f0.length c2, .int .i32 x.f1.f1, .bool x.f1.f2, .int .i64 x.f2, .slice A6 x.f3.length c6] 36 (0, 0)) := by rw [hw2, hg2]; exact blk_new w1 _
      have hb1 := (hB2.block _ (blk_lt HBL1.out)).trans HBL1.out
      have u0 : w2.cell? ⟨g1, 0, none⟩ = some (.bool x.f0) := (blk_cell hb1 0).trans rfl
      have u1 : w2.cell? ⟨g1, 1, none⟩ = some (.slice A1 x.f1.f0.length c1) := (blk_cell hb1 1).trans rfl
      have u2 : w2.cell? ⟨g1, 2, none⟩ = some (.int .i32 x.f1.f1) := (blk_cell hb1 2).trans rfl
      have u3 : w2.cell? ⟨g1, 3, none⟩ = some (.bool x.f1.f2) := (blk_cell hb1 3).trans rfl
      have u4 : w2.cell? ⟨g1, 4, none⟩ = some (.int .i64 x.f2) := (blk_cell hb1 4).trans rfl
      have u5 : w2.cell? ⟨g1, 5, none⟩ = some (.slice A5 x.f3.length c5) := (blk_cell hb1 5).trans rfl
      have v0 : w2.cell? ⟨g2, 0, none⟩ = some (.bool x.f0) := (blk_cell hb2 0).trans rfl
      have v1 : w2.cell? ⟨g2, 1, none⟩ = some (.slice A2 x.f1.f0.length c2) := (blk_cell hb2 1).trans rfl
      have v2 : w2.cell? ⟨g2, 2, none⟩ = some (.int .i32 x.f1.f1) := (blk_cell hb2 2).trans rfl
      have v3 : w2.cell? ⟨g2, 3, none⟩ = some (.bool x.f1.f2) := (blk_cell hb2 3).trans rfl
      have v4 : w2.cell? ⟨g2, 4, none⟩ = some (.int .i64 x.f2) := (blk_cell hb2 4).trans rfl
      have v5 : w2.cell? ⟨g2, 5, none⟩ = some (.slice A6 x.f3.length c6) := (blk_cell hb2 5).trans rfl
      have HB2 := Aside0.mk (below_step HB1.out hB2)
      have HCR := Aside0.mk (eqT_calls x.f0 x.f1.f0 x.f1.f1 x.f1.f2 x.f2 x.f3 A1 A5 A2 A6 c1 c5 c2 c6 w2 (Kd.C_below HR1.out (below_step HB1.out hB2)) HL1.out (Kd.C_below HR5.out (below_step HB1.out hB2)) (Kd.C_below HR2.out hB2) HL2.out (Kd.C_below HR6.out hB2) HX3.out)
      clear hw2 hg2 hB2 hb2 hb1 hz0 hz1 hz2 hz3 hz4 hz5
      go_wp2_with (go_at_call 14; refine HCR.out.mono ?_; rintro e w3 ⟨rfl, hb⟩; have HB3 := Aside0.mk (below_step HB2.out hb); clear hb)
      go_roundg (gk - 1)
      case measure => have := HJ2.out; omega
      case rel => exact ⟨i1, rfl, ⟨j + 1, HI1.out, by have := HJ2.out; omega, below_step HB.out HB3.out⟩⟩
    · have q0 : decide (i < (l.length : Int)) = false := decide_eq_false hi
      obtain ⟨j, hij, hjk, hB⟩ := HJ.out
      have HB := Aside0.mk hB
      clear hij hjk hB HJ hi
      go_wp2_with fail
      go_ret
      exact ⟨rfl, HB.out⟩
end Go.Proofs.YteekkpofcbcikaaDoor.HandWan
end
