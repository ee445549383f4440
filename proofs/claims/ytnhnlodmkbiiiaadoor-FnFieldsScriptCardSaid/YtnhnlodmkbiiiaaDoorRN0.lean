/- A node of a file, in memory: its data, its size and the sizes of its parts are set; its bytes are those of the message. -/
import Derived.Test.YtnhnlodmkbiiiaaDoorRH2
namespace Go.Proofs.YtnhnlodmkbiiiaaDoor.HandFields
open Go Go.RowKit Go.Proofs.YtnhnlodmkbiiiaaDoorL Go.Proofs.YtnhnlodmkbiiiaaDoorW.PrintWords Go.Proofs.YtnhnlodmkbiiiaaDoorW.PrintLast Go.Proofs.YtnhnlodmkbiiiaaDoorW.PrintMore Go.Proofs.YtnhnlodmkbiiiaaDoor.PFieldsBase
attribute [local go_sem] max2_int min2_int max_two min_two max_three min_three max_four min_four
set_option linter.unusedVariables false
set_option linter.unusedSimpArgs false
/-- A node of a file, in memory, while it is written. -/
structure Nd (w0 W : World) (g : Nat) (d : Dat) (p : Nat) (c1 c2 c3 : Value) : Prop where
 blk : W.heap[g]? = some (.cells #[.pointer (some ⟨p, 0, none⟩), c1, c2, c3, .pointer none, .pointer none, .slice none 0 0, .int .i32 0] 167 (0, 0))
 ty : W.heap[p]? = some (.cells #[.int .i32 (d.ty : Int)] 121 (0, 0))
 gge : w0.heap.size ≤ g
 pg : p ≠ g
 below : Below w0.heap.size w0 W
 data0 : d.data = none → c1 = .slice none 0 0
 data1 : ∀ xs, d.data = some xs → ∃ A c, c1 = .slice (some A) xs.length c ∧ xs.length ≤ c ∧ Kd.R (Kd.int .u8) 5 W w0.heap.size (fun k => k ≠ g) c1 xs
 size0 : d.size = none → c2 = .pointer none
 size1 : ∀ n, d.size = some n → ∃ s : Nat, c2 = .pointer (some ⟨s, 0, none⟩) ∧ W.heap[s]? = some (.cells #[.int .u64 (n : Int)] 24 (0, 0)) ∧ s ≠ g ∧ some s ≠ c3.ownBlock
 blks : Kd.R (Kd.int .u64) 24 W w0.heap.size (fun k => k ≠ g ∧ k ≠ p) c3 d.blocks
section
variable {w0 W W' : World} {g p : Nat} {d : Dat} {c1 c2 c3 : Value}
theorem Nd.rd (h : Nd w0 W g d p c1 c2 c3) : RdDat W g d p c1 c2 c3 167 := by
 refine ⟨h.blk, blk_cell h.ty 0, h.data0, fun xs hx => ?_, h.size0, fun n hn => ?_, ?_⟩
 ·obtain ⟨A, c, e, hl, hR⟩ := h.data1 xs hx
  rw [e] at hR
  exact ⟨A, c, e, hl, (Kd.R_reads' hR).2.2⟩
 ·obtain ⟨s, e, hs, _⟩ := h.size1 n hn
  exact ⟨s, e, blk_cell hs 0⟩
 ·have hR := h.blks
  obtain ⟨A, c, hc⟩ := Kd.R_slice hR
  rw [hc] at hR
  exact ⟨A, c, hc, (Kd.R_reads' hR).2.1, (Kd.R_reads' hR).2.2⟩
/-- What was there is as it was. -/
theorem Nd.moreK (h : Nd w0 W g d p c1 c2 c3) (hk : ∀ k, k < W.heap.size → W'.heap[k]? = W.heap[k]?) (hb : Below w0.heap.size w0 W') : Nd w0 W' g d p c1 c2 c3 := by
 refine ⟨(hk g (blk_lt h.blk)).trans h.blk, (hk p (blk_lt h.ty)).trans h.ty, h.gge, h.pg, hb, h.data0, fun xs hx => ?_, h.size0, fun n hn => ?_, Kd.R_step h.blks (fun k _ hlt => hk k hlt)⟩
 ·obtain ⟨A, c, e, hl, hR⟩ := h.data1 xs hx
  exact ⟨A, c, e, hl, Kd.R_step hR (fun k _ hlt => hk k hlt)⟩
 ·obtain ⟨s, e, hs, h1, h2⟩ := h.size1 n hn
  exact ⟨s, e, (hk s (blk_lt hs)).trans hs, h1, h2⟩
theorem Nd.more (h : Nd w0 W g d p c1 c2 c3) (hb : Below W.heap.size W W') : Nd w0 W' g d p c1 c2 c3 := h.moreK (fun k hk => hb.block k hk) (below_step h.below hb)
/-- The size is set anew. -/
theorem Nd.setSize (h : Nd w0 W g d p c1 c2 c3) (n : Nat) {s : Nat} (hs : W.heap[s]? = some (.cells #[.int .u64 (n : Int)] 24 (0, 0))) (hsg : s ≠ g) (hs3 : some s ≠ c3.ownBlock) : Nd w0 (W.setCell ⟨g, 2, none⟩ (.pointer (some ⟨s, 0, none⟩))) g { d with size := some n } p c1 (.pointer (some ⟨s, 0, none⟩)) c3 := by
 refine ⟨blk_put h.blk 2 _ rfl, blk_far h.ty (p := ⟨g, 2, none⟩) h.pg _, h.gge, h.pg, below_set h.below h.gge, h.data0, fun xs hx => ?_, fun h0 => (by cases h0), fun m hm => ?_, ?_⟩
 ·obtain ⟨A, c, e, hl, hR⟩ := h.data1 xs hx
  exact ⟨A, c, e, hl, Kd.R_step hR (fun k ho hk => Below.heap_setCell W ⟨g, 2, none⟩ _ k (by simpa using ho))⟩
 ·cases hm
  exact ⟨s, rfl, blk_far hs (p := ⟨g, 2, none⟩) hsg _, hsg, hs3⟩
 ·exact Kd.R_step h.blks (fun k ho hk => Below.heap_setCell W ⟨g, 2, none⟩ _ k (by simpa using ho.1))
/-- The data are set anew. -/
theorem Nd.setData (h : Nd w0 W g d p c1 c2 c3) (A : Addr) (c : Nat) (xs : List Int) (hR : Kd.R (Kd.int .u8) 5 W w0.heap.size (fun k => k ≠ g) (.slice (some A) xs.length c) xs) : Nd w0 (W.setCell ⟨g, 1, none⟩ (.slice (some A) xs.length c)) g { d with data := some xs } p (.slice (some A) xs.length c) c2 c3 := by
 refine ⟨blk_put h.blk 1 _ rfl, blk_far h.ty (p := ⟨g, 1, none⟩) h.pg _, h.gge, h.pg, below_set h.below h.gge, fun h0 => (by cases h0), fun ys hy => ?_, h.size0, fun m hm => ?_, ?_⟩
 ·cases hy
  exact ⟨A, c, rfl, (Kd.R_reads' hR).2.1, Kd.R_step hR (fun k ho hk => Below.heap_setCell W ⟨g, 1, none⟩ _ k (by simpa using ho))⟩
 ·obtain ⟨s, e, hs, h1, h2⟩ := h.size1 m hm
  exact ⟨s, e, blk_far hs (p := ⟨g, 1, none⟩) h1 _, h1, h2⟩
 ·exact Kd.R_step h.blks (fun k ho hk => Below.heap_setCell W ⟨g, 1, none⟩ _ k (by simpa using ho.1))
/-- The sizes are set anew: another row, the old one's block may have changed. -/
theorem Nd.setBlks (h : Nd w0 W g d p c1 c2 c3) {w1 : World} {v1 : Value} (bs : List Int) (hg : W.grownBy w1 c3.ownBlock) (hb : Below w0.heap.size w0 w1) (hR : Kd.R (Kd.int .u64) 24 w1 w0.heap.size (fun k => k ≠ g ∧ k ≠ p) v1 bs) (hat : v1.ownBlock = c3.ownBlock ∨ v1.ownBlock = none ∨ ∃ b, v1.ownBlock = some b ∧ W.heap.size ≤ b) :
  Nd w0 (w1.setCell ⟨g, 3, none⟩ v1) g { d with blocks := bs } p c1 c2 v1 := by
 have hg3 : some g ≠ c3.ownBlock := fun e => (h.blks.1 g e.symm).1 rfl
 have hp3 : some p ≠ c3.ownBlock := fun e => (h.blks.1 p e.symm).2 rfl
 have hg1 : w1.heap[g]? = _ := (hg.block g (blk_lt h.blk) hg3).trans h.blk
 have hp1 : w1.heap[p]? = _ := (hg.block p (blk_lt h.ty) hp3).trans h.ty
 refine ⟨blk_put hg1 3 _ rfl, blk_far hp1 (p := ⟨g, 3, none⟩) h.pg _, h.gge, h.pg, below_set hb h.gge, h.data0, fun xs hx => ?_, h.size0, fun m hm => ?_, ?_⟩
 ·obtain ⟨A, c, e, hl, hR'⟩ := h.data1 xs hx
  have h1 := Kd.R_over (d' := Kd.int .u64) hR' h.blks (by intro q hq; have : q = 5 := (by simpa [Kd.int, Kd.scalar] using hq); subst this; decide) hg
  exact ⟨A, c, e, hl, Kd.R_step h1 (fun k ho hk => Below.heap_setCell w1 ⟨g, 3, none⟩ _ k (by simpa using ho))⟩
 ·obtain ⟨s, e, hs, h1, h2⟩ := h.size1 m hm
  refine ⟨s, e, blk_far ((hg.block s (blk_lt hs) h2).trans hs) (p := ⟨g, 3, none⟩) h1 _, h1, ?_⟩
  rcases hat with hat | hat | ⟨b, hb', hbs⟩
  ·rw [hat]; exact h2
  ·rw [hat]; simp
  ·rw [hb']
   intro e'
   injection e' with e'
   have := blk_lt hs
   omega
 ·exact Kd.R_step hR (fun k ho hk => Below.heap_setCell w1 ⟨g, 3, none⟩ _ k (by simpa using ho.1))
end
/-- All but block g is as it was. -/
structure Kp (W W' : World) (g : Nat) : Prop where
 size : W.heap.size ≤ W'.heap.size
 keep : ∀ k, k < W.heap.size → k ≠ g → W'.heap[k]? = W.heap[k]?
theorem Kp.row {α : Type} {K : Kd α} {W W' : World} {g e base : Nat} {v : Value} {xs : List α} (h : Kp W W' g) (hR : K.R e W base (fun k => k ≠ g) v xs) : K.R e W' base (fun k => k ≠ g) v xs := Kd.R_step hR (fun k ho hk => h.keep k hk ho)
theorem Kp.trans {W W1 W2 : World} {g : Nat} (h : Kp W W1 g) (h' : Kp W1 W2 g) : Kp W W2 g := ⟨Nat.le_trans h.size h'.size, fun k hk hg => (h'.keep k (Nat.lt_of_lt_of_le hk h.size) hg).trans (h.keep k hk hg)⟩
theorem Kp.of_below {W W1 : World} {g : Nat} (h : Below W.heap.size W W1) : Kp W W1 g := ⟨h.size, fun k hk _ => h.block k hk⟩
theorem Kp.set (W : World) (g i : Nat) (u : Value) : Kp W (W.setCell ⟨g, i, none⟩ u) g := ⟨by simp [World.setCell], fun k _ hk => Below.heap_setCell W ⟨g, i, none⟩ u k (by simpa using hk)⟩
/-- The size behind a change. -/
def newSz (o : Option Nat) (x : Int) : Nat := (IntKind.u64.wrap (wrap64 (wrap64 ((o.getD 0 : Nat) : Int) + x))).toNat
theorem u64_ge (x : Int) : 0 ≤ IntKind.u64.wrap x ∧ IntKind.u64.wrap x < 18446744073709551616 := by
 have e : IntKind.u64.wrap x = x % 18446744073709551616 := by rfl
 rw [e]; omega
theorem newSz_lt (o : Option Nat) (x : Int) : newSz o x < 2 ^ 64 := by
 unfold newSz
 have := u64_ge (wrap64 (wrap64 ((o.getD 0 : Nat) : Int) + x))
 omega
theorem newSz_val (o : Option Nat) (x : Int) : IntKind.u64.wrap (wrap64 (wrap64 ((o.getD 0 : Nat) : Int) + x)) = (newSz o x : Int) := by
 unfold newSz
 have := u64_ge (wrap64 (wrap64 ((o.getD 0 : Nat) : Int) + x))
 omega
section
variable {w : World} {g p1 : Nat} {d : Dat} {vD v3 vB : Value} {t : TypeId}
set_option maxHeartbeats 4000000 in
theorem GetFilesize_none (h : RdDat w g d p1 vD v3 vB t) (hm : d.size = none) : Calls Tryd.prog 112 #[.pointer (some ⟨g, 0, none⟩)] w fun e w' => e = .returned (.int .u64 0) ∧ w' = w := by
 obtain rfl := h.size0 hm
 have hc2 := (blk_cell h.blk 2).trans rfl
 clear h
 go_enter Tryd.func112, Tryd.ntmps112
 go_wp2_with fail
 go_ret
 exact ⟨rfl, rfl⟩
theorem GetFilesize_calls (h : RdDat w g d p1 vD v3 vB t) : Calls Tryd.prog 112 #[.pointer (some ⟨g, 0, none⟩)] w fun e w' => e = .returned (.int .u64 ((d.size.getD 0 : Nat) : Int)) ∧ w' = w := by
 cases hs : d.size with
 | none => exact GetFilesize_none h hs
 | some n => exact GetFilesize_some h n hs
end
set_option maxHeartbeats 8000000 in
theorem UpdSize_calls {w0 W : World} {g p : Nat} {d : Dat} {c1 c2 c3 : Value} (h : Nd w0 W g d p c1 c2 c3) (x : Int) : Calls Tryd.prog 78 #[.pointer (some ⟨g, 0, none⟩), .int .i64 x] W fun e w' => e = .returned (.tuple #[]) ∧ (∃ c2', Nd w0 w' g { d with size := some (newSz d.size x) } p c1 c2' c3) ∧ Kp W w' g := by
 have HN := Aside0.mk h
 obtain ⟨m, hm⟩ : ∃ m : Nat, m = d.size.getD 0 := ⟨_, rfl⟩
 have HM := Aside0.mk hm
 obtain ⟨k, hk⟩ : ∃ k : Nat, k = newSz d.size x := ⟨_, rfl⟩
 have HK := Aside0.mk hk
 have hv := newSz_val d.size x
 rw [← hk, ← hm] at hv
 obtain ⟨y1, hy1⟩ : ∃ y : Int, wrap64 (m : Int) = y := ⟨_, rfl⟩
 have hy1w : IntKind.i64.wrap (m : Int) = y1 := (i64_w _).trans hy1
 rw [hy1] at hv
 obtain ⟨y2, hy2⟩ : ∃ y : Int, wrap64 (y1 + x) = y := ⟨_, rfl⟩
 have hy2w : IntKind.i64.wrap (y1 + x) = y2 := (i64_w _).trans hy2
 rw [hy2] at hv
 have hgk : ∀ w1 : World, Below W.heap.size W w1 → w1.cell? ⟨g, 2, none⟩ = some c2 ∧ w1.frozen? ⟨g, 2, none⟩ = false := fun w1 hb => ⟨(blk_cell ((hb.block g (blk_lt h.blk)).trans h.blk) 2).trans rfl, blk_frozen ((hb.block g (blk_lt h.blk)).trans h.blk) 2⟩
 have HGK := Aside0.mk hgk
 clear h hm hk hgk
 go_enter Tryd.func78, Tryd.ntmps78
 go_wp2_with (first | (go_at_call 112; refine (GetFilesize_calls HN.out.rd).mono ?_; rintro e w1 ⟨rfl, hw⟩; rw [hw, ← HM.out]; clear hw) | (go_at_call 100; refine (Uint64_calls _ _).mono ?_; rintro e w1 ⟨rfl, hw⟩; have HW1 := Aside0.mk hw; have hgc := HGK.out w1 (by rw [hw]; exact below_alloc (Below.refl _ _) _); obtain ⟨hgc1, hgc2⟩ := hgc; clear hw))
 refine bodyPost_end (results_none rfl _ _ _) rfl ?_
 refine ⟨rfl, ⟨.pointer (some ⟨W.heap.size, 0, none⟩), ?_⟩, by rw [HW1.out]; exact (Kp.of_below (below_alloc (Below.refl _ _) _)).trans (Kp.set _ _ _ _)⟩
 rw [← HK.out, HW1.out]
 exact (HN.out.more (below_alloc (Below.refl _ _) _)).setSize k (blk_new W _) (fun e => by have := blk_lt HN.out.blk; omega) (fun e => by have := Kd.R_lt HN.out.blks _ e.symm; omega)
set_option maxHeartbeats 8000000 in
theorem NewFS_calls (w0 w : World) (k : Nat) (hw : Below w0.heap.size w0 w) : Calls Tryd.prog 67 #[.int .i32 (k : Int)] w fun e w' => ∃ g p c2, e = .returned (.pointer (some ⟨g, 0, none⟩)) ∧ Nd w0 w' g ⟨k, none, some 0, []⟩ p (.slice none 0 0) c2 (.slice none 0 0) := by
 have HW := Aside0.mk hw
 have n0 : Nd w0 ((w.alloc (.cells #[.int .i32 (k : Int)] 121)).alloc (.cells #[.pointer (some ⟨w.heap.size, 0, none⟩), .slice none 0 0, .pointer none, .slice none 0 0, .pointer none, .pointer none, .slice none 0 0, .int .i32 0] 167)) (w.heap.size + 1) ⟨k, none, none, []⟩ w.heap.size (.slice none 0 0) (.pointer none) (.slice none 0 0) :=
  ⟨heap2_1 w _ _, heap2_0 w _ _, Nat.le_succ_of_le hw.size, by omega, below_alloc (below_alloc hw _) _, fun _ => rfl, fun xs h => (by cases h), fun _ => rfl, fun n h => (by cases h), Kd.R_nil _ _ _ _ _⟩
 have HN := Aside0.mk n0
 clear hw n0
 go_enter Tryd.func67, Tryd.ntmps67
 go_wp2_with (go_at_call 78; refine (UpdSize_calls HN.out 0).mono ?_; rintro e w1 ⟨rfl, ⟨c2', hN⟩, hKp⟩; have HN1 := Aside0.mk hN; clear hN)
 go_ret
 have e0 : newSz none 0 = 0 := by decide +kernel
 have hn := HN1.out
 rw [e0] at hn
 exact ⟨_, _, _, rfl, hn⟩
section
variable {w0 W : World} {g p : Nat} {d : Dat} {c1 c2 c3 : Value}
set_option maxHeartbeats 8000000 in
theorem FsData_calls (h : Nd w0 W g d p c1 c2 c3) : Calls Tryd.prog 105 #[.pointer (some ⟨g, 0, none⟩)] W fun e w' => e = .returned c1 ∧ w' = W := by
 have HN := Aside0.mk h
 clear h
 go_enter Tryd.func105, Tryd.ntmps105
 go_wp2_with (go_at_call 103; refine (GetData_calls HN.out.rd).mono ?_; rintro e w1 ⟨rfl, hw⟩; rw [hw]; clear hw)
 go_ret
 exact ⟨rfl, rfl⟩
set_option maxHeartbeats 8000000 in
theorem AddBlk_calls (h : Nd w0 W g d p c1 c2 c3) (x : Int) (hx : 0 ≤ x ∧ x < 18446744073709551616) (hm : d.blocks.length ≤ 1000000) : Calls Tryd.prog 69 #[.pointer (some ⟨g, 0, none⟩), .int .u64 x] W fun e w' => e = .returned (.tuple #[]) ∧ ∃ c2' c3', Nd w0 w' g { d with size := some (newSz d.size (wrap64 x)), blocks := d.blocks ++ [x] } p c1 c2' c3' := by
 have HN := Aside0.mk h
 have HM := Aside0.mk hm
 obtain ⟨y, hy⟩ : ∃ y : Int, wrap64 x = y := ⟨_, rfl⟩
 have hyw : IntKind.i64.wrap x = y := (i64_w _).trans hy
 have HY := Aside0.mk hy
 have info24 : (Tryd.prog.info? 24).map (fun i => (i.zero, i.size, i.bytes)) = some (some (.int .u64 0), 1, 8) := by kernel_rfl
 have I24 := Aside0.mk info24
 obtain ⟨A3, k3, rfl⟩ := Kd.R_slice h.blks
 clear h hm info24
 go_enter Tryd.func69, Tryd.ntmps69
 go_wp2_with (first
  | (go_at_call 78; refine (UpdSize_calls HN.out y).mono ?_; rintro e w1 ⟨rfl, ⟨c2', hN⟩, hKp⟩; have HN1 := Aside0.mk hN; have hg3 := (blk_cell hN.blk 3).trans rfl; have hg3f := blk_frozen hN.blk 3; clear hN)
  | (at_builtin; refine Kd.R_append (Kd.int .u64) (w0 := w0) w0.heap.size rfl (.tmp 13) (.tmp 15) 50 24 (.int .u64 0) 8 rfl Tryd.underlying50 I24.out rfl (by decide) (by decide) _ d.blocks x [.int .u64 x] (fun k => k ≠ g ∧ k ≠ p) (fun _ => False) rfl rfl rfl (fun _ hk => hk.elim) (fun k hk => ⟨fun e => by have := blk_lt HN1.out.blk; omega, fun e => by have := blk_lt HN1.out.ty; omega⟩) HN1.out.blks HN1.out.below HN1.out.below.size (by have := HM.out; omega) ?_; intro v1 wa hR hB hg hat; obtain ⟨A1, k1, rfl⟩ := Kd.R_slice hR; have HRa := Aside0.mk hR; have HBa := Aside0.mk hB; have HGa := Aside0.mk hg; have HAT := Aside0.mk hat; have hga_ := (hg.block g (blk_lt HN1.out.blk) (fun e => (HN1.out.blks.1 g e.symm).1 rfl)).trans HN1.out.blk; have hga := (blk_cell hga_ 3).trans rfl; have hgaf := blk_frozen hga_ 3; clear hR hB hg hat hga_))
 refine bodyPost_end (results_none rfl _ _ _) rfl ?_
 refine ⟨rfl, c2', .slice A1 (d.blocks ++ [x]).length k1, ?_⟩
 rw [HY.out]
 have hfin := HN1.out.setBlks (d.blocks ++ [x]) HGa.out HBa.out HRa.out (HAT.out.imp_right .inr)
 rw [List.length_append, List.length_singleton] at hfin ⊢
 exact hfin
set_option maxHeartbeats 8000000 in
theorem SetData_calls (h : Nd w0 W g d p c1 c2 c3) (A : Addr) (n c : Nat) (xs : List Int) (hn : xs.length = n) (hR : Kd.R (Kd.int .u8) 5 W w0.heap.size (fun k => k ≠ g) (.slice (some A) n c) xs) : Calls Tryd.prog 68 #[.pointer (some ⟨g, 0, none⟩), .slice (some A) n c] W fun e w' => e = .returned (.tuple #[]) ∧ ∃ c2' z, z = wrap64 ((xs.length : Int) - (((d.data.getD []).length : Nat) : Int)) ∧ Nd w0 w' g { d with size := some (newSz d.size z), data := some xs } p (.slice (some A) n c) c2' c3 := by
 subst hn
 have HN := Aside0.mk h
 have HR := Aside0.mk hR
 obtain ⟨m, hm⟩ : ∃ m : Nat, m = (d.data.getD []).length := ⟨_, rfl⟩
 have HM := Aside0.mk hm
 have hc1 : ∃ A1 k1, c1 = .slice A1 m k1 := by
  cases hd : d.data with
  | none => rw [hd] at hm; exact ⟨none, 0, by rw [h.data0 hd, hm]; rfl⟩
  | some ys => rw [hd] at hm; obtain ⟨A1, k1, e, _⟩ := h.data1 ys hd; exact ⟨_, k1, by rw [e, hm]; rfl⟩
 obtain ⟨A1, k1, rfl⟩ := hc1
 obtain ⟨z, hz⟩ : ∃ z : Int, wrap64 ((xs.length : Int) - (m : Int)) = z := ⟨_, rfl⟩
 have hzw : IntKind.i64.wrap ((xs.length : Int) - (m : Int)) = z := (i64_w _).trans hz
 have HZ := Aside0.mk hz
 clear h hR hm
 go_enter Tryd.func68, Tryd.ntmps68
 go_wp2_with (first
  | (go_at_call 105; refine (FsData_calls HN.out).mono ?_; rintro e w1 ⟨rfl, hw⟩; rw [hw]; clear hw)
  | (go_at_call 78; refine (UpdSize_calls HN.out z).mono ?_; rintro e w1 ⟨rfl, ⟨c2', hN⟩, hKp⟩; have HN1 := Aside0.mk hN; have HKp := Aside0.mk hKp; clear hKp; have hg1 := (blk_cell hN.blk 1).trans rfl; have hg1f := blk_frozen hN.blk 1; clear hN))
 refine bodyPost_end (results_none rfl _ _ _) rfl ?_
 refine ⟨rfl, c2', z, by rw [← HM.out]; exact HZ.out.symm, ?_⟩
 exact HN1.out.setData A c xs (HKp.out.row HR.out)
end
set_option maxHeartbeats 8000000 in
theorem GetBytes_calls {w0 W : World} {g p : Nat} {d : Dat} {c1 c2 c3 : Value} (h : Nd w0 W g d p c1 c2 c3) (hf : Fit d) (hs : d.size ≠ none) : Calls Tryd.prog 70 #[.pointer (some ⟨g, 0, none⟩)] W fun e w' => ∃ gb cap, e = .returned (.tuple #[.slice (some ⟨gb, 0, none⟩) (marsh d).length cap, .nilIface]) ∧ Kd.R (Kd.int .u8) 5 w' W.heap.size (fun k => k = gb) (.slice (some ⟨gb, 0, none⟩) (marsh d).length cap) (marsh d) ∧ Below W.heap.size W w' := by
 obtain ⟨m, hm⟩ : ∃ m, d.size = some m := by cases h0 : d.size with | none => exact absurd h0 hs | some m => exact ⟨m, rfl⟩
 have hmar : Calls Tryd.prog 101 #[.pointer (some ⟨g, 0, none⟩)] W fun e w' => ∃ gb cap, e = .returned (.tuple #[.slice (some ⟨gb, 0, none⟩) (marsh d).length cap, .nilIface]) ∧ Kd.R (Kd.int .u8) 5 w' W.heap.size (fun k => k = gb) (.slice (some ⟨gb, 0, none⟩) (marsh d).length cap) (marsh d) ∧ Below W.heap.size W w' := by
  rcases Nat.eq_zero_or_pos d.blocks.length with h0 | h0
  ·cases hd : d.data with
   | none => exact Mar_010 W g p d _ _ _ 167 h.rd hf hd m hm h0
   | some xs => exact Mar_110 W g p d _ _ _ 167 h.rd hf xs hd m hm h0
  ·cases hd : d.data with
   | none => exact Mar_011 W g p d _ _ _ 167 h.rd hf hd m hm h0
   | some xs => exact Mar_111 W g p d _ _ _ 167 h.rd hf xs hd m hm h0
 have HM := Aside0.mk hmar
 clear hmar h hf hs hm
 go_enter Tryd.func70, Tryd.ntmps70
 go_wp2_with (go_at_call 101; refine HM.out.mono ?_; rintro e w1 ⟨gb, cap, rfl, hR, hB⟩; have HR := Aside0.mk hR; have HB := Aside0.mk hB; clear hR hB)
 go_ret2
 exact ⟨_, _, rfl, HR.out, HB.out⟩
end Go.Proofs.YtnhnlodmkbiiiaaDoor.HandFields
