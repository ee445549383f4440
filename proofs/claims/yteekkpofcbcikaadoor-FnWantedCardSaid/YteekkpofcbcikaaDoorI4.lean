/- Adding to a want list. -/
import Derived.Test.YteekkpofcbcikaaDoorI3
namespace Go.Proofs.YteekkpofcbcikaaDoor.HandWan
open Go Go.RowKit Go.Proofs.YteekkpofcbcikaaDoorL Go.Proofs.YteekkpofcbcikaaDoorW.PrintWords Go.Proofs.YteekkpofcbcikaaDoorW.PrintLast Go.Proofs.YteekkpofcbcikaaDoorW.PrintMore
attribute [local go_sem] max2_int min2_int max_two min_two max_three min_three max_four min_four
set_option linter.unusedVariables false
set_option linter.unusedSimpArgs false
def addB (f : WF) (s : ByteArray) (t : Int) : Bool := match f s with | none => true | some (_, t0) => !(t0 == 0 || t == 1)
def addF (f : WF) (s : ByteArray) (p t : Int) : WF := if addB f s t = true then fput f s p t else f
def addC (f : WF) (s : ByteArray) (t : Int) (c : Nat) : Nat := if addB f s t = true then cput f s c else c
set_option maxHeartbeats 8000000 in
set_option maxRecDepth 100000 in
theorem add_new (w : World) (g b n c : Nat) (f : WF) (h : WL w g b n f c) (hn : n < maxLen) (s : ByteArray) (hs : s.size ≤ maxLen) (p t : Int) (hf : f s = none) :
    Calls Tryd.prog 36 #[.pointer (some ⟨g, 0, none⟩), .agg #[.string s], .int .i32 p, .int .i32 t] w fun e w' => e = .returned (.bool true) ∧ WL w' g b (n + 1) (fput f s p t) (cput f s c) ∧ Frm w w' g b := by
  obtain ⟨wp, hwp⟩ : ∃ wp, wp = w.alloc (.cells #[.string s] 81) := ⟨_, rfl⟩
  have HWp : Aside0 (WL wp g b n f c) := ⟨by rw [hwp]; exact h.below (below_alloc (Below.refl _ _) _)⟩
  have HFp : Aside0 (Frm w wp g b) := ⟨by rw [hwp]; exact Frm.of_below (below_alloc (Below.refl _ _) _) g b⟩
  have hc0 : wp.heap[w.heap.size]? = some (.cells #[.string s] 81 (0, 0)) := by rw [hwp]; exact blk_new w _
  have HC0 := Aside0.mk hc0
  have HS := Aside0.mk hs
  have HN := Aside0.mk hn
  have HFS := Aside0.mk hf
  clear h hs hn hc0 hf
  go_enter Tryd.func36, Tryd.ntmps36
  go_upto_region 1 with fail
  rw [← hwp]
  clear hwp
  have HWd : Aside0 (WL wp.drew g b n f c) := ⟨HWp.out.below (below_drew (Below.refl _ _))⟩
  have hz0 : wp.drew.cell? ⟨g, 0, none⟩ = some (.map (some b)) := (blk_cell HWd.out.blk 0).trans rfl
  have hz1 : wp.drew.cell? ⟨w.heap.size, 0, none⟩ = some (.string s) := (blk_cell (blk_drew HC0.out) 0).trans rfl
  have hz2 := wmap_run_miss (HWd.out.map) s HS.out HFS.out
  have HWa : Aside0 (WL (wp.drew.alloc (.cells #[.string ⟨#[]⟩, .int .i32 0, .int .i32 0] 92)) g b n f c) := ⟨HWd.out.below (below_alloc (Below.refl _ _) _)⟩
  have HA0 := Aside0.mk HWa.out.blk
  have HA1 := Aside0.mk (blk_alloc (blk_drew HC0.out) (.cells #[.string ⟨#[]⟩, .int .i32 0, .int .i32 0] 92))
  refine start_ (n := 12) (S := fun w' => w'.cell? ⟨g, 0, none⟩ = some (.map (some b)) ∧ w'.cell? ⟨w.heap.size, 0, none⟩ = some (.string s) ∧ (Instr.lookup 139 (.map (some b)) (.agg #[.string s]) true).run Tryd.prog w' = .ok (.tuple #[.agg #[.string ⟨#[]⟩, .int .i32 0, .int .i32 0], .bool false]) w') (ds := [10]) #[false, false, false, false, false, false, false, false, false, false, false, false] (by kernel_rfl) rfl rfl ⟨hz0, hz1, hz2⟩ (fun hHeld => ?_)
  refine pure_ (i := 0) (N := some 12) (v := ?_) (a' := ?_) #[true, false, false, false, false, false, false, false, false, false, false, false] rfl rfl (by kernel_rfl) (fun _ _ _ h => h) (Or.inl ⟨by rfl, ?_⟩) ?_ ?_
  rotate_left
  · intro w'
    go_simp
    with_reducible rfl
  rotate_left
  · simp only [Act.put, List.setIfInBounds_toArray, List.set_cons_zero, List.set_cons_succ, i64_w, i32_w]
    rfl
  refine pure_ (i := 1) (N := some 13) (v := ?_) (a' := ?_) #[true, true, false, false, false, false, false, false, false, false, false, false] rfl rfl (by kernel_rfl) (fun _ _ _ h => h) (Or.inl ⟨by rfl, ?_⟩) ?_ ?_
  rotate_left
  · intro w'
    go_simp
    with_reducible rfl
  rotate_left
  · simp only [Act.put, List.setIfInBounds_toArray, List.set_cons_zero, List.set_cons_succ, i64_w, i32_w]
    rfl
  refine pure_ (i := 2) (N := some 14) (v := ?_) (a' := ?_) #[true, true, true, false, false, false, false, false, false, false, false, false] rfl rfl (by kernel_rfl) (fun _ _ _ h => h) (Or.inl ⟨by rfl, ?_⟩) ?_ ?_
  rotate_left
  · intro w'
    go_simp
    with_reducible rfl
  rotate_left
  · simp only [Act.put, List.setIfInBounds_toArray, List.set_cons_zero, List.set_cons_succ, i64_w, i32_w]
    rfl
  refine take_ (i := 3) (N := some 15) (v := ?_) (a' := ?_) #[true, true, true, true, false, false, false, false, false, false, false, false] rfl rfl (by kernel_rfl) (fun _ _ _ h => h) (Or.inl ⟨by rfl, ?_⟩) hHeld ?_ ?_
  rotate_left
  · rintro w' ⟨s0, s1, s2⟩
    go_simp
    with_reducible rfl
  rotate_left
  · simp only [Act.put, List.setIfInBounds_toArray, List.set_cons_zero, List.set_cons_succ, i64_w, i32_w]
    rfl
  refine take_ (i := 4) (N := some 16) (v := ?_) (a' := ?_) #[true, true, true, true, true, false, false, false, false, false, false, false] rfl rfl (by kernel_rfl) (fun _ _ _ h => h) (Or.inl ⟨by rfl, ?_⟩) hHeld ?_ ?_
  rotate_left
  · rintro w' ⟨s0, s1, s2⟩
    go_simp
    with_reducible rfl
  rotate_left
  · simp only [Act.put, List.setIfInBounds_toArray, List.set_cons_zero, List.set_cons_succ, i64_w, i32_w]
    rfl
  refine take_ (i := 5) (N := some 17) (v := ?_) (a' := ?_) #[true, true, true, true, true, true, false, false, false, false, false, false] rfl rfl (by kernel_rfl) (fun _ _ _ h => h) (Or.inl ⟨by rfl, ?_⟩) hHeld ?_ ?_
  rotate_left
  · rintro w' ⟨s0, s1, s2⟩
    go_simp
    with_reducible rfl
  rotate_left
  · simp only [Act.put, List.setIfInBounds_toArray, List.set_cons_zero, List.set_cons_succ, i64_w, i32_w]
    rfl
  refine pure_ (i := 6) (N := some 11) (v := ?_) (a' := ?_) #[true, true, true, true, true, true, true, false, false, false, false, false] rfl rfl (by kernel_rfl) (fun _ _ _ h => h) (Or.inl ⟨by rfl, ?_⟩) ?_ ?_
  rotate_left
  · intro w'
    go_simp
    with_reducible rfl
  rotate_left
  · simp only [Act.put, List.setIfInBounds_toArray, List.set_cons_zero, List.set_cons_succ, i64_w, i32_w]
    rfl
  refine pure_ (i := 7) (N := some 18) (v := ?_) (a' := ?_) #[true, true, true, true, true, true, true, true, false, false, false, false] rfl rfl (by kernel_rfl) (fun _ _ _ h => h) (Or.inl ⟨by rfl, ?_⟩) ?_ ?_
  rotate_left
  · intro w'
    go_simp
    with_reducible rfl
  rotate_left
  · simp only [Act.put, List.setIfInBounds_toArray, List.set_cons_zero, List.set_cons_succ, i64_w, i32_w]
    rfl
  refine pure_ (i := 8) (N := some 19) (v := ?_) (a' := ?_) #[true, true, true, true, true, true, true, true, true, false, false, false] rfl rfl (by kernel_rfl) (fun _ _ _ h => h) (Or.inl ⟨by rfl, ?_⟩) ?_ ?_
  rotate_left
  · intro w'
    go_simp
    with_reducible rfl
  rotate_left
  · simp only [Act.put, List.setIfInBounds_toArray, List.set_cons_zero, List.set_cons_succ, i64_w, i32_w]
    rfl
  refine one_ (i := 9) (N := some 9) #[true, true, true, true, true, true, true, true, true, true, false, false] rfl rfl (by kernel_rfl) (by decide) (fun K hK => ?_)
  refine value_ (w1 := ?_) (v := ?_) (by rfl) rfl ?_ ?_
  rotate_left 2
  · go_simp
    constructor
    · rfl
    · rfl
  refine hK.out _ _ ⟨(blk_cell HA0.out 0).trans rfl, (blk_cell HA1.out 0).trans rfl, wmap_run_miss (HWa.out.map) s HS.out HFS.out⟩ (fun hHeld => ?_)
  clear hK K
  refine norm_ (a' := ?_) ?_ ?_
  rotate_left
  · show Act.put _ (some 9) _ = _
    simp only [Act.put, List.setIfInBounds_toArray, List.set_cons_zero, List.set_cons_succ, i64_w, i32_w]
    rfl
  refine last_ (i := 10) (N := none) #[true, true, true, true, true, true, true, true, true, true, true, false] rfl rfl (by kernel_rfl) (by decide) (fun K hK => ?_)
  refine skip_ (w1 := ?_) (by rfl) rfl ?_ ?_
  rotate_left
  · go_simp
    rfl
  refine hK.out _ _ ?_
  clear hK K
  refine pure_ (i := 11) (N := some 10) (v := ?_) (a' := ?_) #[true, true, true, true, true, true, true, true, true, true, true, true] rfl rfl (by kernel_rfl) (fun _ _ _ h => h) (Or.inl ⟨by rfl, ?_⟩) ?_ ?_
  rotate_left
  · intro w'
    go_simp
    with_reducible rfl
  rotate_left
  · simp only [Act.put, List.setIfInBounds_toArray, List.set_cons_zero, List.set_cons_succ, i64_w, i32_w]
    rfl
  refine done_ (by kernel_rfl) ?_
  obtain ⟨wq, hwq⟩ : ∃ wq, wq = (wp.alloc (.cells #[.string ⟨#[]⟩, .int .i32 0, .int .i32 0] 92)).drew := ⟨_, rfl⟩
  have HBq : Below wp.heap.size wp wq := by rw [hwq]; exact below_drew (below_alloc (Below.refl _ _) _)
  have HWq : Aside0 (WL wq g b n f c) := ⟨HWp.out.below HBq⟩
  have HFq : Aside0 (Frm w wq g b) := ⟨HFp.out.trans (Frm.of_below HBq g b)⟩
  have HQ0 : Aside0 (wq.heap[wp.heap.size]? = some (.cells #[.string ⟨#[]⟩, .int .i32 0, .int .i32 0] 92 (0, 0))) := ⟨by rw [hwq]; exact blk_drew (blk_new wp _)⟩
  have HQ1 : Aside0 (wq.heap[w.heap.size]? = some (.cells #[.string s] 81 (0, 0))) := ⟨(HBq.block _ (blk_lt HC0.out)).trans HC0.out⟩
  have hq0 := (blk_cell HQ0.out 0).trans rfl
  have hq1 := (blk_cell HQ0.out 1).trans rfl
  have hq2 := (blk_cell HQ0.out 2).trans rfl
  have hq3 := (blk_cell HQ1.out 0).trans rfl
  rw [← hwq]
  clear hwq HBq hz0 hz1 hz2 hHeld HWa HA0 HA1
  go_wp2_with (go_at_call 77; refine (put_calls wq g b n c f HWq.out HN.out s HS.out p t).mono ?_; rintro e w6 ⟨rfl, hw, hf6⟩; have HW6 := Aside0.mk hw; have HF6 := Aside0.mk (HFq.out.trans hf6); clear hw hf6)
  go_ret
  exact ⟨rfl, HW6.out, HF6.out⟩
set_option maxHeartbeats 8000000 in
set_option maxRecDepth 100000 in
theorem add_over (w : World) (g b n c : Nat) (f : WF) (h : WL w g b n f c) (hn : n < maxLen) (s : ByteArray) (hs : s.size ≤ maxLen) (p t p0 t0 : Int) (hf : f s = some (p0, t0)) (h0 : t0 ≠ 0) (h1 : t ≠ 1) :
    Calls Tryd.prog 36 #[.pointer (some ⟨g, 0, none⟩), .agg #[.string s], .int .i32 p, .int .i32 t] w fun e w' => e = .returned (.bool true) ∧ WL w' g b (n + 1) (fput f s p t) (cput f s c) ∧ Frm w w' g b := by
  obtain ⟨wp, hwp⟩ : ∃ wp, wp = w.alloc (.cells #[.string s] 81) := ⟨_, rfl⟩
  have HWp : Aside0 (WL wp g b n f c) := ⟨by rw [hwp]; exact h.below (below_alloc (Below.refl _ _) _)⟩
  have HFp : Aside0 (Frm w wp g b) := ⟨by rw [hwp]; exact Frm.of_below (below_alloc (Below.refl _ _) _) g b⟩
  have hc0 : wp.heap[w.heap.size]? = some (.cells #[.string s] 81 (0, 0)) := by rw [hwp]; exact blk_new w _
  have HC0 := Aside0.mk hc0
  have HS := Aside0.mk hs
  have HN := Aside0.mk hn
  have HFS := Aside0.mk hf
  clear h hs hn hc0 hf
  go_enter Tryd.func36, Tryd.ntmps36
  go_upto_region 1 with fail
  rw [← hwp]
  clear hwp
  have c0 : (t0 == 0) = false := beq_eq_false_iff_ne.mpr h0
  have c1 : (t == 1) = false := beq_eq_false_iff_ne.mpr h1
  clear h0 h1
  have HWd : Aside0 (WL wp.drew g b n f c) := ⟨HWp.out.below (below_drew (Below.refl _ _))⟩
  have hz0 : wp.drew.cell? ⟨g, 0, none⟩ = some (.map (some b)) := (blk_cell HWd.out.blk 0).trans rfl
  have hz1 : wp.drew.cell? ⟨w.heap.size, 0, none⟩ = some (.string s) := (blk_cell (blk_drew HC0.out) 0).trans rfl
  have hz2 := wmap_run_hit (HWd.out.map) s HS.out p0 t0 HFS.out
  have HWa : Aside0 (WL (wp.drew.alloc (.cells #[.string ⟨#[]⟩, .int .i32 0, .int .i32 0] 92)) g b n f c) := ⟨HWd.out.below (below_alloc (Below.refl _ _) _)⟩
  have HA0 := Aside0.mk HWa.out.blk
  have HA1 := Aside0.mk (blk_alloc (blk_drew HC0.out) (.cells #[.string ⟨#[]⟩, .int .i32 0, .int .i32 0] 92))
  refine start_ (n := 12) (S := fun w' => w'.cell? ⟨g, 0, none⟩ = some (.map (some b)) ∧ w'.cell? ⟨w.heap.size, 0, none⟩ = some (.string s) ∧ (Instr.lookup 139 (.map (some b)) (.agg #[.string s]) true).run Tryd.prog w' = .ok (.tuple #[.agg #[.string s, .int .i32 p0, .int .i32 t0], .bool true]) w') (ds := [10]) #[false, false, false, false, false, false, false, false, false, false, false, false] (by kernel_rfl) rfl rfl ⟨hz0, hz1, hz2⟩ (fun hHeld => ?_)
  refine pure_ (i := 0) (N := some 12) (v := ?_) (a' := ?_) #[true, false, false, false, false, false, false, false, false, false, false, false] rfl rfl (by kernel_rfl) (fun _ _ _ h => h) (Or.inl ⟨by rfl, ?_⟩) ?_ ?_
  rotate_left
  · intro w'
    go_simp
    with_reducible rfl
  rotate_left
  · simp only [Act.put, List.setIfInBounds_toArray, List.set_cons_zero, List.set_cons_succ, i64_w, i32_w]
    rfl
  refine pure_ (i := 1) (N := some 13) (v := ?_) (a' := ?_) #[true, true, false, false, false, false, false, false, false, false, false, false] rfl rfl (by kernel_rfl) (fun _ _ _ h => h) (Or.inl ⟨by rfl, ?_⟩) ?_ ?_
  rotate_left
  · intro w'
    go_simp
    with_reducible rfl
  rotate_left
  · simp only [Act.put, List.setIfInBounds_toArray, List.set_cons_zero, List.set_cons_succ, i64_w, i32_w]
    rfl
  refine pure_ (i := 2) (N := some 14) (v := ?_) (a' := ?_) #[true, true, true, false, false, false, false, false, false, false, false, false] rfl rfl (by kernel_rfl) (fun _ _ _ h => h) (Or.inl ⟨by rfl, ?_⟩) ?_ ?_
  rotate_left
  · intro w'
    go_simp
    with_reducible rfl
  rotate_left
  · simp only [Act.put, List.setIfInBounds_toArray, List.set_cons_zero, List.set_cons_succ, i64_w, i32_w]
    rfl
  refine take_ (i := 3) (N := some 15) (v := ?_) (a' := ?_) #[true, true, true, true, false, false, false, false, false, false, false, false] rfl rfl (by kernel_rfl) (fun _ _ _ h => h) (Or.inl ⟨by rfl, ?_⟩) hHeld ?_ ?_
  rotate_left
  · rintro w' ⟨s0, s1, s2⟩
    go_simp
    with_reducible rfl
  rotate_left
  · simp only [Act.put, List.setIfInBounds_toArray, List.set_cons_zero, List.set_cons_succ, i64_w, i32_w]
    rfl
  refine take_ (i := 4) (N := some 16) (v := ?_) (a' := ?_) #[true, true, true, true, true, false, false, false, false, false, false, false] rfl rfl (by kernel_rfl) (fun _ _ _ h => h) (Or.inl ⟨by rfl, ?_⟩) hHeld ?_ ?_
  rotate_left
  · rintro w' ⟨s0, s1, s2⟩
    go_simp
    with_reducible rfl
  rotate_left
  · simp only [Act.put, List.setIfInBounds_toArray, List.set_cons_zero, List.set_cons_succ, i64_w, i32_w]
    rfl
  refine take_ (i := 5) (N := some 17) (v := ?_) (a' := ?_) #[true, true, true, true, true, true, false, false, false, false, false, false] rfl rfl (by kernel_rfl) (fun _ _ _ h => h) (Or.inl ⟨by rfl, ?_⟩) hHeld ?_ ?_
  rotate_left
  · rintro w' ⟨s0, s1, s2⟩
    go_simp
    with_reducible rfl
  rotate_left
  · simp only [Act.put, List.setIfInBounds_toArray, List.set_cons_zero, List.set_cons_succ, i64_w, i32_w]
    rfl
  refine pure_ (i := 6) (N := some 11) (v := ?_) (a' := ?_) #[true, true, true, true, true, true, true, false, false, false, false, false] rfl rfl (by kernel_rfl) (fun _ _ _ h => h) (Or.inl ⟨by rfl, ?_⟩) ?_ ?_
  rotate_left
  · intro w'
    go_simp
    with_reducible rfl
  rotate_left
  · simp only [Act.put, List.setIfInBounds_toArray, List.set_cons_zero, List.set_cons_succ, i64_w, i32_w]
    rfl
  refine pure_ (i := 7) (N := some 18) (v := ?_) (a' := ?_) #[true, true, true, true, true, true, true, true, false, false, false, false] rfl rfl (by kernel_rfl) (fun _ _ _ h => h) (Or.inl ⟨by rfl, ?_⟩) ?_ ?_
  rotate_left
  · intro w'
    go_simp
    with_reducible rfl
  rotate_left
  · simp only [Act.put, List.setIfInBounds_toArray, List.set_cons_zero, List.set_cons_succ, i64_w, i32_w]
    rfl
  refine pure_ (i := 8) (N := some 19) (v := ?_) (a' := ?_) #[true, true, true, true, true, true, true, true, true, false, false, false] rfl rfl (by kernel_rfl) (fun _ _ _ h => h) (Or.inl ⟨by rfl, ?_⟩) ?_ ?_
  rotate_left
  · intro w'
    go_simp
    with_reducible rfl
  rotate_left
  · simp only [Act.put, List.setIfInBounds_toArray, List.set_cons_zero, List.set_cons_succ, i64_w, i32_w]
    rfl
  refine one_ (i := 9) (N := some 9) #[true, true, true, true, true, true, true, true, true, true, false, false] rfl rfl (by kernel_rfl) (by decide) (fun K hK => ?_)
  refine value_ (w1 := ?_) (v := ?_) (by rfl) rfl ?_ ?_
  rotate_left 2
  · go_simp
    constructor
    · rfl
    · rfl
  refine hK.out _ _ ⟨(blk_cell HA0.out 0).trans rfl, (blk_cell HA1.out 0).trans rfl, wmap_run_hit (HWa.out.map) s HS.out p0 t0 HFS.out⟩ (fun hHeld => ?_)
  clear hK K
  refine norm_ (a' := ?_) ?_ ?_
  rotate_left
  · show Act.put _ (some 9) _ = _
    simp only [Act.put, List.setIfInBounds_toArray, List.set_cons_zero, List.set_cons_succ, i64_w, i32_w]
    rfl
  refine last_ (i := 10) (N := none) #[true, true, true, true, true, true, true, true, true, true, true, false] rfl rfl (by kernel_rfl) (by decide) (fun K hK => ?_)
  refine skip_ (w1 := ?_) (by rfl) rfl ?_ ?_
  rotate_left
  · go_simp
    rfl
  refine hK.out _ _ ?_
  clear hK K
  refine pure_ (i := 11) (N := some 10) (v := ?_) (a' := ?_) #[true, true, true, true, true, true, true, true, true, true, true, true] rfl rfl (by kernel_rfl) (fun _ _ _ h => h) (Or.inl ⟨by rfl, ?_⟩) ?_ ?_
  rotate_left
  · intro w'
    go_simp
    with_reducible rfl
  rotate_left
  · simp only [Act.put, List.setIfInBounds_toArray, List.set_cons_zero, List.set_cons_succ, i64_w, i32_w]
    rfl
  refine done_ (by kernel_rfl) ?_
  obtain ⟨wq, hwq⟩ : ∃ wq, wq = (wp.alloc (.cells #[.string s, .int .i32 p0, .int .i32 t0] 92)).drew := ⟨_, rfl⟩
  have HBq : Below wp.heap.size wp wq := by rw [hwq]; exact below_drew (below_alloc (Below.refl _ _) _)
  have HWq : Aside0 (WL wq g b n f c) := ⟨HWp.out.below HBq⟩
  have HFq : Aside0 (Frm w wq g b) := ⟨HFp.out.trans (Frm.of_below HBq g b)⟩
  have HQ0 : Aside0 (wq.heap[wp.heap.size]? = some (.cells #[.string s, .int .i32 p0, .int .i32 t0] 92 (0, 0))) := ⟨by rw [hwq]; exact blk_drew (blk_new wp _)⟩
  have HQ1 : Aside0 (wq.heap[w.heap.size]? = some (.cells #[.string s] 81 (0, 0))) := ⟨(HBq.block _ (blk_lt HC0.out)).trans HC0.out⟩
  have hq0 := (blk_cell HQ0.out 0).trans rfl
  have hq1 := (blk_cell HQ0.out 1).trans rfl
  have hq2 := (blk_cell HQ0.out 2).trans rfl
  have hq3 := (blk_cell HQ1.out 0).trans rfl
  rw [← hwq]
  clear hwq HBq hz0 hz1 hz2 hHeld HWa HA0 HA1
  go_wp2_with (go_at_call 77; refine (put_calls wq g b n c f HWq.out HN.out s HS.out p t).mono ?_; rintro e w6 ⟨rfl, hw, hf6⟩; have HW6 := Aside0.mk hw; have HF6 := Aside0.mk (HFq.out.trans hf6); clear hw hf6)
  go_ret
  exact ⟨rfl, HW6.out, HF6.out⟩
set_option maxHeartbeats 8000000 in
set_option maxRecDepth 100000 in
theorem add_block (w : World) (g b n c : Nat) (f : WF) (h : WL w g b n f c) (hn : n < maxLen) (s : ByteArray) (hs : s.size ≤ maxLen) (p t p0 t0 : Int) (hf : f s = some (p0, t0)) (h0 : t0 = 0) :
    Calls Tryd.prog 36 #[.pointer (some ⟨g, 0, none⟩), .agg #[.string s], .int .i32 p, .int .i32 t] w fun e w' => e = .returned (.bool false) ∧ WL w' g b n f c ∧ Frm w w' g b := by
  obtain ⟨wp, hwp⟩ : ∃ wp, wp = w.alloc (.cells #[.string s] 81) := ⟨_, rfl⟩
  have HWp : Aside0 (WL wp g b n f c) := ⟨by rw [hwp]; exact h.below (below_alloc (Below.refl _ _) _)⟩
  have HFp : Aside0 (Frm w wp g b) := ⟨by rw [hwp]; exact Frm.of_below (below_alloc (Below.refl _ _) _) g b⟩
  have hc0 : wp.heap[w.heap.size]? = some (.cells #[.string s] 81 (0, 0)) := by rw [hwp]; exact blk_new w _
  have HC0 := Aside0.mk hc0
  have HS := Aside0.mk hs
  have HN := Aside0.mk hn
  have HFS := Aside0.mk hf
  clear h hs hn hc0 hf
  go_enter Tryd.func36, Tryd.ntmps36
  go_upto_region 1 with fail
  rw [← hwp]
  clear hwp
  subst h0
  have HWd : Aside0 (WL wp.drew g b n f c) := ⟨HWp.out.below (below_drew (Below.refl _ _))⟩
  have hz0 : wp.drew.cell? ⟨g, 0, none⟩ = some (.map (some b)) := (blk_cell HWd.out.blk 0).trans rfl
  have hz1 : wp.drew.cell? ⟨w.heap.size, 0, none⟩ = some (.string s) := (blk_cell (blk_drew HC0.out) 0).trans rfl
  have hz2 := wmap_run_hit (HWd.out.map) s HS.out p0 0 HFS.out
  have HWa : Aside0 (WL (wp.drew.alloc (.cells #[.string ⟨#[]⟩, .int .i32 0, .int .i32 0] 92)) g b n f c) := ⟨HWd.out.below (below_alloc (Below.refl _ _) _)⟩
  have HA0 := Aside0.mk HWa.out.blk
  have HA1 := Aside0.mk (blk_alloc (blk_drew HC0.out) (.cells #[.string ⟨#[]⟩, .int .i32 0, .int .i32 0] 92))
  refine start_ (n := 12) (S := fun w' => w'.cell? ⟨g, 0, none⟩ = some (.map (some b)) ∧ w'.cell? ⟨w.heap.size, 0, none⟩ = some (.string s) ∧ (Instr.lookup 139 (.map (some b)) (.agg #[.string s]) true).run Tryd.prog w' = .ok (.tuple #[.agg #[.string s, .int .i32 p0, .int .i32 0], .bool true]) w') (ds := [10]) #[false, false, false, false, false, false, false, false, false, false, false, false] (by kernel_rfl) rfl rfl ⟨hz0, hz1, hz2⟩ (fun hHeld => ?_)
  refine pure_ (i := 0) (N := some 12) (v := ?_) (a' := ?_) #[true, false, false, false, false, false, false, false, false, false, false, false] rfl rfl (by kernel_rfl) (fun _ _ _ h => h) (Or.inl ⟨by rfl, ?_⟩) ?_ ?_
  rotate_left
  · intro w'
    go_simp
    with_reducible rfl
  rotate_left
  · simp only [Act.put, List.setIfInBounds_toArray, List.set_cons_zero, List.set_cons_succ, i64_w, i32_w]
    rfl
  refine pure_ (i := 1) (N := some 13) (v := ?_) (a' := ?_) #[true, true, false, false, false, false, false, false, false, false, false, false] rfl rfl (by kernel_rfl) (fun _ _ _ h => h) (Or.inl ⟨by rfl, ?_⟩) ?_ ?_
  rotate_left
  · intro w'
    go_simp
    with_reducible rfl
  rotate_left
  · simp only [Act.put, List.setIfInBounds_toArray, List.set_cons_zero, List.set_cons_succ, i64_w, i32_w]
    rfl
  refine pure_ (i := 2) (N := some 14) (v := ?_) (a' := ?_) #[true, true, true, false, false, false, false, false, false, false, false, false] rfl rfl (by kernel_rfl) (fun _ _ _ h => h) (Or.inl ⟨by rfl, ?_⟩) ?_ ?_
  rotate_left
  · intro w'
    go_simp
    with_reducible rfl
  rotate_left
  · simp only [Act.put, List.setIfInBounds_toArray, List.set_cons_zero, List.set_cons_succ, i64_w, i32_w]
    rfl
  refine take_ (i := 3) (N := some 15) (v := ?_) (a' := ?_) #[true, true, true, true, false, false, false, false, false, false, false, false] rfl rfl (by kernel_rfl) (fun _ _ _ h => h) (Or.inl ⟨by rfl, ?_⟩) hHeld ?_ ?_
  rotate_left
  · rintro w' ⟨s0, s1, s2⟩
    go_simp
    with_reducible rfl
  rotate_left
  · simp only [Act.put, List.setIfInBounds_toArray, List.set_cons_zero, List.set_cons_succ, i64_w, i32_w]
    rfl
  refine take_ (i := 4) (N := some 16) (v := ?_) (a' := ?_) #[true, true, true, true, true, false, false, false, false, false, false, false] rfl rfl (by kernel_rfl) (fun _ _ _ h => h) (Or.inl ⟨by rfl, ?_⟩) hHeld ?_ ?_
  rotate_left
  · rintro w' ⟨s0, s1, s2⟩
    go_simp
    with_reducible rfl
  rotate_left
  · simp only [Act.put, List.setIfInBounds_toArray, List.set_cons_zero, List.set_cons_succ, i64_w, i32_w]
    rfl
  refine take_ (i := 5) (N := some 17) (v := ?_) (a' := ?_) #[true, true, true, true, true, true, false, false, false, false, false, false] rfl rfl (by kernel_rfl) (fun _ _ _ h => h) (Or.inl ⟨by rfl, ?_⟩) hHeld ?_ ?_
  rotate_left
  · rintro w' ⟨s0, s1, s2⟩
    go_simp
    with_reducible rfl
  rotate_left
  · simp only [Act.put, List.setIfInBounds_toArray, List.set_cons_zero, List.set_cons_succ, i64_w, i32_w]
    rfl
  refine pure_ (i := 6) (N := some 11) (v := ?_) (a' := ?_) #[true, true, true, true, true, true, true, false, false, false, false, false] rfl rfl (by kernel_rfl) (fun _ _ _ h => h) (Or.inl ⟨by rfl, ?_⟩) ?_ ?_
  rotate_left
  · intro w'
    go_simp
    with_reducible rfl
  rotate_left
  · simp only [Act.put, List.setIfInBounds_toArray, List.set_cons_zero, List.set_cons_succ, i64_w, i32_w]
    rfl
  refine pure_ (i := 7) (N := some 18) (v := ?_) (a' := ?_) #[true, true, true, true, true, true, true, true, false, false, false, false] rfl rfl (by kernel_rfl) (fun _ _ _ h => h) (Or.inl ⟨by rfl, ?_⟩) ?_ ?_
  rotate_left
  · intro w'
    go_simp
    with_reducible rfl
  rotate_left
  · simp only [Act.put, List.setIfInBounds_toArray, List.set_cons_zero, List.set_cons_succ, i64_w, i32_w]
    rfl
  refine pure_ (i := 8) (N := some 19) (v := ?_) (a' := ?_) #[true, true, true, true, true, true, true, true, true, false, false, false] rfl rfl (by kernel_rfl) (fun _ _ _ h => h) (Or.inl ⟨by rfl, ?_⟩) ?_ ?_
  rotate_left
  · intro w'
    go_simp
    with_reducible rfl
  rotate_left
  · simp only [Act.put, List.setIfInBounds_toArray, List.set_cons_zero, List.set_cons_succ, i64_w, i32_w]
    rfl
  refine one_ (i := 9) (N := some 9) #[true, true, true, true, true, true, true, true, true, true, false, false] rfl rfl (by kernel_rfl) (by decide) (fun K hK => ?_)
  refine value_ (w1 := ?_) (v := ?_) (by rfl) rfl ?_ ?_
  rotate_left 2
  · go_simp
    constructor
    · rfl
    · rfl
  refine hK.out _ _ ⟨(blk_cell HA0.out 0).trans rfl, (blk_cell HA1.out 0).trans rfl, wmap_run_hit (HWa.out.map) s HS.out p0 0 HFS.out⟩ (fun hHeld => ?_)
  clear hK K
  refine norm_ (a' := ?_) ?_ ?_
  rotate_left
  · show Act.put _ (some 9) _ = _
    simp only [Act.put, List.setIfInBounds_toArray, List.set_cons_zero, List.set_cons_succ, i64_w, i32_w]
    rfl
  refine last_ (i := 10) (N := none) #[true, true, true, true, true, true, true, true, true, true, true, false] rfl rfl (by kernel_rfl) (by decide) (fun K hK => ?_)
  refine skip_ (w1 := ?_) (by rfl) rfl ?_ ?_
  rotate_left
  · go_simp
    rfl
  refine hK.out _ _ ?_
  clear hK K
  refine pure_ (i := 11) (N := some 10) (v := ?_) (a' := ?_) #[true, true, true, true, true, true, true, true, true, true, true, true] rfl rfl (by kernel_rfl) (fun _ _ _ h => h) (Or.inl ⟨by rfl, ?_⟩) ?_ ?_
  rotate_left
  · intro w'
    go_simp
    with_reducible rfl
  rotate_left
  · simp only [Act.put, List.setIfInBounds_toArray, List.set_cons_zero, List.set_cons_succ, i64_w, i32_w]
    rfl
  refine done_ (by kernel_rfl) ?_
  obtain ⟨wq, hwq⟩ : ∃ wq, wq = (wp.alloc (.cells #[.string s, .int .i32 p0, .int .i32 0] 92)).drew := ⟨_, rfl⟩
  have HBq : Below wp.heap.size wp wq := by rw [hwq]; exact below_drew (below_alloc (Below.refl _ _) _)
  have HWq : Aside0 (WL wq g b n f c) := ⟨HWp.out.below HBq⟩
  have HFq : Aside0 (Frm w wq g b) := ⟨HFp.out.trans (Frm.of_below HBq g b)⟩
  have HQ0 : Aside0 (wq.heap[wp.heap.size]? = some (.cells #[.string s, .int .i32 p0, .int .i32 0] 92 (0, 0))) := ⟨by rw [hwq]; exact blk_drew (blk_new wp _)⟩
  have HQ1 : Aside0 (wq.heap[w.heap.size]? = some (.cells #[.string s] 81 (0, 0))) := ⟨(HBq.block _ (blk_lt HC0.out)).trans HC0.out⟩
  have hq0 := (blk_cell HQ0.out 0).trans rfl
  have hq1 := (blk_cell HQ0.out 1).trans rfl
  have hq2 := (blk_cell HQ0.out 2).trans rfl
  have hq3 := (blk_cell HQ1.out 0).trans rfl
  rw [← hwq]
  clear hwq HBq hz0 hz1 hz2 hHeld HWa HA0 HA1
  go_wp2_with fail
  go_ret
  exact ⟨rfl, HWq.out, HFq.out⟩
set_option maxHeartbeats 8000000 in
set_option maxRecDepth 100000 in
theorem add_have (w : World) (g b n c : Nat) (f : WF) (h : WL w g b n f c) (hn : n < maxLen) (s : ByteArray) (hs : s.size ≤ maxLen) (p t p0 t0 : Int) (hf : f s = some (p0, t0)) (h0 : t0 ≠ 0) (h1 : t = 1) :
    Calls Tryd.prog 36 #[.pointer (some ⟨g, 0, none⟩), .agg #[.string s], .int .i32 p, .int .i32 t] w fun e w' => e = .returned (.bool false) ∧ WL w' g b n f c ∧ Frm w w' g b := by
  obtain ⟨wp, hwp⟩ : ∃ wp, wp = w.alloc (.cells #[.string s] 81) := ⟨_, rfl⟩
  have HWp : Aside0 (WL wp g b n f c) := ⟨by rw [hwp]; exact h.below (below_alloc (Below.refl _ _) _)⟩
  have HFp : Aside0 (Frm w wp g b) := ⟨by rw [hwp]; exact Frm.of_below (below_alloc (Below.refl _ _) _) g b⟩
  have hc0 : wp.heap[w.heap.size]? = some (.cells #[.string s] 81 (0, 0)) := by rw [hwp]; exact blk_new w _
  have HC0 := Aside0.mk hc0
  have HS := Aside0.mk hs
  have HN := Aside0.mk hn
  have HFS := Aside0.mk hf
  clear h hs hn hc0 hf
  go_enter Tryd.func36, Tryd.ntmps36
  go_upto_region 1 with fail
  rw [← hwp]
  clear hwp
  have c0 : (t0 == 0) = false := beq_eq_false_iff_ne.mpr h0
  subst h1
  clear h0
  have HWd : Aside0 (WL wp.drew g b n f c) := ⟨HWp.out.below (below_drew (Below.refl _ _))⟩
  have hz0 : wp.drew.cell? ⟨g, 0, none⟩ = some (.map (some b)) := (blk_cell HWd.out.blk 0).trans rfl
  have hz1 : wp.drew.cell? ⟨w.heap.size, 0, none⟩ = some (.string s) := (blk_cell (blk_drew HC0.out) 0).trans rfl
  have hz2 := wmap_run_hit (HWd.out.map) s HS.out p0 t0 HFS.out
  have HWa : Aside0 (WL (wp.drew.alloc (.cells #[.string ⟨#[]⟩, .int .i32 0, .int .i32 0] 92)) g b n f c) := ⟨HWd.out.below (below_alloc (Below.refl _ _) _)⟩
  have HA0 := Aside0.mk HWa.out.blk
  have HA1 := Aside0.mk (blk_alloc (blk_drew HC0.out) (.cells #[.string ⟨#[]⟩, .int .i32 0, .int .i32 0] 92))
  refine start_ (n := 12) (S := fun w' => w'.cell? ⟨g, 0, none⟩ = some (.map (some b)) ∧ w'.cell? ⟨w.heap.size, 0, none⟩ = some (.string s) ∧ (Instr.lookup 139 (.map (some b)) (.agg #[.string s]) true).run Tryd.prog w' = .ok (.tuple #[.agg #[.string s, .int .i32 p0, .int .i32 t0], .bool true]) w') (ds := [10]) #[false, false, false, false, false, false, false, false, false, false, false, false] (by kernel_rfl) rfl rfl ⟨hz0, hz1, hz2⟩ (fun hHeld => ?_)
  refine pure_ (i := 0) (N := some 12) (v := ?_) (a' := ?_) #[true, false, false, false, false, false, false, false, false, false, false, false] rfl rfl (by kernel_rfl) (fun _ _ _ h => h) (Or.inl ⟨by rfl, ?_⟩) ?_ ?_
  rotate_left
  · intro w'
    go_simp
    with_reducible rfl
  rotate_left
  · simp only [Act.put, List.setIfInBounds_toArray, List.set_cons_zero, List.set_cons_succ, i64_w, i32_w]
    rfl
  refine pure_ (i := 1) (N := some 13) (v := ?_) (a' := ?_) #[true, true, false, false, false, false, false, false, false, false, false, false] rfl rfl (by kernel_rfl) (fun _ _ _ h => h) (Or.inl ⟨by rfl, ?_⟩) ?_ ?_
  rotate_left
  · intro w'
    go_simp
    with_reducible rfl
  rotate_left
  · simp only [Act.put, List.setIfInBounds_toArray, List.set_cons_zero, List.set_cons_succ, i64_w, i32_w]
    rfl
  refine pure_ (i := 2) (N := some 14) (v := ?_) (a' := ?_) #[true, true, true, false, false, false, false, false, false, false, false, false] rfl rfl (by kernel_rfl) (fun _ _ _ h => h) (Or.inl ⟨by rfl, ?_⟩) ?_ ?_
  rotate_left
  · intro w'
    go_simp
    with_reducible rfl
  rotate_left
  · simp only [Act.put, List.setIfInBounds_toArray, List.set_cons_zero, List.set_cons_succ, i64_w, i32_w]
    rfl
  refine take_ (i := 3) (N := some 15) (v := ?_) (a' := ?_) #[true, true, true, true, false, false, false, false, false, false, false, false] rfl rfl (by kernel_rfl) (fun _ _ _ h => h) (Or.inl ⟨by rfl, ?_⟩) hHeld ?_ ?_
  rotate_left
  · rintro w' ⟨s0, s1, s2⟩
    go_simp
    with_reducible rfl
  rotate_left
  · simp only [Act.put, List.setIfInBounds_toArray, List.set_cons_zero, List.set_cons_succ, i64_w, i32_w]
    rfl
  refine take_ (i := 4) (N := some 16) (v := ?_) (a' := ?_) #[true, true, true, true, true, false, false, false, false, false, false, false] rfl rfl (by kernel_rfl) (fun _ _ _ h => h) (Or.inl ⟨by rfl, ?_⟩) hHeld ?_ ?_
  rotate_left
  · rintro w' ⟨s0, s1, s2⟩
    go_simp
    with_reducible rfl
  rotate_left
  · simp only [Act.put, List.setIfInBounds_toArray, List.set_cons_zero, List.set_cons_succ, i64_w, i32_w]
    rfl
  refine take_ (i := 5) (N := some 17) (v := ?_) (a' := ?_) #[true, true, true, true, true, true, false, false, false, false, false, false] rfl rfl (by kernel_rfl) (fun _ _ _ h => h) (Or.inl ⟨by rfl, ?_⟩) hHeld ?_ ?_
  rotate_left
  · rintro w' ⟨s0, s1, s2⟩
    go_simp
    with_reducible rfl
  rotate_left
  · simp only [Act.put, List.setIfInBounds_toArray, List.set_cons_zero, List.set_cons_succ, i64_w, i32_w]
    rfl
  refine pure_ (i := 6) (N := some 11) (v := ?_) (a' := ?_) #[true, true, true, true, true, true, true, false, false, false, false, false] rfl rfl (by kernel_rfl) (fun _ _ _ h => h) (Or.inl ⟨by rfl, ?_⟩) ?_ ?_
  rotate_left
  · intro w'
    go_simp
    with_reducible rfl
  rotate_left
  · simp only [Act.put, List.setIfInBounds_toArray, List.set_cons_zero, List.set_cons_succ, i64_w, i32_w]
    rfl
  refine pure_ (i := 7) (N := some 18) (v := ?_) (a' := ?_) #[true, true, true, true, true, true, true, true, false, false, false, false] rfl rfl (by kernel_rfl) (fun _ _ _ h => h) (Or.inl ⟨by rfl, ?_⟩) ?_ ?_
  rotate_left
  · intro w'
    go_simp
    with_reducible rfl
  rotate_left
  · simp only [Act.put, List.setIfInBounds_toArray, List.set_cons_zero, List.set_cons_succ, i64_w, i32_w]
    rfl
  refine pure_ (i := 8) (N := some 19) (v := ?_) (a' := ?_) #[true, true, true, true, true, true, true, true, true, false, false, false] rfl rfl (by kernel_rfl) (fun _ _ _ h => h) (Or.inl ⟨by rfl, ?_⟩) ?_ ?_
  rotate_left
  · intro w'
    go_simp
    with_reducible rfl
  rotate_left
  · simp only [Act.put, List.setIfInBounds_toArray, List.set_cons_zero, List.set_cons_succ, i64_w, i32_w]
    rfl
  refine one_ (i := 9) (N := some 9) #[true, true, true, true, true, true, true, true, true, true, false, false] rfl rfl (by kernel_rfl) (by decide) (fun K hK => ?_)
  refine value_ (w1 := ?_) (v := ?_) (by rfl) rfl ?_ ?_
  rotate_left 2
  · go_simp
    constructor
    · rfl
    · rfl
  refine hK.out _ _ ⟨(blk_cell HA0.out 0).trans rfl, (blk_cell HA1.out 0).trans rfl, wmap_run_hit (HWa.out.map) s HS.out p0 t0 HFS.out⟩ (fun hHeld => ?_)
  clear hK K
  refine norm_ (a' := ?_) ?_ ?_
  rotate_left
  · show Act.put _ (some 9) _ = _
    simp only [Act.put, List.setIfInBounds_toArray, List.set_cons_zero, List.set_cons_succ, i64_w, i32_w]
    rfl
  refine last_ (i := 10) (N := none) #[true, true, true, true, true, true, true, true, true, true, true, false] rfl rfl (by kernel_rfl) (by decide) (fun K hK => ?_)
  refine skip_ (w1 := ?_) (by rfl) rfl ?_ ?_
  rotate_left
  · go_simp
    rfl
  refine hK.out _ _ ?_
  clear hK K
  refine pure_ (i := 11) (N := some 10) (v := ?_) (a' := ?_) #[true, true, true, true, true, true, true, true, true, true, true, true] rfl rfl (by kernel_rfl) (fun _ _ _ h => h) (Or.inl ⟨by rfl, ?_⟩) ?_ ?_
  rotate_left
  · intro w'
    go_simp
    with_reducible rfl
  rotate_left
  · simp only [Act.put, List.setIfInBounds_toArray, List.set_cons_zero, List.set_cons_succ, i64_w, i32_w]
    rfl
  refine done_ (by kernel_rfl) ?_
  obtain ⟨wq, hwq⟩ : ∃ wq, wq = (wp.alloc (.cells #[.string s, .int .i32 p0, .int .i32 t0] 92)).drew := ⟨_, rfl⟩
  have HBq : Below wp.heap.size wp wq := by rw [hwq]; exact below_drew (below_alloc (Below.refl _ _) _)
  have HWq : Aside0 (WL wq g b n f c) := ⟨HWp.out.below HBq⟩
  have HFq : Aside0 (Frm w wq g b) := ⟨HFp.out.trans (Frm.of_below HBq g b)⟩
  have HQ0 : Aside0 (wq.heap[wp.heap.size]? = some (.cells #[.string s, .int .i32 p0, .int .i32 t0] 92 (0, 0))) := ⟨by rw [hwq]; exact blk_drew (blk_new wp _)⟩
  have HQ1 : Aside0 (wq.heap[w.heap.size]? = some (.cells #[.string s] 81 (0, 0))) := ⟨(HBq.block _ (blk_lt HC0.out)).trans HC0.out⟩
  have hq0 := (blk_cell HQ0.out 0).trans rfl
  have hq1 := (blk_cell HQ0.out 1).trans rfl
  have hq2 := (blk_cell HQ0.out 2).trans rfl
  have hq3 := (blk_cell HQ1.out 0).trans rfl
  rw [← hwq]
  clear hwq HBq hz0 hz1 hz2 hHeld HWa HA0 HA1
  go_wp2_with fail
  go_ret
  exact ⟨rfl, HWq.out, HFq.out⟩
theorem add_calls (w : World) (g b n c : Nat) (f : WF) (h : WL w g b n f c) (hn : n < maxLen) (s : ByteArray) (hs : s.size ≤ maxLen) (p t : Int) :
    Calls Tryd.prog 36 #[.pointer (some ⟨g, 0, none⟩), .agg #[.string s], .int .i32 p, .int .i32 t] w fun e w' => e = .returned (.bool (addB f s t)) ∧ WL w' g b (n + 1) (addF f s p t) (addC f s t c) ∧ Frm w w' g b := by
  unfold addF addC
  cases hf : f s with
  | none =>
    have e : addB f s t = true := by unfold addB; rw [hf]
    rw [e, if_pos rfl, if_pos rfl]
    exact add_new w g b n c f h hn s hs p t hf
  | some v =>
    obtain ⟨p0, t0⟩ := v
    by_cases h0 : t0 = 0
    · have e : addB f s t = false := by unfold addB; rw [hf]; simp [h0]
      rw [e, if_neg (by decide), if_neg (by decide)]
      refine (add_block w g b n c f h hn s hs p t p0 t0 hf h0).mono ?_
      rintro e w' ⟨rfl, h1, h2⟩
      exact ⟨rfl, h1.mono (Nat.le_succ _), h2⟩
    · by_cases h1 : t = 1
      · have e : addB f s t = false := by unfold addB; rw [hf]; simp [h1]
        rw [e, if_neg (by decide), if_neg (by decide)]
        refine (add_have w g b n c f h hn s hs p t p0 t0 hf h0 h1).mono ?_
        rintro e w' ⟨rfl, h1, h2⟩
        exact ⟨rfl, h1.mono (Nat.le_succ _), h2⟩
      · have e : addB f s t = true := by unfold addB; rw [hf]; simp [h0, h1]
        rw [e, if_pos rfl, if_pos rfl]
        exact add_over w g b n c f h hn s hs p t p0 t0 hf h0 h1
end Go.Proofs.YteekkpofcbcikaaDoor.HandWan
