/- The other functions of a want list. -/
import Derived.Test.YteekkpofcbcikaaDoorI4
namespace Go.Proofs.YteekkpofcbcikaaDoor.HandWan
open Go Go.RowKit Go.Proofs.YteekkpofcbcikaaDoorL Go.Proofs.YteekkpofcbcikaaDoorW.PrintWords Go.Proofs.YteekkpofcbcikaaDoorW.PrintLast Go.Proofs.YteekkpofcbcikaaDoorW.PrintMore
attribute [local go_sem] max2_int min2_int max_two min_two max_three min_three max_four min_four
set_option linter.unusedVariables false
set_option linter.unusedSimpArgs false
theorem fdel_none {f : WF} {s : ByteArray} (h : f s = none) : fdel f s = f := by
  funext k
  unfold fdel
  by_cases e : k = s
  · rw [if_pos e, e, h]
  · rw [if_neg e]
theorem cdel_none {f : WF} {s : ByteArray} (c : Nat) (h : f s = none) : cdel f s c = c := by
  unfold cdel
  rw [h]
  rfl
def rtyB (f : WF) (s : ByteArray) (t : Int) : Bool := match f s with | none => false | some (_, t0) => !(t0 == 0 && t == 1)
def rtyF (f : WF) (s : ByteArray) (t : Int) : WF := if rtyB f s t = true then fdel f s else f
def rtyC (f : WF) (s : ByteArray) (t : Int) (c : Nat) : Nat := if rtyB f s t = true then cdel f s c else c
set_option maxHeartbeats 8000000 in
set_option maxRecDepth 100000 in
theorem remove_miss (w : World) (g b n c : Nat) (f : WF) (h : WL w g b n f c) (s : ByteArray) (hs : s.size ≤ maxLen) (hf : f s = none) :
    Calls Tryd.prog 38 #[.pointer (some ⟨g, 0, none⟩), .agg #[.string s]] w fun e w' => e = .returned (.bool false) ∧ WL w' g b n f c ∧ Frm w w' g b := by
  obtain ⟨wp, hwp⟩ : ∃ wp, wp = w.alloc (.cells #[.string s] 81) := ⟨_, rfl⟩
  have HWp : Aside0 (WL wp g b n f c) := ⟨by rw [hwp]; exact h.below (below_alloc (Below.refl _ _) _)⟩
  have HFp : Aside0 (Frm w wp g b) := ⟨by rw [hwp]; exact Frm.of_below (below_alloc (Below.refl _ _) _) g b⟩
  have hc0 : wp.heap[w.heap.size]? = some (.cells #[.string s] 81 (0, 0)) := by rw [hwp]; exact blk_new w _
  have HC0 := Aside0.mk hc0
  have HS := Aside0.mk hs
  have HFS := Aside0.mk hf
  clear h hs hc0 hf
  go_enter Tryd.func38, Tryd.ntmps38
  go_upto_region 1 with fail
  rw [← hwp]
  clear hwp
  have HWd : Aside0 (WL wp.drew g b n f c) := ⟨HWp.out.below (below_drew (Below.refl _ _))⟩
  have hz0 : wp.drew.cell? ⟨g, 0, none⟩ = some (.map (some b)) := (blk_cell HWd.out.blk 0).trans rfl
  have hz1 : wp.drew.cell? ⟨w.heap.size, 0, none⟩ = some (.string s) := (blk_cell (blk_drew HC0.out) 0).trans rfl
  have hz2 := wmap_run_miss (HWd.out.map) s HS.out HFS.out
  have HWa : Aside0 (WL (wp.drew.alloc (.cells #[.string ⟨#[]⟩, .int .i32 0, .int .i32 0] 92)) g b n f c) := ⟨HWd.out.below (below_alloc (Below.refl _ _) _)⟩
  have HA0 := Aside0.mk HWa.out.blk
  have HA1 := Aside0.mk (blk_alloc (blk_drew HC0.out) (.cells #[.string ⟨#[]⟩, .int .i32 0, .int .i32 0] 92))
  refine start_ (n := 12) (S := fun w' => w'.cell? ⟨g, 0, none⟩ = some (.map (some b)) ∧ w'.cell? ⟨w.heap.size, 0, none⟩ = some (.string s) ∧ (Instr.lookup 139 (.map (some b)) (.agg #[.string s]) true).run Tryd.prog w' = .ok (.tuple #[.agg #[.string ⟨#[]⟩, .int .i32 0, .int .i32 0], .bool false]) w') (ds := [10]) #[false, false, false, false, false, false, false, false, false, false, false, false] (by kernel_rfl) rfl rfl ⟨hz0, hz1, hz2⟩ (fun hHeld => ?_)
  refine pure_ (i := 0) (N := some 8) (v := ?_) (a' := ?_) #[true, false, false, false, false, false, false, false, false, false, false, false] rfl rfl (by kernel_rfl) (fun _ _ _ h => h) (Or.inl ⟨by rfl, ?_⟩) ?_ ?_
  rotate_left
  · intro w'
    go_simp
    with_reducible rfl
  rotate_left
  · simp only [Act.put, List.setIfInBounds_toArray, List.set_cons_zero, List.set_cons_succ, i64_w, i32_w]
    rfl
  refine pure_ (i := 1) (N := some 9) (v := ?_) (a' := ?_) #[true, true, false, false, false, false, false, false, false, false, false, false] rfl rfl (by kernel_rfl) (fun _ _ _ h => h) (Or.inl ⟨by rfl, ?_⟩) ?_ ?_
  rotate_left
  · intro w'
    go_simp
    with_reducible rfl
  rotate_left
  · simp only [Act.put, List.setIfInBounds_toArray, List.set_cons_zero, List.set_cons_succ, i64_w, i32_w]
    rfl
  refine pure_ (i := 2) (N := some 10) (v := ?_) (a' := ?_) #[true, true, true, false, false, false, false, false, false, false, false, false] rfl rfl (by kernel_rfl) (fun _ _ _ h => h) (Or.inl ⟨by rfl, ?_⟩) ?_ ?_
  rotate_left
  · intro w'
    go_simp
    with_reducible rfl
  rotate_left
  · simp only [Act.put, List.setIfInBounds_toArray, List.set_cons_zero, List.set_cons_succ, i64_w, i32_w]
    rfl
  refine take_ (i := 3) (N := some 11) (v := ?_) (a' := ?_) #[true, true, true, true, false, false, false, false, false, false, false, false] rfl rfl (by kernel_rfl) (fun _ _ _ h => h) (Or.inl ⟨by rfl, ?_⟩) hHeld ?_ ?_
  rotate_left
  · rintro w' ⟨s0, s1, s2⟩
    go_simp
    with_reducible rfl
  rotate_left
  · simp only [Act.put, List.setIfInBounds_toArray, List.set_cons_zero, List.set_cons_succ, i64_w, i32_w]
    rfl
  refine take_ (i := 4) (N := some 12) (v := ?_) (a' := ?_) #[true, true, true, true, true, false, false, false, false, false, false, false] rfl rfl (by kernel_rfl) (fun _ _ _ h => h) (Or.inl ⟨by rfl, ?_⟩) hHeld ?_ ?_
  rotate_left
  · rintro w' ⟨s0, s1, s2⟩
    go_simp
    with_reducible rfl
  rotate_left
  · simp only [Act.put, List.setIfInBounds_toArray, List.set_cons_zero, List.set_cons_succ, i64_w, i32_w]
    rfl
  refine take_ (i := 5) (N := some 13) (v := ?_) (a' := ?_) #[true, true, true, true, true, true, false, false, false, false, false, false] rfl rfl (by kernel_rfl) (fun _ _ _ h => h) (Or.inl ⟨by rfl, ?_⟩) hHeld ?_ ?_
  rotate_left
  · rintro w' ⟨s0, s1, s2⟩
    go_simp
    with_reducible rfl
  rotate_left
  · simp only [Act.put, List.setIfInBounds_toArray, List.set_cons_zero, List.set_cons_succ, i64_w, i32_w]
    rfl
  refine pure_ (i := 6) (N := some 7) (v := ?_) (a' := ?_) #[true, true, true, true, true, true, true, false, false, false, false, false] rfl rfl (by kernel_rfl) (fun _ _ _ h => h) (Or.inl ⟨by rfl, ?_⟩) ?_ ?_
  rotate_left
  · intro w'
    go_simp
    with_reducible rfl
  rotate_left
  · simp only [Act.put, List.setIfInBounds_toArray, List.set_cons_zero, List.set_cons_succ, i64_w, i32_w]
    rfl
  refine pure_ (i := 7) (N := some 14) (v := ?_) (a' := ?_) #[true, true, true, true, true, true, true, true, false, false, false, false] rfl rfl (by kernel_rfl) (fun _ _ _ h => h) (Or.inl ⟨by rfl, ?_⟩) ?_ ?_
  rotate_left
  · intro w'
    go_simp
    with_reducible rfl
  rotate_left
  · simp only [Act.put, List.setIfInBounds_toArray, List.set_cons_zero, List.set_cons_succ, i64_w, i32_w]
    rfl
  refine pure_ (i := 8) (N := some 15) (v := ?_) (a' := ?_) #[true, true, true, true, true, true, true, true, true, false, false, false] rfl rfl (by kernel_rfl) (fun _ _ _ h => h) (Or.inl ⟨by rfl, ?_⟩) ?_ ?_
  rotate_left
  · intro w'
    go_simp
    with_reducible rfl
  rotate_left
  · simp only [Act.put, List.setIfInBounds_toArray, List.set_cons_zero, List.set_cons_succ, i64_w, i32_w]
    rfl
  refine one_ (i := 9) (N := some 5) #[true, true, true, true, true, true, true, true, true, true, false, false] rfl rfl (by kernel_rfl) (by decide) (fun K hK => ?_)
  refine value_ (w1 := ?_) (v := ?_) (by rfl) rfl ?_ ?_
  rotate_left 2
  · go_simp
    constructor
    · rfl
    · rfl
  refine hK.out _ _ ⟨(blk_cell HA0.out 0).trans rfl, (blk_cell HA1.out 0).trans rfl, wmap_run_miss (HWa.out.map) s HS.out HFS.out⟩ (fun hHeld => ?_)
  clear hK K
  refine norm_ (a' := ?_) ?_ ?_
  rotate_left
  · show Act.put _ (some 5) _ = _
    simp only [Act.put, List.setIfInBounds_toArray, List.set_cons_zero, List.set_cons_succ, i64_w, i32_w]
    rfl
  refine last_ (i := 10) (N := none) #[true, true, true, true, true, true, true, true, true, true, true, false] rfl rfl (by kernel_rfl) (by decide) (fun K hK => ?_)
  refine skip_ (w1 := ?_) (by rfl) rfl ?_ ?_
  rotate_left
  · go_simp
    rfl
  refine hK.out _ _ ?_
  clear hK K
  refine pure_ (i := 11) (N := some 6) (v := ?_) (a' := ?_) #[true, true, true, true, true, true, true, true, true, true, true, true] rfl rfl (by kernel_rfl) (fun _ _ _ h => h) (Or.inl ⟨by rfl, ?_⟩) ?_ ?_
  rotate_left
  · intro w'
    go_simp
    with_reducible rfl
  rotate_left
  · simp only [Act.put, List.setIfInBounds_toArray, List.set_cons_zero, List.set_cons_succ, i64_w, i32_w]
    rfl
  refine done_ (by kernel_rfl) ?_
  obtain ⟨wq, hwq⟩ : ∃ wq, wq = (wp.alloc (.cells #[.string ⟨#[]⟩, .int .i32 0, .int .i32 0] 92)).drew := ⟨_, rfl⟩
  have HBq : Below wp.heap.size wp wq := by rw [hwq]; exact below_drew (below_alloc (Below.refl _ _) _)
  have HWq : Aside0 (WL wq g b n f c) := ⟨HWp.out.below HBq⟩
  have HFq : Aside0 (Frm w wq g b) := ⟨HFp.out.trans (Frm.of_below HBq g b)⟩
  have HQ0 : Aside0 (wq.heap[wp.heap.size]? = some (.cells #[.string ⟨#[]⟩, .int .i32 0, .int .i32 0] 92 (0, 0))) := ⟨by rw [hwq]; exact blk_drew (blk_new wp _)⟩
  have HQ1 : Aside0 (wq.heap[w.heap.size]? = some (.cells #[.string s] 81 (0, 0))) := ⟨(HBq.block _ (blk_lt HC0.out)).trans HC0.out⟩
  have hq0 := (blk_cell HQ0.out 0).trans rfl
  have hq1 := (blk_cell HQ0.out 1).trans rfl
  have hq2 := (blk_cell HQ0.out 2).trans rfl
  have hq3 := (blk_cell HQ1.out 0).trans rfl
  rw [← hwq]
  clear hwq HBq hz0 hz1 hz2 hHeld HWa HA0 HA1
  go_wp2_with fail
  go_ret
  exact ⟨rfl, HWq.out, HFq.out⟩
set_option maxHeartbeats 8000000 in
set_option maxRecDepth 100000 in
theorem remove_hit (w : World) (g b n c : Nat) (f : WF) (h : WL w g b n f c) (s : ByteArray) (hs : s.size ≤ maxLen) (p0 t0 : Int) (hf : f s = some (p0, t0)) :
    Calls Tryd.prog 38 #[.pointer (some ⟨g, 0, none⟩), .agg #[.string s]] w fun e w' => e = .returned (.bool true) ∧ WL w' g b n (fdel f s) (cdel f s c) ∧ Frm w w' g b := by
  obtain ⟨wp, hwp⟩ : ∃ wp, wp = w.alloc (.cells #[.string s] 81) := ⟨_, rfl⟩
  have HWp : Aside0 (WL wp g b n f c) := ⟨by rw [hwp]; exact h.below (below_alloc (Below.refl _ _) _)⟩
  have HFp : Aside0 (Frm w wp g b) := ⟨by rw [hwp]; exact Frm.of_below (below_alloc (Below.refl _ _) _) g b⟩
  have hc0 : wp.heap[w.heap.size]? = some (.cells #[.string s] 81 (0, 0)) := by rw [hwp]; exact blk_new w _
  have HC0 := Aside0.mk hc0
  have HS := Aside0.mk hs
  have HFS := Aside0.mk hf
  clear h hs hc0 hf
  go_enter Tryd.func38, Tryd.ntmps38
  go_upto_region 1 with fail
  rw [← hwp]
  clear hwp
  have HWd : Aside0 (WL wp.drew g b n f c) := ⟨HWp.out.below (below_drew (Below.refl _ _))⟩
  have hz0 : wp.drew.cell? ⟨g, 0, none⟩ = some (.map (some b)) := (blk_cell HWd.out.blk 0).trans rfl
  have hz1 : wp.drew.cell? ⟨w.heap.size, 0, none⟩ = some (.string s) := (blk_cell (blk_drew HC0.out) 0).trans rfl
  have hz2 := wmap_run_hit (HWd.out.map) s HS.out p0 t0 HFS.out
  have HWa : Aside0 (WL (wp.drew.alloc (.cells #[.string ⟨#[]⟩, .int .i32 0, .int .i32 0] 92)) g b n f c) := ⟨HWd.out.below (below_alloc (Below.refl _ _) _)⟩
  have HA0 := Aside0.mk HWa.out.blk
  have HA1 := Aside0.mk (blk_alloc (blk_drew HC0.out) (.cells #[.string ⟨#[]⟩, .int .i32 0, .int .i32 0] 92))
  refine start_ (n := 12) (S := fun w' => w'.cell? ⟨g, 0, none⟩ = some (.map (some b)) ∧ w'.cell? ⟨w.heap.size, 0, none⟩ = some (.string s) ∧ (Instr.lookup 139 (.map (some b)) (.agg #[.string s]) true).run Tryd.prog w' = .ok (.tuple #[.agg #[.string s, .int .i32 p0, .int .i32 t0], .bool true]) w') (ds := [10]) #[false, false, false, false, false, false, false, false, false, false, false, false] (by kernel_rfl) rfl rfl ⟨hz0, hz1, hz2⟩ (fun hHeld => ?_)
  refine pure_ (i := 0) (N := some 8) (v := ?_) (a' := ?_) #[true, false, false, false, false, false, false, false, false, false, false, false] rfl rfl (by kernel_rfl) (fun _ _ _ h => h) (Or.inl ⟨by rfl, ?_⟩) ?_ ?_
  rotate_left
  · intro w'
    go_simp
    with_reducible rfl
  rotate_left
  · simp only [Act.put, List.setIfInBounds_toArray, List.set_cons_zero, List.set_cons_succ, i64_w, i32_w]
    rfl
  refine pure_ (i := 1) (N := some 9) (v := ?_) (a' := ?_) #[true, true, false, false, false, false, false, false, false, false, false, false] rfl rfl (by kernel_rfl) (fun _ _ _ h => h) (Or.inl ⟨by rfl, ?_⟩) ?_ ?_
  rotate_left
  · intro w'
    go_simp
    with_reducible rfl
  rotate_left
  · simp only [Act.put, List.setIfInBounds_toArray, List.set_cons_zero, List.set_cons_succ, i64_w, i32_w]
    rfl
  refine pure_ (i := 2) (N := some 10) (v := ?_) (a' := ?_) #[true, true, true, false, false, false, false, false, false, false, false, false] rfl rfl (by kernel_rfl) (fun _ _ _ h => h) (Or.inl ⟨by rfl, ?_⟩) ?_ ?_
  rotate_left
  · intro w'
    go_simp
    with_reducible rfl
  rotate_left
  · simp only [Act.put, List.setIfInBounds_toArray, List.set_cons_zero, List.set_cons_succ, i64_w, i32_w]
    rfl
  refine take_ (i := 3) (N := some 11) (v := ?_) (a' := ?_) #[true, true, true, true, false, false, false, false, false, false, false, false] rfl rfl (by kernel_rfl) (fun _ _ _ h => h) (Or.inl ⟨by rfl, ?_⟩) hHeld ?_ ?_
  rotate_left
  · rintro w' ⟨s0, s1, s2⟩
    go_simp
    with_reducible rfl
  rotate_left
  · simp only [Act.put, List.setIfInBounds_toArray, List.set_cons_zero, List.set_cons_succ, i64_w, i32_w]
    rfl
  refine take_ (i := 4) (N := some 12) (v := ?_) (a' := ?_) #[true, true, true, true, true, false, false, false, false, false, false, false] rfl rfl (by kernel_rfl) (fun _ _ _ h => h) (Or.inl ⟨by rfl, ?_⟩) hHeld ?_ ?_
  rotate_left
  · rintro w' ⟨s0, s1, s2⟩
    go_simp
    with_reducible rfl
  rotate_left
  · simp only [Act.put, List.setIfInBounds_toArray, List.set_cons_zero, List.set_cons_succ, i64_w, i32_w]
    rfl
  refine take_ (i := 5) (N := some 13) (v := ?_) (a' := ?_) #[true, true, true, true, true, true, false, false, false, false, false, false] rfl rfl (by kernel_rfl) (fun _ _ _ h => h) (Or.inl ⟨by rfl, ?_⟩) hHeld ?_ ?_
  rotate_left
  · rintro w' ⟨s0, s1, s2⟩
    go_simp
    with_reducible rfl
  rotate_left
  · simp only [Act.put, List.setIfInBounds_toArray, List.set_cons_zero, List.set_cons_succ, i64_w, i32_w]
    rfl
  refine pure_ (i := 6) (N := some 7) (v := ?_) (a' := ?_) #[true, true, true, true, true, true, true, false, false, false, false, false] rfl rfl (by kernel_rfl) (fun _ _ _ h => h) (Or.inl ⟨by rfl, ?_⟩) ?_ ?_
  rotate_left
  · intro w'
    go_simp
    with_reducible rfl
  rotate_left
  · simp only [Act.put, List.setIfInBounds_toArray, List.set_cons_zero, List.set_cons_succ, i64_w, i32_w]
    rfl
  refine pure_ (i := 7) (N := some 14) (v := ?_) (a' := ?_) #[true, true, true, true, true, true, true, true, false, false, false, false] rfl rfl (by kernel_rfl) (fun _ _ _ h => h) (Or.inl ⟨by rfl, ?_⟩) ?_ ?_
  rotate_left
  · intro w'
    go_simp
    with_reducible rfl
  rotate_left
  · simp only [Act.put, List.setIfInBounds_toArray, List.set_cons_zero, List.set_cons_succ, i64_w, i32_w]
    rfl
  refine pure_ (i := 8) (N := some 15) (v := ?_) (a' := ?_) #[true, true, true, true, true, true, true, true, true, false, false, false] rfl rfl (by kernel_rfl) (fun _ _ _ h => h) (Or.inl ⟨by rfl, ?_⟩) ?_ ?_
  rotate_left
  · intro w'
    go_simp
    with_reducible rfl
  rotate_left
  · simp only [Act.put, List.setIfInBounds_toArray, List.set_cons_zero, List.set_cons_succ, i64_w, i32_w]
    rfl
  refine one_ (i := 9) (N := some 5) #[true, true, true, true, true, true, true, true, true, true, false, false] rfl rfl (by kernel_rfl) (by decide) (fun K hK => ?_)
  refine value_ (w1 := ?_) (v := ?_) (by rfl) rfl ?_ ?_
  rotate_left 2
  · go_simp
    constructor
    · rfl
    · rfl
  refine hK.out _ _ ⟨(blk_cell HA0.out 0).trans rfl, (blk_cell HA1.out 0).trans rfl, wmap_run_hit (HWa.out.map) s HS.out p0 t0 HFS.out⟩ (fun hHeld => ?_)
  clear hK K
  refine norm_ (a' := ?_) ?_ ?_
  rotate_left
  · show Act.put _ (some 5) _ = _
    simp only [Act.put, List.setIfInBounds_toArray, List.set_cons_zero, List.set_cons_succ, i64_w, i32_w]
    rfl
  refine last_ (i := 10) (N := none) #[true, true, true, true, true, true, true, true, true, true, true, false] rfl rfl (by kernel_rfl) (by decide) (fun K hK => ?_)
  refine skip_ (w1 := ?_) (by rfl) rfl ?_ ?_
  rotate_left
  · go_simp
    rfl
  refine hK.out _ _ ?_
  clear hK K
  refine pure_ (i := 11) (N := some 6) (v := ?_) (a' := ?_) #[true, true, true, true, true, true, true, true, true, true, true, true] rfl rfl (by kernel_rfl) (fun _ _ _ h => h) (Or.inl ⟨by rfl, ?_⟩) ?_ ?_
  rotate_left
  · intro w'
    go_simp
    with_reducible rfl
  rotate_left
  · simp only [Act.put, List.setIfInBounds_toArray, List.set_cons_zero, List.set_cons_succ, i64_w, i32_w]
    rfl
  refine done_ (by kernel_rfl) ?_
  obtain ⟨wq, hwq⟩ : ∃ wq, wq = (wp.alloc (.cells #[.string s, .int .i32 p0, .int .i32 t0] 92)).drew := ⟨_, rfl⟩
  have HBq : Below wp.heap.size wp wq := by rw [hwq]; exact below_drew (below_alloc (Below.refl _ _) _)
  have HWq : Aside0 (WL wq g b n f c) := ⟨HWp.out.below HBq⟩
  have HFq : Aside0 (Frm w wq g b) := ⟨HFp.out.trans (Frm.of_below HBq g b)⟩
  have HQ0 : Aside0 (wq.heap[wp.heap.size]? = some (.cells #[.string s, .int .i32 p0, .int .i32 t0] 92 (0, 0))) := ⟨by rw [hwq]; exact blk_drew (blk_new wp _)⟩
  have HQ1 : Aside0 (wq.heap[w.heap.size]? = some (.cells #[.string s] 81 (0, 0))) := ⟨(HBq.block _ (blk_lt HC0.out)).trans HC0.out⟩
  have hq0 := (blk_cell HQ0.out 0).trans rfl
  have hq1 := (blk_cell HQ0.out 1).trans rfl
  have hq2 := (blk_cell HQ0.out 2).trans rfl
  have hq3 := (blk_cell HQ1.out 0).trans rfl
  rw [← hwq]
  clear hwq HBq hz0 hz1 hz2 hHeld HWa HA0 HA1
  go_wp2_with (go_at_call 78; refine (delete_calls wq g b n c f HWq.out s HS.out).mono ?_; rintro e w6 ⟨rfl, hw, hf6⟩; have HW6 := Aside0.mk hw; have HF6 := Aside0.mk (HFq.out.trans hf6); clear hw hf6)
  go_ret
  exact ⟨rfl, HW6.out, HF6.out⟩
theorem remove_calls (w : World) (g b n c : Nat) (f : WF) (h : WL w g b n f c) (s : ByteArray) (hs : s.size ≤ maxLen) :
    Calls Tryd.prog 38 #[.pointer (some ⟨g, 0, none⟩), .agg #[.string s]] w fun e w' => e = .returned (.bool (f s).isSome) ∧ WL w' g b n (fdel f s) (cdel f s c) ∧ Frm w w' g b := by
  cases hf : f s with
  | none =>
    rw [fdel_none hf, cdel_none c hf]
    exact remove_miss w g b n c f h s hs hf
  | some v => exact remove_hit w g b n c f h s hs v.1 v.2 hf
set_option maxHeartbeats 8000000 in
set_option maxRecDepth 100000 in
theorem rty_miss (w : World) (g b n c : Nat) (f : WF) (h : WL w g b n f c) (s : ByteArray) (hs : s.size ≤ maxLen) (t : Int) (hf : f s = none) :
    Calls Tryd.prog 39 #[.pointer (some ⟨g, 0, none⟩), .agg #[.string s], .int .i32 t] w fun e w' => e = .returned (.bool false) ∧ WL w' g b n f c ∧ Frm w w' g b := by
  obtain ⟨wp, hwp⟩ : ∃ wp, wp = w.alloc (.cells #[.string s] 81) := ⟨_, rfl⟩
  have HWp : Aside0 (WL wp g b n f c) := ⟨by rw [hwp]; exact h.below (below_alloc (Below.refl _ _) _)⟩
  have HFp : Aside0 (Frm w wp g b) := ⟨by rw [hwp]; exact Frm.of_below (below_alloc (Below.refl _ _) _) g b⟩
  have hc0 : wp.heap[w.heap.size]? = some (.cells #[.string s] 81 (0, 0)) := by rw [hwp]; exact blk_new w _
  have HC0 := Aside0.mk hc0
  have HS := Aside0.mk hs
  have HFS := Aside0.mk hf
  clear h hs hc0 hf
  go_enter Tryd.func39, Tryd.ntmps39
  go_upto_region 1 with fail
  rw [← hwp]
  clear hwp
  have HWd : Aside0 (WL wp.drew g b n f c) := ⟨HWp.out.below (below_drew (Below.refl _ _))⟩
  have hz0 : wp.drew.cell? ⟨g, 0, none⟩ = some (.map (some b)) := (blk_cell HWd.out.blk 0).trans rfl
  have hz1 : wp.drew.cell? ⟨w.heap.size, 0, none⟩ = some (.string s) := (blk_cell (blk_drew HC0.out) 0).trans rfl
  have hz2 := wmap_run_miss (HWd.out.map) s HS.out HFS.out
  have HWa : Aside0 (WL (wp.drew.alloc (.cells #[.string ⟨#[]⟩, .int .i32 0, .int .i32 0] 92)) g b n f c) := ⟨HWd.out.below (below_alloc (Below.refl _ _) _)⟩
  have HA0 := Aside0.mk HWa.out.blk
  have HA1 := Aside0.mk (blk_alloc (blk_drew HC0.out) (.cells #[.string ⟨#[]⟩, .int .i32 0, .int .i32 0] 92))
  refine start_ (n := 12) (S := fun w' => w'.cell? ⟨g, 0, none⟩ = some (.map (some b)) ∧ w'.cell? ⟨w.heap.size, 0, none⟩ = some (.string s) ∧ (Instr.lookup 139 (.map (some b)) (.agg #[.string s]) true).run Tryd.prog w' = .ok (.tuple #[.agg #[.string ⟨#[]⟩, .int .i32 0, .int .i32 0], .bool false]) w') (ds := [10]) #[false, false, false, false, false, false, false, false, false, false, false, false] (by kernel_rfl) rfl rfl ⟨hz0, hz1, hz2⟩ (fun hHeld => ?_)
  refine pure_ (i := 0) (N := some 10) (v := ?_) (a' := ?_) #[true, false, false, false, false, false, false, false, false, false, false, false] rfl rfl (by kernel_rfl) (fun _ _ _ h => h) (Or.inl ⟨by rfl, ?_⟩) ?_ ?_
  rotate_left
  · intro w'
    go_simp
    with_reducible rfl
  rotate_left
  · simp only [Act.put, List.setIfInBounds_toArray, List.set_cons_zero, List.set_cons_succ, i64_w, i32_w]
    rfl
  refine pure_ (i := 1) (N := some 11) (v := ?_) (a' := ?_) #[true, true, false, false, false, false, false, false, false, false, false, false] rfl rfl (by kernel_rfl) (fun _ _ _ h => h) (Or.inl ⟨by rfl, ?_⟩) ?_ ?_
  rotate_left
  · intro w'
    go_simp
    with_reducible rfl
  rotate_left
  · simp only [Act.put, List.setIfInBounds_toArray, List.set_cons_zero, List.set_cons_succ, i64_w, i32_w]
    rfl
  refine pure_ (i := 2) (N := some 12) (v := ?_) (a' := ?_) #[true, true, true, false, false, false, false, false, false, false, false, false] rfl rfl (by kernel_rfl) (fun _ _ _ h => h) (Or.inl ⟨by rfl, ?_⟩) ?_ ?_
  rotate_left
  · intro w'
    go_simp
    with_reducible rfl
  rotate_left
  · simp only [Act.put, List.setIfInBounds_toArray, List.set_cons_zero, List.set_cons_succ, i64_w, i32_w]
    rfl
  refine take_ (i := 3) (N := some 13) (v := ?_) (a' := ?_) #[true, true, true, true, false, false, false, false, false, false, false, false] rfl rfl (by kernel_rfl) (fun _ _ _ h => h) (Or.inl ⟨by rfl, ?_⟩) hHeld ?_ ?_
  rotate_left
  · rintro w' ⟨s0, s1, s2⟩
    go_simp
    with_reducible rfl
  rotate_left
  · simp only [Act.put, List.setIfInBounds_toArray, List.set_cons_zero, List.set_cons_succ, i64_w, i32_w]
    rfl
  refine take_ (i := 4) (N := some 14) (v := ?_) (a' := ?_) #[true, true, true, true, true, false, false, false, false, false, false, false] rfl rfl (by kernel_rfl) (fun _ _ _ h => h) (Or.inl ⟨by rfl, ?_⟩) hHeld ?_ ?_
  rotate_left
  · rintro w' ⟨s0, s1, s2⟩
    go_simp
    with_reducible rfl
  rotate_left
  · simp only [Act.put, List.setIfInBounds_toArray, List.set_cons_zero, List.set_cons_succ, i64_w, i32_w]
    rfl
  refine take_ (i := 5) (N := some 15) (v := ?_) (a' := ?_) #[true, true, true, true, true, true, false, false, false, false, false, false] rfl rfl (by kernel_rfl) (fun _ _ _ h => h) (Or.inl ⟨by rfl, ?_⟩) hHeld ?_ ?_
  rotate_left
  · rintro w' ⟨s0, s1, s2⟩
    go_simp
    with_reducible rfl
  rotate_left
  · simp only [Act.put, List.setIfInBounds_toArray, List.set_cons_zero, List.set_cons_succ, i64_w, i32_w]
    rfl
  refine pure_ (i := 6) (N := some 9) (v := ?_) (a' := ?_) #[true, true, true, true, true, true, true, false, false, false, false, false] rfl rfl (by kernel_rfl) (fun _ _ _ h => h) (Or.inl ⟨by rfl, ?_⟩) ?_ ?_
  rotate_left
  · intro w'
    go_simp
    with_reducible rfl
  rotate_left
  · simp only [Act.put, List.setIfInBounds_toArray, List.set_cons_zero, List.set_cons_succ, i64_w, i32_w]
    rfl
  refine pure_ (i := 7) (N := some 16) (v := ?_) (a' := ?_) #[true, true, true, true, true, true, true, true, false, false, false, false] rfl rfl (by kernel_rfl) (fun _ _ _ h => h) (Or.inl ⟨by rfl, ?_⟩) ?_ ?_
  rotate_left
  · intro w'
    go_simp
    with_reducible rfl
  rotate_left
  · simp only [Act.put, List.setIfInBounds_toArray, List.set_cons_zero, List.set_cons_succ, i64_w, i32_w]
    rfl
  refine pure_ (i := 8) (N := some 17) (v := ?_) (a' := ?_) #[true, true, true, true, true, true, true, true, true, false, false, false] rfl rfl (by kernel_rfl) (fun _ _ _ h => h) (Or.inl ⟨by rfl, ?_⟩) ?_ ?_
  rotate_left
  · intro w'
    go_simp
    with_reducible rfl
  rotate_left
  · simp only [Act.put, List.setIfInBounds_toArray, List.set_cons_zero, List.set_cons_succ, i64_w, i32_w]
    rfl
  refine one_ (i := 9) (N := some 7) #[true, true, true, true, true, true, true, true, true, true, false, false] rfl rfl (by kernel_rfl) (by decide) (fun K hK => ?_)
  refine value_ (w1 := ?_) (v := ?_) (by rfl) rfl ?_ ?_
  rotate_left 2
  · go_simp
    constructor
    · rfl
    · rfl
  refine hK.out _ _ ⟨(blk_cell HA0.out 0).trans rfl, (blk_cell HA1.out 0).trans rfl, wmap_run_miss (HWa.out.map) s HS.out HFS.out⟩ (fun hHeld => ?_)
  clear hK K
  refine norm_ (a' := ?_) ?_ ?_
  rotate_left
  · show Act.put _ (some 7) _ = _
    simp only [Act.put, List.setIfInBounds_toArray, List.set_cons_zero, List.set_cons_succ, i64_w, i32_w]
    rfl
  refine last_ (i := 10) (N := none) #[true, true, true, true, true, true, true, true, true, true, true, false] rfl rfl (by kernel_rfl) (by decide) (fun K hK => ?_)
  refine skip_ (w1 := ?_) (by rfl) rfl ?_ ?_
  rotate_left
  · go_simp
    rfl
  refine hK.out _ _ ?_
  clear hK K
  refine pure_ (i := 11) (N := some 8) (v := ?_) (a' := ?_) #[true, true, true, true, true, true, true, true, true, true, true, true] rfl rfl (by kernel_rfl) (fun _ _ _ h => h) (Or.inl ⟨by rfl, ?_⟩) ?_ ?_
  rotate_left
  · intro w'
    go_simp
    with_reducible rfl
  rotate_left
  · simp only [Act.put, List.setIfInBounds_toArray, List.set_cons_zero, List.set_cons_succ, i64_w, i32_w]
    rfl
  refine done_ (by kernel_rfl) ?_
  obtain ⟨wq, hwq⟩ : ∃ wq, wq = (wp.alloc (.cells #[.string ⟨#[]⟩, .int .i32 0, .int .i32 0] 92)).drew := ⟨_, rfl⟩
  have HBq : Below wp.heap.size wp wq := by rw [hwq]; exact below_drew (below_alloc (Below.refl _ _) _)
  have HWq : Aside0 (WL wq g b n f c) := ⟨HWp.out.below HBq⟩
  have HFq : Aside0 (Frm w wq g b) := ⟨HFp.out.trans (Frm.of_below HBq g b)⟩
  have HQ0 : Aside0 (wq.heap[wp.heap.size]? = some (.cells #[.string ⟨#[]⟩, .int .i32 0, .int .i32 0] 92 (0, 0))) := ⟨by rw [hwq]; exact blk_drew (blk_new wp _)⟩
  have HQ1 : Aside0 (wq.heap[w.heap.size]? = some (.cells #[.string s] 81 (0, 0))) := ⟨(HBq.block _ (blk_lt HC0.out)).trans HC0.out⟩
  have hq0 := (blk_cell HQ0.out 0).trans rfl
  have hq1 := (blk_cell HQ0.out 1).trans rfl
  have hq2 := (blk_cell HQ0.out 2).trans rfl
  have hq3 := (blk_cell HQ1.out 0).trans rfl
  rw [← hwq]
  clear hwq HBq hz0 hz1 hz2 hHeld HWa HA0 HA1
  go_wp2_with fail
  go_ret
  exact ⟨rfl, HWq.out, HFq.out⟩
set_option maxHeartbeats 8000000 in
set_option maxRecDepth 100000 in
theorem rty_keep (w : World) (g b n c : Nat) (f : WF) (h : WL w g b n f c) (s : ByteArray) (hs : s.size ≤ maxLen) (t p0 t0 : Int) (hf : f s = some (p0, t0)) (h0 : t0 = 0) (h1 : t = 1) :
    Calls Tryd.prog 39 #[.pointer (some ⟨g, 0, none⟩), .agg #[.string s], .int .i32 t] w fun e w' => e = .returned (.bool false) ∧ WL w' g b n f c ∧ Frm w w' g b := by
  obtain ⟨wp, hwp⟩ : ∃ wp, wp = w.alloc (.cells #[.string s] 81) := ⟨_, rfl⟩
  have HWp : Aside0 (WL wp g b n f c) := ⟨by rw [hwp]; exact h.below (below_alloc (Below.refl _ _) _)⟩
  have HFp : Aside0 (Frm w wp g b) := ⟨by rw [hwp]; exact Frm.of_below (below_alloc (Below.refl _ _) _) g b⟩
  have hc0 : wp.heap[w.heap.size]? = some (.cells #[.string s] 81 (0, 0)) := by rw [hwp]; exact blk_new w _
  have HC0 := Aside0.mk hc0
  have HS := Aside0.mk hs
  have HFS := Aside0.mk hf
  clear h hs hc0 hf
  go_enter Tryd.func39, Tryd.ntmps39
  go_upto_region 1 with fail
  rw [← hwp]
  clear hwp
  subst h0
  subst h1
  have HWd : Aside0 (WL wp.drew g b n f c) := ⟨HWp.out.below (below_drew (Below.refl _ _))⟩
  have hz0 : wp.drew.cell? ⟨g, 0, none⟩ = some (.map (some b)) := (blk_cell HWd.out.blk 0).trans rfl
  have hz1 : wp.drew.cell? ⟨w.heap.size, 0, none⟩ = some (.string s) := (blk_cell (blk_drew HC0.out) 0).trans rfl
  have hz2 := wmap_run_hit (HWd.out.map) s HS.out p0 0 HFS.out
  have HWa : Aside0 (WL (wp.drew.alloc (.cells #[.string ⟨#[]⟩, .int .i32 0, .int .i32 0] 92)) g b n f c) := ⟨HWd.out.below (below_alloc (Below.refl _ _) _)⟩
  have HA0 := Aside0.mk HWa.out.blk
  have HA1 := Aside0.mk (blk_alloc (blk_drew HC0.out) (.cells #[.string ⟨#[]⟩, .int .i32 0, .int .i32 0] 92))
  refine start_ (n := 12) (S := fun w' => w'.cell? ⟨g, 0, none⟩ = some (.map (some b)) ∧ w'.cell? ⟨w.heap.size, 0, none⟩ = some (.string s) ∧ (Instr.lookup 139 (.map (some b)) (.agg #[.string s]) true).run Tryd.prog w' = .ok (.tuple #[.agg #[.string s, .int .i32 p0, .int .i32 0], .bool true]) w') (ds := [10]) #[false, false, false, false, false, false, false, false, false, false, false, false] (by kernel_rfl) rfl rfl ⟨hz0, hz1, hz2⟩ (fun hHeld => ?_)
  refine pure_ (i := 0) (N := some 10) (v := ?_) (a' := ?_) #[true, false, false, false, false, false, false, false, false, false, false, false] rfl rfl (by kernel_rfl) (fun _ _ _ h => h) (Or.inl ⟨by rfl, ?_⟩) ?_ ?_
  rotate_left
  · intro w'
    go_simp
    with_reducible rfl
  rotate_left
  · simp only [Act.put, List.setIfInBounds_toArray, List.set_cons_zero, List.set_cons_succ, i64_w, i32_w]
    rfl
  refine pure_ (i := 1) (N := some 11) (v := ?_) (a' := ?_) #[true, true, false, false, false, false, false, false, false, false, false, false] rfl rfl (by kernel_rfl) (fun _ _ _ h => h) (Or.inl ⟨by rfl, ?_⟩) ?_ ?_
  rotate_left
  · intro w'
    go_simp
    with_reducible rfl
  rotate_left
  · simp only [Act.put, List.setIfInBounds_toArray, List.set_cons_zero, List.set_cons_succ, i64_w, i32_w]
    rfl
  refine pure_ (i := 2) (N := some 12) (v := ?_) (a' := ?_) #[true, true, true, false, false, false, false, false, false, false, false, false] rfl rfl (by kernel_rfl) (fun _ _ _ h => h) (Or.inl ⟨by rfl, ?_⟩) ?_ ?_
  rotate_left
  · intro w'
    go_simp
    with_reducible rfl
  rotate_left
  · simp only [Act.put, List.setIfInBounds_toArray, List.set_cons_zero, List.set_cons_succ, i64_w, i32_w]
    rfl
  refine take_ (i := 3) (N := some 13) (v := ?_) (a' := ?_) #[true, true, true, true, false, false, false, false, false, false, false, false] rfl rfl (by kernel_rfl) (fun _ _ _ h => h) (Or.inl ⟨by rfl, ?_⟩) hHeld ?_ ?_
  rotate_left
  · rintro w' ⟨s0, s1, s2⟩
    go_simp
    with_reducible rfl
  rotate_left
  · simp only [Act.put, List.setIfInBounds_toArray, List.set_cons_zero, List.set_cons_succ, i64_w, i32_w]
    rfl
  refine take_ (i := 4) (N := some 14) (v := ?_) (a' := ?_) #[true, true, true, true, true, false, false, false, false, false, false, false] rfl rfl (by kernel_rfl) (fun _ _ _ h => h) (Or.inl ⟨by rfl, ?_⟩) hHeld ?_ ?_
  rotate_left
  · rintro w' ⟨s0, s1, s2⟩
    go_simp
    with_reducible rfl
  rotate_left
  · simp only [Act.put, List.setIfInBounds_toArray, List.set_cons_zero, List.set_cons_succ, i64_w, i32_w]
    rfl
  refine take_ (i := 5) (N := some 15) (v := ?_) (a' := ?_) #[true, true, true, true, true, true, false, false, false, false, false, false] rfl rfl (by kernel_rfl) (fun _ _ _ h => h) (Or.inl ⟨by rfl, ?_⟩) hHeld ?_ ?_
  rotate_left
  · rintro w' ⟨s0, s1, s2⟩
    go_simp
    with_reducible rfl
  rotate_left
  · simp only [Act.put, List.setIfInBounds_toArray, List.set_cons_zero, List.set_cons_succ, i64_w, i32_w]
    rfl
  refine pure_ (i := 6) (N := some 9) (v := ?_) (a' := ?_) #[true, true, true, true, true, true, true, false, false, false, false, false] rfl rfl (by kernel_rfl) (fun _ _ _ h => h) (Or.inl ⟨by rfl, ?_⟩) ?_ ?_
  rotate_left
  · intro w'
    go_simp
    with_reducible rfl
  rotate_left
  · simp only [Act.put, List.setIfInBounds_toArray, List.set_cons_zero, List.set_cons_succ, i64_w, i32_w]
    rfl
  refine pure_ (i := 7) (N := some 16) (v := ?_) (a' := ?_) #[true, true, true, true, true, true, true, true, false, false, false, false] rfl rfl (by kernel_rfl) (fun _ _ _ h => h) (Or.inl ⟨by rfl, ?_⟩) ?_ ?_
  rotate_left
  · intro w'
    go_simp
    with_reducible rfl
  rotate_left
  · simp only [Act.put, List.setIfInBounds_toArray, List.set_cons_zero, List.set_cons_succ, i64_w, i32_w]
    rfl
  refine pure_ (i := 8) (N := some 17) (v := ?_) (a' := ?_) #[true, true, true, true, true, true, true, true, true, false, false, false] rfl rfl (by kernel_rfl) (fun _ _ _ h => h) (Or.inl ⟨by rfl, ?_⟩) ?_ ?_
  rotate_left
  · intro w'
    go_simp
    with_reducible rfl
  rotate_left
  · simp only [Act.put, List.setIfInBounds_toArray, List.set_cons_zero, List.set_cons_succ, i64_w, i32_w]
    rfl
  refine one_ (i := 9) (N := some 7) #[true, true, true, true, true, true, true, true, true, true, false, false] rfl rfl (by kernel_rfl) (by decide) (fun K hK => ?_)
  refine value_ (w1 := ?_) (v := ?_) (by rfl) rfl ?_ ?_
  rotate_left 2
  · go_simp
    constructor
    · rfl
    · rfl
  refine hK.out _ _ ⟨(blk_cell HA0.out 0).trans rfl, (blk_cell HA1.out 0).trans rfl, wmap_run_hit (HWa.out.map) s HS.out p0 0 HFS.out⟩ (fun hHeld => ?_)
  clear hK K
  refine norm_ (a' := ?_) ?_ ?_
  rotate_left
  · show Act.put _ (some 7) _ = _
    simp only [Act.put, List.setIfInBounds_toArray, List.set_cons_zero, List.set_cons_succ, i64_w, i32_w]
    rfl
  refine last_ (i := 10) (N := none) #[true, true, true, true, true, true, true, true, true, true, true, false] rfl rfl (by kernel_rfl) (by decide) (fun K hK => ?_)
  refine skip_ (w1 := ?_) (by rfl) rfl ?_ ?_
  rotate_left
  · go_simp
    rfl
  refine hK.out _ _ ?_
  clear hK K
  refine pure_ (i := 11) (N := some 8) (v := ?_) (a' := ?_) #[true, true, true, true, true, true, true, true, true, true, true, true] rfl rfl (by kernel_rfl) (fun _ _ _ h => h) (Or.inl ⟨by rfl, ?_⟩) ?_ ?_
  rotate_left
  · intro w'
    go_simp
    with_reducible rfl
  rotate_left
  · simp only [Act.put, List.setIfInBounds_toArray, List.set_cons_zero, List.set_cons_succ, i64_w, i32_w]
    rfl
  refine done_ (by kernel_rfl) ?_
  obtain ⟨wq, hwq⟩ : ∃ wq, wq = (wp.alloc (.cells #[.string s, .int .i32 p0, .int .i32 0] 92)).drew := ⟨_, rfl⟩
  have HBq : Below wp.heap.size wp wq := by rw [hwq]; exact below_drew (below_alloc (Below.refl _ _) _)
  have HWq : Aside0 (WL wq g b n f c) := ⟨HWp.out.below HBq⟩
  have HFq : Aside0 (Frm w wq g b) := ⟨HFp.out.trans (Frm.of_below HBq g b)⟩
  have HQ0 : Aside0 (wq.heap[wp.heap.size]? = some (.cells #[.string s, .int .i32 p0, .int .i32 0] 92 (0, 0))) := ⟨by rw [hwq]; exact blk_drew (blk_new wp _)⟩
  have HQ1 : Aside0 (wq.heap[w.heap.size]? = some (.cells #[.string s] 81 (0, 0))) := ⟨(HBq.block _ (blk_lt HC0.out)).trans HC0.out⟩
  have hq0 := (blk_cell HQ0.out 0).trans rfl
  have hq1 := (blk_cell HQ0.out 1).trans rfl
  have hq2 := (blk_cell HQ0.out 2).trans rfl
  have hq3 := (blk_cell HQ1.out 0).trans rfl
  rw [← hwq]
  clear hwq HBq hz0 hz1 hz2 hHeld HWa HA0 HA1
  go_wp2_with fail
  go_ret
  exact ⟨rfl, HWq.out, HFq.out⟩
set_option maxHeartbeats 8000000 in
set_option maxRecDepth 100000 in
theorem rty_other (w : World) (g b n c : Nat) (f : WF) (h : WL w g b n f c) (s : ByteArray) (hs : s.size ≤ maxLen) (t p0 t0 : Int) (hf : f s = some (p0, t0)) (h0 : t0 ≠ 0) :
    Calls Tryd.prog 39 #[.pointer (some ⟨g, 0, none⟩), .agg #[.string s], .int .i32 t] w fun e w' => e = .returned (.bool true) ∧ WL w' g b n (fdel f s) (cdel f s c) ∧ Frm w w' g b := by
  obtain ⟨wp, hwp⟩ : ∃ wp, wp = w.alloc (.cells #[.string s] 81) := ⟨_, rfl⟩
  have HWp : Aside0 (WL wp g b n f c) := ⟨by rw [hwp]; exact h.below (below_alloc (Below.refl _ _) _)⟩
  have HFp : Aside0 (Frm w wp g b) := ⟨by rw [hwp]; exact Frm.of_below (below_alloc (Below.refl _ _) _) g b⟩
  have hc0 : wp.heap[w.heap.size]? = some (.cells #[.string s] 81 (0, 0)) := by rw [hwp]; exact blk_new w _
  have HC0 := Aside0.mk hc0
  have HS := Aside0.mk hs
  have HFS := Aside0.mk hf
  clear h hs hc0 hf
  go_enter Tryd.func39, Tryd.ntmps39
  go_upto_region 1 with fail
  rw [← hwp]
  clear hwp
  have c0 : (t0 == 0) = false := beq_eq_false_iff_ne.mpr h0
  clear h0
  have HWd : Aside0 (WL wp.drew g b n f c) := ⟨HWp.out.below (below_drew (Below.refl _ _))⟩
  have hz0 : wp.drew.cell? ⟨g, 0, none⟩ = some (.map (some b)) := (blk_cell HWd.out.blk 0).trans rfl
  have hz1 : wp.drew.cell? ⟨w.heap.size, 0, none⟩ = some (.string s) := (blk_cell (blk_drew HC0.out) 0).trans rfl
  have hz2 := wmap_run_hit (HWd.out.map) s HS.out p0 t0 HFS.out
  have HWa : Aside0 (WL (wp.drew.alloc (.cells #[.string ⟨#[]⟩, .int .i32 0, .int .i32 0] 92)) g b n f c) := ⟨HWd.out.below (below_alloc (Below.refl _ _) _)⟩
  have HA0 := Aside0.mk HWa.out.blk
  have HA1 := Aside0.mk (blk_alloc (blk_drew HC0.out) (.cells #[.string ⟨#[]⟩, .int .i32 0, .int .i32 0] 92))
  refine start_ (n := 12) (S := fun w' => w'.cell? ⟨g, 0, none⟩ = some (.map (some b)) ∧ w'.cell? ⟨w.heap.size, 0, none⟩ = some (.string s) ∧ (Instr.lookup 139 (.map (some b)) (.agg #[.string s]) true).run Tryd.prog w' = .ok (.tuple #[.agg #[.string s, .int .i32 p0, .int .i32 t0], .bool true]) w') (ds := [10]) #[false, false, false, false, false, false, false, false, false, false, false, false] (by kernel_rfl) rfl rfl ⟨hz0, hz1, hz2⟩ (fun hHeld => ?_)
  refine pure_ (i := 0) (N := some 10) (v := ?_) (a' := ?_) #[true, false, false, false, false, false, false, false, false, false, false, false] rfl rfl (by kernel_rfl) (fun _ _ _ h => h) (Or.inl ⟨by rfl, ?_⟩) ?_ ?_
  rotate_left
  · intro w'
    go_simp
    with_reducible rfl
  rotate_left
  · simp only [Act.put, List.setIfInBounds_toArray, List.set_cons_zero, List.set_cons_succ, i64_w, i32_w]
    rfl
  refine pure_ (i := 1) (N := some 11) (v := ?_) (a' := ?_) #[true, true, false, false, false, false, false, false, false, false, false, false] rfl rfl (by kernel_rfl) (fun _ _ _ h => h) (Or.inl ⟨by rfl, ?_⟩) ?_ ?_
  rotate_left
  · intro w'
    go_simp
    with_reducible rfl
  rotate_left
  · simp only [Act.put, List.setIfInBounds_toArray, List.set_cons_zero, List.set_cons_succ, i64_w, i32_w]
    rfl
  refine pure_ (i := 2) (N := some 12) (v := ?_) (a' := ?_) #[true, true, true, false, false, false, false, false, false, false, false, false] rfl rfl (by kernel_rfl) (fun _ _ _ h => h) (Or.inl ⟨by rfl, ?_⟩) ?_ ?_
  rotate_left
  · intro w'
    go_simp
    with_reducible rfl
  rotate_left
  · simp only [Act.put, List.setIfInBounds_toArray, List.set_cons_zero, List.set_cons_succ, i64_w, i32_w]
    rfl
  refine take_ (i := 3) (N := some 13) (v := ?_) (a' := ?_) #[true, true, true, true, false, false, false, false, false, false, false, false] rfl rfl (by kernel_rfl) (fun _ _ _ h => h) (Or.inl ⟨by rfl, ?_⟩) hHeld ?_ ?_
  rotate_left
  · rintro w' ⟨s0, s1, s2⟩
    go_simp
    with_reducible rfl
  rotate_left
  · simp only [Act.put, List.setIfInBounds_toArray, List.set_cons_zero, List.set_cons_succ, i64_w, i32_w]
    rfl
  refine take_ (i := 4) (N := some 14) (v := ?_) (a' := ?_) #[true, true, true, true, true, false, false, false, false, false, false, false] rfl rfl (by kernel_rfl) (fun _ _ _ h => h) (Or.inl ⟨by rfl, ?_⟩) hHeld ?_ ?_
  rotate_left
  · rintro w' ⟨s0, s1, s2⟩
    go_simp
    with_reducible rfl
  rotate_left
  · simp only [Act.put, List.setIfInBounds_toArray, List.set_cons_zero, List.set_cons_succ, i64_w, i32_w]
    rfl
  refine take_ (i := 5) (N := some 15) (v := ?_) (a' := ?_) #[true, true, true, true, true, true, false, false, false, false, false, false] rfl rfl (by kernel_rfl) (fun _ _ _ h => h) (Or.inl ⟨by rfl, ?_⟩) hHeld ?_ ?_
  rotate_left
  · rintro w' ⟨s0, s1, s2⟩
    go_simp
    with_reducible rfl
  rotate_left
  · simp only [Act.put, List.setIfInBounds_toArray, List.set_cons_zero, List.set_cons_succ, i64_w, i32_w]
    rfl
  refine pure_ (i := 6) (N := some 9) (v := ?_) (a' := ?_) #[true, true, true, true, true, true, true, false, false, false, false, false] rfl rfl (by kernel_rfl) (fun _ _ _ h => h) (Or.inl ⟨by rfl, ?_⟩) ?_ ?_
  rotate_left
  · intro w'
    go_simp
    with_reducible rfl
  rotate_left
  · simp only [Act.put, List.setIfInBounds_toArray, List.set_cons_zero, List.set_cons_succ, i64_w, i32_w]
    rfl
  refine pure_ (i := 7) (N := some 16) (v := ?_) (a' := ?_) #[true, true, true, true, true, true, true, true, false, false, false, false] rfl rfl (by kernel_rfl) (fun _ _ _ h => h) (Or.inl ⟨by rfl, ?_⟩) ?_ ?_
  rotate_left
  · intro w'
    go_simp
    with_reducible rfl
  rotate_left
  · simp only [Act.put, List.setIfInBounds_toArray, List.set_cons_zero, List.set_cons_succ, i64_w, i32_w]
    rfl
  refine pure_ (i := 8) (N := some 17) (v := ?_) (a' := ?_) #[true, true, true, true, true, true, true, true, true, false, false, false] rfl rfl (by kernel_rfl) (fun _ _ _ h => h) (Or.inl ⟨by rfl, ?_⟩) ?_ ?_
  rotate_left
  · intro w'
    go_simp
    with_reducible rfl
  rotate_left
  · simp only [Act.put, List.setIfInBounds_toArray, List.set_cons_zero, List.set_cons_succ, i64_w, i32_w]
    rfl
  refine one_ (i := 9) (N := some 7) #[true, true, true, true, true, true, true, true, true, true, false, false] rfl rfl (by kernel_rfl) (by decide) (fun K hK => ?_)
  refine value_ (w1 := ?_) (v := ?_) (by rfl) rfl ?_ ?_
  rotate_left 2
  · go_simp
    constructor
    · rfl
    · rfl
  refine hK.out _ _ ⟨(blk_cell HA0.out 0).trans rfl, (blk_cell HA1.out 0).trans rfl, wmap_run_hit (HWa.out.map) s HS.out p0 t0 HFS.out⟩ (fun hHeld => ?_)
  clear hK K
  refine norm_ (a' := ?_) ?_ ?_
  rotate_left
  · show Act.put _ (some 7) _ = _
    simp only [Act.put, List.setIfInBounds_toArray, List.set_cons_zero, List.set_cons_succ, i64_w, i32_w]
    rfl
  refine last_ (i := 10) (N := none) #[true, true, true, true, true, true, true, true, true, true, true, false] rfl rfl (by kernel_rfl) (by decide) (fun K hK => ?_)
  refine skip_ (w1 := ?_) (by rfl) rfl ?_ ?_
  rotate_left
  · go_simp
    rfl
  refine hK.out _ _ ?_
  clear hK K
  refine pure_ (i := 11) (N := some 8) (v := ?_) (a' := ?_) #[true, true, true, true, true, true, true, true, true, true, true, true] rfl rfl (by kernel_rfl) (fun _ _ _ h => h) (Or.inl ⟨by rfl, ?_⟩) ?_ ?_
  rotate_left
  · intro w'
    go_simp
    with_reducible rfl
  rotate_left
  · simp only [Act.put, List.setIfInBounds_toArray, List.set_cons_zero, List.set_cons_succ, i64_w, i32_w]
    rfl
  refine done_ (by kernel_rfl) ?_
  obtain ⟨wq, hwq⟩ : ∃ wq, wq = (wp.alloc (.cells #[.string s, .int .i32 p0, .int .i32 t0] 92)).drew := ⟨_, rfl⟩
  have HBq : Below wp.heap.size wp wq := by rw [hwq]; exact below_drew (below_alloc (Below.refl _ _) _)
  have HWq : Aside0 (WL wq g b n f c) := ⟨HWp.out.below HBq⟩
  have HFq : Aside0 (Frm w wq g b) := ⟨HFp.out.trans (Frm.of_below HBq g b)⟩
  have HQ0 : Aside0 (wq.heap[wp.heap.size]? = some (.cells #[.string s, .int .i32 p0, .int .i32 t0] 92 (0, 0))) := ⟨by rw [hwq]; exact blk_drew (blk_new wp _)⟩
  have HQ1 : Aside0 (wq.heap[w.heap.size]? = some (.cells #[.string s] 81 (0, 0))) := ⟨(HBq.block _ (blk_lt HC0.out)).trans HC0.out⟩
  have hq0 := (blk_cell HQ0.out 0).trans rfl
  have hq1 := (blk_cell HQ0.out 1).trans rfl
  have hq2 := (blk_cell HQ0.out 2).trans rfl
  have hq3 := (blk_cell HQ1.out 0).trans rfl
  rw [← hwq]
  clear hwq HBq hz0 hz1 hz2 hHeld HWa HA0 HA1
  go_wp2_with (go_at_call 78; refine (delete_calls wq g b n c f HWq.out s HS.out).mono ?_; rintro e w6 ⟨rfl, hw, hf6⟩; have HW6 := Aside0.mk hw; have HF6 := Aside0.mk (HFq.out.trans hf6); clear hw hf6)
  go_ret
  exact ⟨rfl, HW6.out, HF6.out⟩
set_option maxHeartbeats 8000000 in
set_option maxRecDepth 100000 in
theorem rty_block (w : World) (g b n c : Nat) (f : WF) (h : WL w g b n f c) (s : ByteArray) (hs : s.size ≤ maxLen) (t p0 t0 : Int) (hf : f s = some (p0, t0)) (h0 : t0 = 0) (h1 : t ≠ 1) :
    Calls Tryd.prog 39 #[.pointer (some ⟨g, 0, none⟩), .agg #[.string s], .int .i32 t] w fun e w' => e = .returned (.bool true) ∧ WL w' g b n (fdel f s) (cdel f s c) ∧ Frm w w' g b := by
  obtain ⟨wp, hwp⟩ : ∃ wp, wp = w.alloc (.cells #[.string s] 81) := ⟨_, rfl⟩
  have HWp : Aside0 (WL wp g b n f c) := ⟨by rw [hwp]; exact h.below (below_alloc (Below.refl _ _) _)⟩
  have HFp : Aside0 (Frm w wp g b) := ⟨by rw [hwp]; exact Frm.of_below (below_alloc (Below.refl _ _) _) g b⟩
  have hc0 : wp.heap[w.heap.size]? = some (.cells #[.string s] 81 (0, 0)) := by rw [hwp]; exact blk_new w _
  have HC0 := Aside0.mk hc0
  have HS := Aside0.mk hs
  have HFS := Aside0.mk hf
  clear h hs hc0 hf
  go_enter Tryd.func39, Tryd.ntmps39
  go_upto_region 1 with fail
  rw [← hwp]
  clear hwp
  have c1 : (t == 1) = false := beq_eq_false_iff_ne.mpr h1
  subst h0
  clear h1
  have HWd : Aside0 (WL wp.drew g b n f c) := ⟨HWp.out.below (below_drew (Below.refl _ _))⟩
  have hz0 : wp.drew.cell? ⟨g, 0, none⟩ = some (.map (some b)) := (blk_cell HWd.out.blk 0).trans rfl
  have hz1 : wp.drew.cell? ⟨w.heap.size, 0, none⟩ = some (.string s) := (blk_cell (blk_drew HC0.out) 0).trans rfl
  have hz2 := wmap_run_hit (HWd.out.map) s HS.out p0 0 HFS.out
  have HWa : Aside0 (WL (wp.drew.alloc (.cells #[.string ⟨#[]⟩, .int .i32 0, .int .i32 0] 92)) g b n f c) := ⟨HWd.out.below (below_alloc (Below.refl _ _) _)⟩
  have HA0 := Aside0.mk HWa.out.blk
  have HA1 := Aside0.mk (blk_alloc (blk_drew HC0.out) (.cells #[.string ⟨#[]⟩, .int .i32 0, .int .i32 0] 92))
  refine start_ (n := 12) (S := fun w' => w'.cell? ⟨g, 0, none⟩ = some (.map (some b)) ∧ w'.cell? ⟨w.heap.size, 0, none⟩ = some (.string s) ∧ (Instr.lookup 139 (.map (some b)) (.agg #[.string s]) true).run Tryd.prog w' = .ok (.tuple #[.agg #[.string s, .int .i32 p0, .int .i32 0], .bool true]) w') (ds := [10]) #[false, false, false, false, false, false, false, false, false, false, false, false] (by kernel_rfl) rfl rfl ⟨hz0, hz1, hz2⟩ (fun hHeld => ?_)
  refine pure_ (i := 0) (N := some 10) (v := ?_) (a' := ?_) #[true, false, false, false, false, false, false, false, false, false, false, false] rfl rfl (by kernel_rfl) (fun _ _ _ h => h) (Or.inl ⟨by rfl, ?_⟩) ?_ ?_
  rotate_left
  · intro w'
    go_simp
    with_reducible rfl
  rotate_left
  · simp only [Act.put, List.setIfInBounds_toArray, List.set_cons_zero, List.set_cons_succ, i64_w, i32_w]
    rfl
  refine pure_ (i := 1) (N := some 11) (v := ?_) (a' := ?_) #[true, true, false, false, false, false, false, false, false, false, false, false] rfl rfl (by kernel_rfl) (fun _ _ _ h => h) (Or.inl ⟨by rfl, ?_⟩) ?_ ?_
  rotate_left
  · intro w'
    go_simp
    with_reducible rfl
  rotate_left
  · simp only [Act.put, List.setIfInBounds_toArray, List.set_cons_zero, List.set_cons_succ, i64_w, i32_w]
    rfl
  refine pure_ (i := 2) (N := some 12) (v := ?_) (a' := ?_) #[true, true, true, false, false, false, false, false, false, false, false, false] rfl rfl (by kernel_rfl) (fun _ _ _ h => h) (Or.inl ⟨by rfl, ?_⟩) ?_ ?_
  rotate_left
  · intro w'
    go_simp
    with_reducible rfl
  rotate_left
  · simp only [Act.put, List.setIfInBounds_toArray, List.set_cons_zero, List.set_cons_succ, i64_w, i32_w]
    rfl
  refine take_ (i := 3) (N := some 13) (v := ?_) (a' := ?_) #[true, true, true, true, false, false, false, false, false, false, false, false] rfl rfl (by kernel_rfl) (fun _ _ _ h => h) (Or.inl ⟨by rfl, ?_⟩) hHeld ?_ ?_
  rotate_left
  · rintro w' ⟨s0, s1, s2⟩
    go_simp
    with_reducible rfl
  rotate_left
  · simp only [Act.put, List.setIfInBounds_toArray, List.set_cons_zero, List.set_cons_succ, i64_w, i32_w]
    rfl
  refine take_ (i := 4) (N := some 14) (v := ?_) (a' := ?_) #[true, true, true, true, true, false, false, false, false, false, false, false] rfl rfl (by kernel_rfl) (fun _ _ _ h => h) (Or.inl ⟨by rfl, ?_⟩) hHeld ?_ ?_
  rotate_left
  · rintro w' ⟨s0, s1, s2⟩
    go_simp
    with_reducible rfl
  rotate_left
  · simp only [Act.put, List.setIfInBounds_toArray, List.set_cons_zero, List.set_cons_succ, i64_w, i32_w]
    rfl
  refine take_ (i := 5) (N := some 15) (v := ?_) (a' := ?_) #[true, true, true, true, true, true, false, false, false, false, false, false] rfl rfl (by kernel_rfl) (fun _ _ _ h => h) (Or.inl ⟨by rfl, ?_⟩) hHeld ?_ ?_
  rotate_left
  · rintro w' ⟨s0, s1, s2⟩
    go_simp
    with_reducible rfl
  rotate_left
  · simp only [Act.put, List.setIfInBounds_toArray, List.set_cons_zero, List.set_cons_succ, i64_w, i32_w]
    rfl
  refine pure_ (i := 6) (N := some 9) (v := ?_) (a' := ?_) #[true, true, true, true, true, true, true, false, false, false, false, false] rfl rfl (by kernel_rfl) (fun _ _ _ h => h) (Or.inl ⟨by rfl, ?_⟩) ?_ ?_
  rotate_left
  · intro w'
    go_simp
    with_reducible rfl
  rotate_left
  · simp only [Act.put, List.setIfInBounds_toArray, List.set_cons_zero, List.set_cons_succ, i64_w, i32_w]
    rfl
  refine pure_ (i := 7) (N := some 16) (v := ?_) (a' := ?_) #[true, true, true, true, true, true, true, true, false, false, false, false] rfl rfl (by kernel_rfl) (fun _ _ _ h => h) (Or.inl ⟨by rfl, ?_⟩) ?_ ?_
  rotate_left
  · intro w'
    go_simp
    with_reducible rfl
  rotate_left
  · simp only [Act.put, List.setIfInBounds_toArray, List.set_cons_zero, List.set_cons_succ, i64_w, i32_w]
    rfl
  refine pure_ (i := 8) (N := some 17) (v := ?_) (a' := ?_) #[true, true, true, true, true, true, true, true, true, false, false, false] rfl rfl (by kernel_rfl) (fun _ _ _ h => h) (Or.inl ⟨by rfl, ?_⟩) ?_ ?_
  rotate_left
  · intro w'
    go_simp
    with_reducible rfl
  rotate_left
  · simp only [Act.put, List.setIfInBounds_toArray, List.set_cons_zero, List.set_cons_succ, i64_w, i32_w]
    rfl
  refine one_ (i := 9) (N := some 7) #[true, true, true, true, true, true, true, true, true, true, false, false] rfl rfl (by kernel_rfl) (by decide) (fun K hK => ?_)
  refine value_ (w1 := ?_) (v := ?_) (by rfl) rfl ?_ ?_
  rotate_left 2
  · go_simp
    constructor
    · rfl
    · rfl
  refine hK.out _ _ ⟨(blk_cell HA0.out 0).trans rfl, (blk_cell HA1.out 0).trans rfl, wmap_run_hit (HWa.out.map) s HS.out p0 0 HFS.out⟩ (fun hHeld => ?_)
  clear hK K
  refine norm_ (a' := ?_) ?_ ?_
  rotate_left
  · show Act.put _ (some 7) _ = _
    simp only [Act.put, List.setIfInBounds_toArray, List.set_cons_zero, List.set_cons_succ, i64_w, i32_w]
    rfl
  refine last_ (i := 10) (N := none) #[true, true, true, true, true, true, true, true, true, true, true, false] rfl rfl (by kernel_rfl) (by decide) (fun K hK => ?_)
  refine skip_ (w1 := ?_) (by rfl) rfl ?_ ?_
  rotate_left
  · go_simp
    rfl
  refine hK.out _ _ ?_
  clear hK K
  refine pure_ (i := 11) (N := some 8) (v := ?_) (a' := ?_) #[true, true, true, true, true, true, true, true, true, true, true, true] rfl rfl (by kernel_rfl) (fun _ _ _ h => h) (Or.inl ⟨by rfl, ?_⟩) ?_ ?_
  rotate_left
  · intro w'
    go_simp
    with_reducible rfl
  rotate_left
  · simp only [Act.put, List.setIfInBounds_toArray, List.set_cons_zero, List.set_cons_succ, i64_w, i32_w]
    rfl
  refine done_ (by kernel_rfl) ?_
  obtain ⟨wq, hwq⟩ : ∃ wq, wq = (wp.alloc (.cells #[.string s, .int .i32 p0, .int .i32 0] 92)).drew := ⟨_, rfl⟩
  have HBq : Below wp.heap.size wp wq := by rw [hwq]; exact below_drew (below_alloc (Below.refl _ _) _)
  have HWq : Aside0 (WL wq g b n f c) := ⟨HWp.out.below HBq⟩
  have HFq : Aside0 (Frm w wq g b) := ⟨HFp.out.trans (Frm.of_below HBq g b)⟩
  have HQ0 : Aside0 (wq.heap[wp.heap.size]? = some (.cells #[.string s, .int .i32 p0, .int .i32 0] 92 (0, 0))) := ⟨by rw [hwq]; exact blk_drew (blk_new wp _)⟩
  have HQ1 : Aside0 (wq.heap[w.heap.size]? = some (.cells #[.string s] 81 (0, 0))) := ⟨(HBq.block _ (blk_lt HC0.out)).trans HC0.out⟩
  have hq0 := (blk_cell HQ0.out 0).trans rfl
  have hq1 := (blk_cell HQ0.out 1).trans rfl
  have hq2 := (blk_cell HQ0.out 2).trans rfl
  have hq3 := (blk_cell HQ1.out 0).trans rfl
  rw [← hwq]
  clear hwq HBq hz0 hz1 hz2 hHeld HWa HA0 HA1
  go_wp2_with (go_at_call 78; refine (delete_calls wq g b n c f HWq.out s HS.out).mono ?_; rintro e w6 ⟨rfl, hw, hf6⟩; have HW6 := Aside0.mk hw; have HF6 := Aside0.mk (HFq.out.trans hf6); clear hw hf6)
  go_ret
  exact ⟨rfl, HW6.out, HF6.out⟩
theorem rty_calls (w : World) (g b n c : Nat) (f : WF) (h : WL w g b n f c) (s : ByteArray) (hs : s.size ≤ maxLen) (t : Int) :
    Calls Tryd.prog 39 #[.pointer (some ⟨g, 0, none⟩), .agg #[.string s], .int .i32 t] w fun e w' => e = .returned (.bool (rtyB f s t)) ∧ WL w' g b n (rtyF f s t) (rtyC f s t c) ∧ Frm w w' g b := by
  unfold rtyF rtyC
  cases hf : f s with
  | none =>
    have e : rtyB f s t = false := by unfold rtyB; rw [hf]
    rw [e, if_neg (by decide), if_neg (by decide)]
    exact rty_miss w g b n c f h s hs t hf
  | some v =>
    obtain ⟨p0, t0⟩ := v
    by_cases h0 : t0 = 0
    · by_cases h1 : t = 1
      · have e : rtyB f s t = false := by unfold rtyB; rw [hf]; simp [h0, h1]
        rw [e, if_neg (by decide), if_neg (by decide)]
        exact rty_keep w g b n c f h s hs t p0 t0 hf h0 h1
      · have e : rtyB f s t = true := by unfold rtyB; rw [hf]; simp [h1]
        rw [e, if_pos rfl, if_pos rfl]
        exact rty_block w g b n c f h s hs t p0 t0 hf h0 h1
    · have e : rtyB f s t = true := by unfold rtyB; rw [hf]; simp [h0]
      rw [e, if_pos rfl, if_pos rfl]
      exact rty_other w g b n c f h s hs t p0 t0 hf h0
def set3 (w : World) (g : Nat) (v0 v1 v2 : Value) : World := ((w.setCell ⟨g, 0, none⟩ v0).setCell ⟨g, 1, none⟩ v1).setCell ⟨g, 2, none⟩ v2
theorem set3_new {w : World} {g t : Nat} {u0 u1 u2 : Value} (h : w.heap[g]? = some (.cells #[u0, u1, u2] t (0, 0))) (v0 v1 v2 : Value) : (set3 w g v0 v1 v2).heap[g]? = some (.cells #[v0, v1, v2] t (0, 0)) := blk_put (blk_put (blk_put h 0 v0 rfl) 1 v1 rfl) 2 v2 rfl
theorem set3_off (w : World) (g k : Nat) (hk : k ≠ g) (v0 v1 v2 : Value) : (set3 w g v0 v1 v2).heap[k]? = w.heap[k]? := by
  unfold set3
  rw [Below.heap_setCell _ ⟨g, 2, none⟩ _ _ hk, Below.heap_setCell _ ⟨g, 1, none⟩ _ _ hk, Below.heap_setCell _ ⟨g, 0, none⟩ _ _ hk]
theorem wl_set3 {w : World} {g b n c : Nat} {f : WF} (h : WL w g b n f c) {q : Nat} (h1 : g ≠ q) (h2 : b ≠ q) (v0 v1 v2 : Value) : WL (set3 w q v0 v1 v2) g b n f c :=
  ⟨(set3_off w q g h1 v0 v1 v2).trans h.blk, ((h.map.set (a := ⟨q, 0, none⟩) h2 v0).set (a := ⟨q, 1, none⟩) h2 v1).set (a := ⟨q, 2, none⟩) h2 v2⟩
theorem frm_put {w w1 : World} {g b q j : Nat} (h : Frm w w1 g b) (hq : w.heap.size ≤ q) (v : Value) : Frm w (w1.setCell ⟨q, j, none⟩ v) g b := by
  have hB : Below w.heap.size w1 (w1.setCell ⟨q, j, none⟩ v) := Below.setCell (Below.refl _ _) (p := (⟨q, j, none⟩ : Addr)) hq v
  exact ⟨hB.os.trans h.os, hB.tape.trans h.tape, hB.output.trans h.output, Nat.le_trans h.size hB.size, fun k hk h1 h2 => (hB.block k hk).trans (h.block k hk h1 h2)⟩
theorem frm_set3 {w w1 : World} {g b q : Nat} (h : Frm w w1 g b) (hq : w.heap.size ≤ q) (v0 v1 v2 : Value) : Frm w (set3 w1 q v0 v1 v2) g b := frm_put (frm_put (frm_put h hq v0) hq v1) hq v2
set_option maxHeartbeats 8000000 in
set_option maxRecDepth 100000 in
theorem contains_miss (w : World) (g b n c : Nat) (f : WF) (h : WL w g b n f c) (s : ByteArray) (hs : s.size ≤ maxLen) (hf : f s = none) :
    Calls Tryd.prog 40 #[.pointer (some ⟨g, 0, none⟩), .agg #[.string s]] w fun e w' => e = .returned (.tuple #[.agg #[.string ⟨#[]⟩, .int .i32 0, .int .i32 0], .bool false]) ∧ WL w' g b n f c ∧ Frm w w' g b := by
  obtain ⟨wp, hwp⟩ : ∃ wp, wp = (w.alloc (.cells #[.string s] 81)).alloc (.cells #[.string ⟨#[]⟩, .int .i32 0, .int .i32 0] 92) := ⟨_, rfl⟩
  have HWp : Aside0 (WL wp g b n f c) := ⟨by rw [hwp]; exact h.below (below_alloc (below_alloc (Below.refl _ _) _) _)⟩
  have HFp : Aside0 (Frm w wp g b) := ⟨by rw [hwp]; exact frm_two w _ _ g b⟩
  have hc0 : wp.heap[w.heap.size]? = some (.cells #[.string s] 81 (0, 0)) := by rw [hwp]; exact blk_alloc (blk_new w _) _
  have hc1 : wp.heap[w.heap.size + 1]? = some (.cells #[.string ⟨#[]⟩, .int .i32 0, .int .i32 0] 92 (0, 0)) := by
    have := blk_new (w.alloc (.cells #[.string s] 81)) (.cells #[.string ⟨#[]⟩, .int .i32 0, .int .i32 0] 92)
    rw [hwp]
    rwa [show (w.alloc (.cells #[.string s] 81)).heap.size = w.heap.size + 1 from Array.size_push ..] at this
  have HC0 := Aside0.mk hc0
  have HC1 := Aside0.mk hc1
  have HS := Aside0.mk hs
  have HFS := Aside0.mk hf
  have HGL := Aside0.mk (And.intro (blk_lt h.blk) h.map.lt)
  clear h hs hc0 hc1 hf
  go_enter Tryd.func40, Tryd.ntmps40
  go_upto_region 1 with fail
  rw [← hwp]
  clear hwp
  have HWd : Aside0 (WL wp.drew g b n f c) := ⟨HWp.out.below (below_drew (Below.refl _ _))⟩
  have hz0 : wp.drew.cell? ⟨g, 0, none⟩ = some (.map (some b)) := (blk_cell HWd.out.blk 0).trans rfl
  have hz1 : wp.drew.cell? ⟨w.heap.size, 0, none⟩ = some (.string s) := (blk_cell (blk_drew HC0.out) 0).trans rfl
  have hz2 := wmap_run_miss (HWd.out.map) s HS.out HFS.out
  have HWa : Aside0 (WL (wp.drew.alloc (.cells #[.string ⟨#[]⟩, .int .i32 0, .int .i32 0] 92)) g b n f c) := ⟨HWd.out.below (below_alloc (Below.refl _ _) _)⟩
  have HA0 := Aside0.mk HWa.out.blk
  have HA1 := Aside0.mk (blk_alloc (blk_drew HC0.out) (.cells #[.string ⟨#[]⟩, .int .i32 0, .int .i32 0] 92))
  refine start_ (n := 12) (S := fun w' => w'.cell? ⟨g, 0, none⟩ = some (.map (some b)) ∧ w'.cell? ⟨w.heap.size, 0, none⟩ = some (.string s) ∧ (Instr.lookup 139 (.map (some b)) (.agg #[.string s]) true).run Tryd.prog w' = .ok (.tuple #[.agg #[.string ⟨#[]⟩, .int .i32 0, .int .i32 0], .bool false]) w') (ds := [10]) #[false, false, false, false, false, false, false, false, false, false, false, false] (by kernel_rfl) rfl rfl ⟨hz0, hz1, hz2⟩ (fun hHeld => ?_)
  refine pure_ (i := 0) (N := some 9) (v := ?_) (a' := ?_) #[true, false, false, false, false, false, false, false, false, false, false, false] rfl rfl (by kernel_rfl) (fun _ _ _ h => h) (Or.inl ⟨by rfl, ?_⟩) ?_ ?_
  rotate_left
  · intro w'
    go_simp
    with_reducible rfl
  rotate_left
  · simp only [Act.put, List.setIfInBounds_toArray, List.set_cons_zero, List.set_cons_succ, i64_w, i32_w]
    rfl
  refine pure_ (i := 1) (N := some 10) (v := ?_) (a' := ?_) #[true, true, false, false, false, false, false, false, false, false, false, false] rfl rfl (by kernel_rfl) (fun _ _ _ h => h) (Or.inl ⟨by rfl, ?_⟩) ?_ ?_
  rotate_left
  · intro w'
    go_simp
    with_reducible rfl
  rotate_left
  · simp only [Act.put, List.setIfInBounds_toArray, List.set_cons_zero, List.set_cons_succ, i64_w, i32_w]
    rfl
  refine pure_ (i := 2) (N := some 11) (v := ?_) (a' := ?_) #[true, true, true, false, false, false, false, false, false, false, false, false] rfl rfl (by kernel_rfl) (fun _ _ _ h => h) (Or.inl ⟨by rfl, ?_⟩) ?_ ?_
  rotate_left
  · intro w'
    go_simp
    with_reducible rfl
  rotate_left
  · simp only [Act.put, List.setIfInBounds_toArray, List.set_cons_zero, List.set_cons_succ, i64_w, i32_w]
    rfl
  refine take_ (i := 3) (N := some 12) (v := ?_) (a' := ?_) #[true, true, true, true, false, false, false, false, false, false, false, false] rfl rfl (by kernel_rfl) (fun _ _ _ h => h) (Or.inl ⟨by rfl, ?_⟩) hHeld ?_ ?_
  rotate_left
  · rintro w' ⟨s0, s1, s2⟩
    go_simp
    with_reducible rfl
  rotate_left
  · simp only [Act.put, List.setIfInBounds_toArray, List.set_cons_zero, List.set_cons_succ, i64_w, i32_w]
    rfl
  refine take_ (i := 4) (N := some 13) (v := ?_) (a' := ?_) #[true, true, true, true, true, false, false, false, false, false, false, false] rfl rfl (by kernel_rfl) (fun _ _ _ h => h) (Or.inl ⟨by rfl, ?_⟩) hHeld ?_ ?_
  rotate_left
  · rintro w' ⟨s0, s1, s2⟩
    go_simp
    with_reducible rfl
  rotate_left
  · simp only [Act.put, List.setIfInBounds_toArray, List.set_cons_zero, List.set_cons_succ, i64_w, i32_w]
    rfl
  refine take_ (i := 5) (N := some 14) (v := ?_) (a' := ?_) #[true, true, true, true, true, true, false, false, false, false, false, false] rfl rfl (by kernel_rfl) (fun _ _ _ h => h) (Or.inl ⟨by rfl, ?_⟩) hHeld ?_ ?_
  rotate_left
  · rintro w' ⟨s0, s1, s2⟩
    go_simp
    with_reducible rfl
  rotate_left
  · simp only [Act.put, List.setIfInBounds_toArray, List.set_cons_zero, List.set_cons_succ, i64_w, i32_w]
    rfl
  refine pure_ (i := 6) (N := some 8) (v := ?_) (a' := ?_) #[true, true, true, true, true, true, true, false, false, false, false, false] rfl rfl (by kernel_rfl) (fun _ _ _ h => h) (Or.inl ⟨by rfl, ?_⟩) ?_ ?_
  rotate_left
  · intro w'
    go_simp
    with_reducible rfl
  rotate_left
  · simp only [Act.put, List.setIfInBounds_toArray, List.set_cons_zero, List.set_cons_succ, i64_w, i32_w]
    rfl
  refine pure_ (i := 7) (N := some 15) (v := ?_) (a' := ?_) #[true, true, true, true, true, true, true, true, false, false, false, false] rfl rfl (by kernel_rfl) (fun _ _ _ h => h) (Or.inl ⟨by rfl, ?_⟩) ?_ ?_
  rotate_left
  · intro w'
    go_simp
    with_reducible rfl
  rotate_left
  · simp only [Act.put, List.setIfInBounds_toArray, List.set_cons_zero, List.set_cons_succ, i64_w, i32_w]
    rfl
  refine pure_ (i := 8) (N := some 16) (v := ?_) (a' := ?_) #[true, true, true, true, true, true, true, true, true, false, false, false] rfl rfl (by kernel_rfl) (fun _ _ _ h => h) (Or.inl ⟨by rfl, ?_⟩) ?_ ?_
  rotate_left
  · intro w'
    go_simp
    with_reducible rfl
  rotate_left
  · simp only [Act.put, List.setIfInBounds_toArray, List.set_cons_zero, List.set_cons_succ, i64_w, i32_w]
    rfl
  refine one_ (i := 9) (N := some 6) #[true, true, true, true, true, true, true, true, true, true, false, false] rfl rfl (by kernel_rfl) (by decide) (fun K hK => ?_)
  refine value_ (w1 := ?_) (v := ?_) (by rfl) rfl ?_ ?_
  rotate_left 2
  · go_simp
    constructor
    · rfl
    · rfl
  refine hK.out _ _ ⟨(blk_cell HA0.out 0).trans rfl, (blk_cell HA1.out 0).trans rfl, wmap_run_miss (HWa.out.map) s HS.out HFS.out⟩ (fun hHeld => ?_)
  clear hK K
  refine norm_ (a' := ?_) ?_ ?_
  rotate_left
  · show Act.put _ (some 6) _ = _
    simp only [Act.put, List.setIfInBounds_toArray, List.set_cons_zero, List.set_cons_succ, i64_w, i32_w]
    rfl
  refine last_ (i := 10) (N := none) #[true, true, true, true, true, true, true, true, true, true, true, false] rfl rfl (by kernel_rfl) (by decide) (fun K hK => ?_)
  refine skip_ (w1 := ?_) (by rfl) rfl ?_ ?_
  rotate_left
  · go_simp
    rfl
  refine hK.out _ _ ?_
  clear hK K
  refine pure_ (i := 11) (N := some 7) (v := ?_) (a' := ?_) #[true, true, true, true, true, true, true, true, true, true, true, true] rfl rfl (by kernel_rfl) (fun _ _ _ h => h) (Or.inl ⟨by rfl, ?_⟩) ?_ ?_
  rotate_left
  · intro w'
    go_simp
    with_reducible rfl
  rotate_left
  · simp only [Act.put, List.setIfInBounds_toArray, List.set_cons_zero, List.set_cons_succ, i64_w, i32_w]
    rfl
  refine done_ (by kernel_rfl) ?_
  obtain ⟨wq, hwq⟩ : ∃ wq, wq = (wp.alloc (.cells #[.string ⟨#[]⟩, .int .i32 0, .int .i32 0] 92)).drew := ⟨_, rfl⟩
  have HBq : Below wp.heap.size wp wq := by rw [hwq]; exact below_drew (below_alloc (Below.refl _ _) _)
  have HWq : Aside0 (WL wq g b n f c) := ⟨HWp.out.below HBq⟩
  have HFq : Aside0 (Frm w wq g b) := ⟨HFp.out.trans (Frm.of_below HBq g b)⟩
  have HQ0 : Aside0 (wq.heap[wp.heap.size]? = some (.cells #[.string ⟨#[]⟩, .int .i32 0, .int .i32 0] 92 (0, 0))) := ⟨by rw [hwq]; exact blk_drew (blk_new wp _)⟩
  have HQ1 : Aside0 (wq.heap[w.heap.size]? = some (.cells #[.string s] 81 (0, 0))) := ⟨(HBq.block _ (blk_lt HC0.out)).trans HC0.out⟩
  have HQR : Aside0 (wq.heap[w.heap.size + 1]? = some (.cells #[.string ⟨#[]⟩, .int .i32 0, .int .i32 0] 92 (0, 0))) := ⟨(HBq.block _ (blk_lt HC1.out)).trans HC1.out⟩
  have hq0 := (blk_cell HQ0.out 0).trans rfl
  have hq1 := (blk_cell HQ0.out 1).trans rfl
  have hq2 := (blk_cell HQ0.out 2).trans rfl
  have hq3 := (blk_cell HQ1.out 0).trans rfl
  rw [← hwq]
  clear hwq HBq hz0 hz1 hz2 hHeld HWa HA0 HA1
  have hr0 := (blk_cell HQR.out 0).trans rfl
  have hr1 := (blk_cell HQR.out 1).trans rfl
  have hr2 := (blk_cell HQR.out 2).trans rfl
  have hrf0 := blk_frozen HQR.out 0
  have hrf1 := blk_frozen HQR.out 1
  have hrf2 := blk_frozen HQR.out 2
  go_wp2_with fail
  have HZ : Aside0 ((set3 wq (w.heap.size + 1) (.string ⟨#[]⟩) (.int .i32 0) (.int .i32 0)).heap[w.heap.size + 1]? = some (.cells #[.string ⟨#[]⟩, .int .i32 0, .int .i32 0] 92 (0, 0))) := ⟨set3_new HQR.out _ _ _⟩
  have HZW := Aside0.mk (wl_set3 HWq.out (q := w.heap.size + 1) (by have := HGL.out; omega) (by have := HGL.out; omega) (.string ⟨#[]⟩) (.int .i32 0) (.int .i32 0))
  have HZF := Aside0.mk (frm_set3 HFq.out (q := w.heap.size + 1) (by omega) (.string ⟨#[]⟩) (.int .i32 0) (.int .i32 0))
  unfold set3 at HZ HZW HZF
  refine bodyPost_ret (results_ct rfl _ _ (w.heap.size + 1) 92 #[.string ⟨#[]⟩, .int .i32 0, .int .i32 0] (0, 0) _ rfl HZ.out Tryd.underlying92 rfl (by kernel_rfl)) rfl ?_
  exact ⟨rfl, HZW.out, HZF.out⟩
set_option maxHeartbeats 8000000 in
set_option maxRecDepth 100000 in
theorem contains_hit (w : World) (g b n c : Nat) (f : WF) (h : WL w g b n f c) (s : ByteArray) (hs : s.size ≤ maxLen) (p0 t0 : Int) (hf : f s = some (p0, t0)) :
    Calls Tryd.prog 40 #[.pointer (some ⟨g, 0, none⟩), .agg #[.string s]] w fun e w' => e = .returned (.tuple #[.agg #[.string s, .int .i32 p0, .int .i32 t0], .bool true]) ∧ WL w' g b n f c ∧ Frm w w' g b := by
  obtain ⟨wp, hwp⟩ : ∃ wp, wp = (w.alloc (.cells #[.string s] 81)).alloc (.cells #[.string ⟨#[]⟩, .int .i32 0, .int .i32 0] 92) := ⟨_, rfl⟩
  have HWp : Aside0 (WL wp g b n f c) := ⟨by rw [hwp]; exact h.below (below_alloc (below_alloc (Below.refl _ _) _) _)⟩
  have HFp : Aside0 (Frm w wp g b) := ⟨by rw [hwp]; exact frm_two w _ _ g b⟩
  have hc0 : wp.heap[w.heap.size]? = some (.cells #[.string s] 81 (0, 0)) := by rw [hwp]; exact blk_alloc (blk_new w _) _
  have hc1 : wp.heap[w.heap.size + 1]? = some (.cells #[.string ⟨#[]⟩, .int .i32 0, .int .i32 0] 92 (0, 0)) := by
    have := blk_new (w.alloc (.cells #[.string s] 81)) (.cells #[.string ⟨#[]⟩, .int .i32 0, .int .i32 0] 92)
    rw [hwp]
    rwa [show (w.alloc (.cells #[.string s] 81)).heap.size = w.heap.size + 1 from Array.size_push ..] at this
  have HC0 := Aside0.mk hc0
  have HC1 := Aside0.mk hc1
  have HS := Aside0.mk hs
  have HFS := Aside0.mk hf
  have HGL := Aside0.mk (And.intro (blk_lt h.blk) h.map.lt)
  clear h hs hc0 hc1 hf
  go_enter Tryd.func40, Tryd.ntmps40
  go_upto_region 1 with fail
  rw [← hwp]
  clear hwp
  have HWd : Aside0 (WL wp.drew g b n f c) := ⟨HWp.out.below (below_drew (Below.refl _ _))⟩
  have hz0 : wp.drew.cell? ⟨g, 0, none⟩ = some (.map (some b)) := (blk_cell HWd.out.blk 0).trans rfl
  have hz1 : wp.drew.cell? ⟨w.heap.size, 0, none⟩ = some (.string s) := (blk_cell (blk_drew HC0.out) 0).trans rfl
  have hz2 := wmap_run_hit (HWd.out.map) s HS.out p0 t0 HFS.out
  have HWa : Aside0 (WL (wp.drew.alloc (.cells #[.string ⟨#[]⟩, .int .i32 0, .int .i32 0] 92)) g b n f c) := ⟨HWd.out.below (below_alloc (Below.refl _ _) _)⟩
  have HA0 := Aside0.mk HWa.out.blk
  have HA1 := Aside0.mk (blk_alloc (blk_drew HC0.out) (.cells #[.string ⟨#[]⟩, .int .i32 0, .int .i32 0] 92))
  refine start_ (n := 12) (S := fun w' => w'.cell? ⟨g, 0, none⟩ = some (.map (some b)) ∧ w'.cell? ⟨w.heap.size, 0, none⟩ = some (.string s) ∧ (Instr.lookup 139 (.map (some b)) (.agg #[.string s]) true).run Tryd.prog w' = .ok (.tuple #[.agg #[.string s, .int .i32 p0, .int .i32 t0], .bool true]) w') (ds := [10]) #[false, false, false, false, false, false, false, false, false, false, false, false] (by kernel_rfl) rfl rfl ⟨hz0, hz1, hz2⟩ (fun hHeld => ?_)
  refine pure_ (i := 0) (N := some 9) (v := ?_) (a' := ?_) #[true, false, false, false, false, false, false, false, false, false, false, false] rfl rfl (by kernel_rfl) (fun _ _ _ h => h) (Or.inl ⟨by rfl, ?_⟩) ?_ ?_
  rotate_left
  · intro w'
    go_simp
    with_reducible rfl
  rotate_left
  · simp only [Act.put, List.setIfInBounds_toArray, List.set_cons_zero, List.set_cons_succ, i64_w, i32_w]
    rfl
  refine pure_ (i := 1) (N := some 10) (v := ?_) (a' := ?_) #[true, true, false, false, false, false, false, false, false, false, false, false] rfl rfl (by kernel_rfl) (fun _ _ _ h => h) (Or.inl ⟨by rfl, ?_⟩) ?_ ?_
  rotate_left
  · intro w'
    go_simp
    with_reducible rfl
  rotate_left
  · simp only [Act.put, List.setIfInBounds_toArray, List.set_cons_zero, List.set_cons_succ, i64_w, i32_w]
    rfl
  refine pure_ (i := 2) (N := some 11) (v := ?_) (a' := ?_) #[true, true, true, false, false, false, false, false, false, false, false, false] rfl rfl (by kernel_rfl) (fun _ _ _ h => h) (Or.inl ⟨by rfl, ?_⟩) ?_ ?_
  rotate_left
  · intro w'
    go_simp
    with_reducible rfl
  rotate_left
  · simp only [Act.put, List.setIfInBounds_toArray, List.set_cons_zero, List.set_cons_succ, i64_w, i32_w]
    rfl
  refine take_ (i := 3) (N := some 12) (v := ?_) (a' := ?_) #[true, true, true, true, false, false, false, false, false, false, false, false] rfl rfl (by kernel_rfl) (fun _ _ _ h => h) (Or.inl ⟨by rfl, ?_⟩) hHeld ?_ ?_
  rotate_left
  · rintro w' ⟨s0, s1, s2⟩
    go_simp
    with_reducible rfl
  rotate_left
  · simp only [Act.put, List.setIfInBounds_toArray, List.set_cons_zero, List.set_cons_succ, i64_w, i32_w]
    rfl
  refine take_ (i := 4) (N := some 13) (v := ?_) (a' := ?_) #[true, true, true, true, true, false, false, false, false, false, false, false] rfl rfl (by kernel_rfl) (fun _ _ _ h => h) (Or.inl ⟨by rfl, ?_⟩) hHeld ?_ ?_
  rotate_left
  · rintro w' ⟨s0, s1, s2⟩
    go_simp
    with_reducible rfl
  rotate_left
  · simp only [Act.put, List.setIfInBounds_toArray, List.set_cons_zero, List.set_cons_succ, i64_w, i32_w]
    rfl
  refine take_ (i := 5) (N := some 14) (v := ?_) (a' := ?_) #[true, true, true, true, true, true, false, false, false, false, false, false] rfl rfl (by kernel_rfl) (fun _ _ _ h => h) (Or.inl ⟨by rfl, ?_⟩) hHeld ?_ ?_
  rotate_left
  · rintro w' ⟨s0, s1, s2⟩
    go_simp
    with_reducible rfl
  rotate_left
  · simp only [Act.put, List.setIfInBounds_toArray, List.set_cons_zero, List.set_cons_succ, i64_w, i32_w]
    rfl
  refine pure_ (i := 6) (N := some 8) (v := ?_) (a' := ?_) #[true, true, true, true, true, true, true, false, false, false, false, false] rfl rfl (by kernel_rfl) (fun _ _ _ h => h) (Or.inl ⟨by rfl, ?_⟩) ?_ ?_
  rotate_left
  · intro w'
    go_simp
    with_reducible rfl
  rotate_left
  · simp only [Act.put, List.setIfInBounds_toArray, List.set_cons_zero, List.set_cons_succ, i64_w, i32_w]
    rfl
  refine pure_ (i := 7) (N := some 15) (v := ?_) (a' := ?_) #[true, true, true, true, true, true, true, true, false, false, false, false] rfl rfl (by kernel_rfl) (fun _ _ _ h => h) (Or.inl ⟨by rfl, ?_⟩) ?_ ?_
  rotate_left
  · intro w'
    go_simp
    with_reducible rfl
  rotate_left
  · simp only [Act.put, List.setIfInBounds_toArray, List.set_cons_zero, List.set_cons_succ, i64_w, i32_w]
    rfl
  refine pure_ (i := 8) (N := some 16) (v := ?_) (a' := ?_) #[true, true, true, true, true, true, true, true, true, false, false, false] rfl rfl (by kernel_rfl) (fun _ _ _ h => h) (Or.inl ⟨by rfl, ?_⟩) ?_ ?_
  rotate_left
  · intro w'
    go_simp
    with_reducible rfl
  rotate_left
  · simp only [Act.put, List.setIfInBounds_toArray, List.set_cons_zero, List.set_cons_succ, i64_w, i32_w]
    rfl
  refine one_ (i := 9) (N := some 6) #[true, true, true, true, true, true, true, true, true, true, false, false] rfl rfl (by kernel_rfl) (by decide) (fun K hK => ?_)
  refine value_ (w1 := ?_) (v := ?_) (by rfl) rfl ?_ ?_
  rotate_left 2
  · go_simp
    constructor
    · rfl
    · rfl
  refine hK.out _ _ ⟨(blk_cell HA0.out 0).trans rfl, (blk_cell HA1.out 0).trans rfl, wmap_run_hit (HWa.out.map) s HS.out p0 t0 HFS.out⟩ (fun hHeld => ?_)
  clear hK K
  refine norm_ (a' := ?_) ?_ ?_
  rotate_left
  · show Act.put _ (some 6) _ = _
    simp only [Act.put, List.setIfInBounds_toArray, List.set_cons_zero, List.set_cons_succ, i64_w, i32_w]
    rfl
  refine last_ (i := 10) (N := none) #[true, true, true, true, true, true, true, true, true, true, true, false] rfl rfl (by kernel_rfl) (by decide) (fun K hK => ?_)
  refine skip_ (w1 := ?_) (by rfl) rfl ?_ ?_
  rotate_left
  · go_simp
    rfl
  refine hK.out _ _ ?_
  clear hK K
  refine pure_ (i := 11) (N := some 7) (v := ?_) (a' := ?_) #[true, true, true, true, true, true, true, true, true, true, true, true] rfl rfl (by kernel_rfl) (fun _ _ _ h => h) (Or.inl ⟨by rfl, ?_⟩) ?_ ?_
  rotate_left
  · intro w'
    go_simp
    with_reducible rfl
  rotate_left
  · simp only [Act.put, List.setIfInBounds_toArray, List.set_cons_zero, List.set_cons_succ, i64_w, i32_w]
    rfl
  refine done_ (by kernel_rfl) ?_
  obtain ⟨wq, hwq⟩ : ∃ wq, wq = (wp.alloc (.cells #[.string s, .int .i32 p0, .int .i32 t0] 92)).drew := ⟨_, rfl⟩
  have HBq : Below wp.heap.size wp wq := by rw [hwq]; exact below_drew (below_alloc (Below.refl _ _) _)
  have HWq : Aside0 (WL wq g b n f c) := ⟨HWp.out.below HBq⟩
  have HFq : Aside0 (Frm w wq g b) := ⟨HFp.out.trans (Frm.of_below HBq g b)⟩
  have HQ0 : Aside0 (wq.heap[wp.heap.size]? = some (.cells #[.string s, .int .i32 p0, .int .i32 t0] 92 (0, 0))) := ⟨by rw [hwq]; exact blk_drew (blk_new wp _)⟩
  have HQ1 : Aside0 (wq.heap[w.heap.size]? = some (.cells #[.string s] 81 (0, 0))) := ⟨(HBq.block _ (blk_lt HC0.out)).trans HC0.out⟩
  have HQR : Aside0 (wq.heap[w.heap.size + 1]? = some (.cells #[.string ⟨#[]⟩, .int .i32 0, .int .i32 0] 92 (0, 0))) := ⟨(HBq.block _ (blk_lt HC1.out)).trans HC1.out⟩
  have hq0 := (blk_cell HQ0.out 0).trans rfl
  have hq1 := (blk_cell HQ0.out 1).trans rfl
  have hq2 := (blk_cell HQ0.out 2).trans rfl
  have hq3 := (blk_cell HQ1.out 0).trans rfl
  rw [← hwq]
  clear hwq HBq hz0 hz1 hz2 hHeld HWa HA0 HA1
  have hr0 := (blk_cell HQR.out 0).trans rfl
  have hr1 := (blk_cell HQR.out 1).trans rfl
  have hr2 := (blk_cell HQR.out 2).trans rfl
  have hrf0 := blk_frozen HQR.out 0
  have hrf1 := blk_frozen HQR.out 1
  have hrf2 := blk_frozen HQR.out 2
  go_wp2_with fail
  have HZ : Aside0 ((set3 wq (w.heap.size + 1) (.string s) (.int .i32 p0) (.int .i32 t0)).heap[w.heap.size + 1]? = some (.cells #[.string s, .int .i32 p0, .int .i32 t0] 92 (0, 0))) := ⟨set3_new HQR.out _ _ _⟩
  have HZW := Aside0.mk (wl_set3 HWq.out (q := w.heap.size + 1) (by have := HGL.out; omega) (by have := HGL.out; omega) (.string s) (.int .i32 p0) (.int .i32 t0))
  have HZF := Aside0.mk (frm_set3 HFq.out (q := w.heap.size + 1) (by omega) (.string s) (.int .i32 p0) (.int .i32 t0))
  unfold set3 at HZ HZW HZF
  refine bodyPost_ret (results_ct rfl _ _ (w.heap.size + 1) 92 #[.string s, .int .i32 p0, .int .i32 t0] (0, 0) _ rfl HZ.out Tryd.underlying92 rfl (by kernel_rfl)) rfl ?_
  exact ⟨rfl, HZW.out, HZF.out⟩
set_option maxHeartbeats 8000000 in
set_option maxRecDepth 100000 in
theorem len_calls (w : World) (g b n c : Nat) (f : WF) (h : WL w g b n f c) :
    Calls Tryd.prog 42 #[.pointer (some ⟨g, 0, none⟩)] w fun e w' => e = .returned (.int .i64 (c : Int)) ∧ w' = w := by
  have hz0 : w.cell? ⟨g, 0, none⟩ = some (.map (some b)) := (blk_cell h.blk 0).trans rfl
  have hlen : (Builtin.len_ #[139] 3 #[.map (some b)]).run Tryd.prog w = .ok (.int .i64 (c : Int)) w := by
    obtain ⟨D, h1, _, h3⟩ := h.map
    rw [← h3]
    exact h1.len Tryd.underlying139 3
  clear h
  go_enter Tryd.func42, Tryd.ntmps42
  go_wp2_with fail
  go_ret
  exact ⟨rfl, rfl⟩
set_option maxHeartbeats 8000000 in
set_option maxRecDepth 100000 in
theorem new_calls (w : World) : Calls Tryd.prog 32 #[] w fun e w' => e = .returned (.pointer (some ⟨w.heap.size + 1, 0, none⟩)) ∧ WL w' (w.heap.size + 1) w.heap.size 0 (fun _ => none) 0 ∧ Below w.heap.size w w' := by
  have hmm : ∀ wq : World, Sem.run Tryd.prog (Instr.makeMap 139 none) wq = .ok (.map (some wq.heap.size)) (wq.alloc (.map #[] 0)) := fun _ => rfl
  have hsz : (w.alloc (.map #[] 0)).heap.size = w.heap.size + 1 := Array.size_push ..
  have HW : Aside0 (WL ((w.alloc (.map #[] 0)).alloc (.cells #[.map (some w.heap.size), .slice none 0 0] 142)) (w.heap.size + 1) w.heap.size 0 (fun _ => none) 0) := ⟨⟨by
    have := blk_new (w.alloc (.map #[] 0)) (.cells #[.map (some w.heap.size), .slice none 0 0] 142)
    rwa [hsz] at this, (WMap.made w).below (below_alloc (Below.refl _ _) _)⟩⟩
  clear hsz
  go_enter Tryd.func32, Tryd.ntmps32
  go_wp2_with fail
  go_ret
  exact ⟨rfl, HW.out, below_alloc (below_alloc (Below.refl _ _) _) _⟩
end Go.Proofs.YteekkpofcbcikaaDoor.HandWan
