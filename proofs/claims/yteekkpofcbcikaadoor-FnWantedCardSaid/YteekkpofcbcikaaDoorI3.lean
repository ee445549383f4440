/- The functions of a want list. -/
import Derived.Test.YteekkpofcbcikaaDoorI2
namespace Go.Proofs.YteekkpofcbcikaaDoor.HandWan
open Go Go.RowKit Go.Proofs.YteekkpofcbcikaaDoorL Go.Proofs.YteekkpofcbcikaaDoorW.PrintWords Go.Proofs.YteekkpofcbcikaaDoorW.PrintLast Go.Proofs.YteekkpofcbcikaaDoorW.PrintMore
attribute [local go_sem] max2_int min2_int max_two min_two max_three min_three max_four min_four
set_option linter.unusedVariables false
set_option linter.unusedSimpArgs false
open Go.Maps (Keyed)
theorem wmap_run_hit {w : World} {b n c : Nat} {f : WF} (h : WMap w b n f c) (s : ByteArray) (hs : s.size ≤ maxLen) (p t : Int) (hf : f s = some (p, t)) : (Instr.lookup 139 (.map (some b)) (.agg #[.string s]) true).run Tryd.prog w = .ok (.tuple #[.agg #[.string s, .int .i32 p, .int .i32 t], .bool true]) w := by
  obtain ⟨D, h1, h2, _⟩ := h
  obtain ⟨v, ps, hr, hv⟩ := h1.look_ok Kc Tryd.underlying139 zeroE (zd := entD ⟨#[]⟩ 0 0) (zp := []) rfl (keyc s hs)
  have h3 := h2 s hs (entD ⟨#[]⟩ 0 0)
  rw [hf] at h3
  rw [show (Lit.string (keyBytes [Lit.string s.data.toList])) = kC s from rfl] at hv hr
  rw [h3] at hv
  rw [Re_inv hv, wmap_has (h2 s hs), hf] at hr
  exact hr
theorem wmap_run_miss {w : World} {b n c : Nat} {f : WF} (h : WMap w b n f c) (s : ByteArray) (hs : s.size ≤ maxLen) (hf : f s = none) : (Instr.lookup 139 (.map (some b)) (.agg #[.string s]) true).run Tryd.prog w = .ok (.tuple #[.agg #[.string ⟨#[]⟩, .int .i32 0, .int .i32 0], .bool false]) w := by
  obtain ⟨D, h1, h2, _⟩ := h
  obtain ⟨v, ps, hr, hv⟩ := h1.look_ok Kc Tryd.underlying139 zeroE (zd := entD ⟨#[]⟩ 0 0) (zp := []) rfl (keyc s hs)
  have h3 := h2 s hs (entD ⟨#[]⟩ 0 0)
  rw [hf] at h3
  rw [show (Lit.string (keyBytes [Lit.string s.data.toList])) = kC s from rfl] at hv hr
  have h4 : D.atKey (kC s) (entD ⟨#[]⟩ 0 0) = entD ⟨#[]⟩ 0 0 := h3
  rw [h4] at hv
  rw [Re_inv hv, wmap_has (h2 s hs), hf] at hr
  exact hr
theorem wmap_run_update {w : World} {b n c : Nat} {f : WF} (h : WMap w b n f c) (hn : n < maxLen) (s : ByteArray) (hs : s.size ≤ maxLen) (p t : Int) : ∃ w', (Instr.mapUpdate 139 (.map (some b)) (.agg #[.string s]) (.agg #[.string s, .int .i32 p, .int .i32 t])).run Tryd.prog w = .ok () w' ∧ WMap w' b (n + 1) (fput f s p t) (cput f s c) ∧ w.mapTurned w' b := by
  obtain ⟨D, h1, h2, h3⟩ := h
  obtain ⟨w', hr, h4, h5⟩ := h1.store Kc Tryd.underlying139 hn (keyc s hs) (val := entV s p t) (d := entD s p t) (ps := []) rfl
  refine ⟨w', hr, ⟨_, h4, fun k hk zd => ?_, ?_⟩, h5⟩
  · unfold fput
    by_cases e : k = s
    · subst e
      have := Maps.atKey_put_same (k := kC k) h1.isMap (kC_key k) (entD k p t) zd
      simpa [kC] using this
    · have := Maps.atKey_put_other (k := kC s) (k' := kC k) (D := D) (fun h => e (kC_inj hk hs h)) (entD s p t) zd
      rw [h2 k hk] at this
      simpa [kC, e] using this
  · have := Maps.size_put (k := kC s) (h1.tidy Kc) (entD s p t)
    rw [wmap_has (h2 s hs), h3] at this
    exact this
theorem wmap_run_delete {w : World} {b n c : Nat} {f : WF} (h : WMap w b n f c) (s : ByteArray) (hs : s.size ≤ maxLen) (ty : TypeId) : ∃ w', (Builtin.delete_ #[139, 81] ty #[.map (some b), .agg #[.string s]]).run Tryd.prog w = .ok (.tuple #[]) w' ∧ WMap w' b n (fdel f s) (cdel f s c) ∧ w.mapTurned w' b := by
  obtain ⟨D, h1, h2, h3⟩ := h
  obtain ⟨w', hr, h4, h5⟩ := h1.drop Kc Tryd.underlying139 (keyc s hs) ty
  refine ⟨w', hr, ⟨_, h4, fun k hk zd => ?_, ?_⟩, h5⟩
  · unfold fdel
    by_cases e : k = s
    · subst e
      have := Maps.atKey_del_same (k := kC k) (D := D) zd
      simpa [kC] using this
    · have := Maps.atKey_del_other (k := kC s) (k' := kC k) (D := D) (fun h => e (kC_inj hk hs h)) zd
      rw [h2 k hk] at this
      simpa [kC, e] using this
  · have h4 := Maps.size_del (k := kC s) (h1.tidy Kc)
    rw [wmap_has (h2 s hs), h3] at h4
    show Maps.size (D.del (kC s)) = _
    unfold cdel
    split
    · next h5 => rw [if_pos h5] at h4; omega
    · next h5 => rw [if_neg h5] at h4; omega
theorem frm_turned {w w' : World} {b : Nat} (h : w.mapTurned w' b) (hb : b < w.heap.size) (g : Nat) : Frm w w' g b := by
  have hB := Below.grown (Below.refl b w) h.grown (by omega) (fun k e => by injection e with e; omega)
  exact ⟨hB.os, hB.tape, hB.output, hB.size, fun k hk _ hne => h.grown.block k hk (by simpa using hne)⟩
theorem blk_two {w : World} {o1 o2 : Obj} {g : Nat} {o : Obj} (h : w.heap[g]? = some o) : ((w.alloc o1).alloc o2).heap[g]? = some o := by
  have hlt : g < w.heap.size := (Array.getElem?_eq_some_iff.1 h).1
  exact ((below_alloc (below_alloc (Below.refl w.heap.size w) o1) o2).block g hlt).trans h
theorem frm_two (w : World) (o1 o2 : Obj) (g b : Nat) : Frm w ((w.alloc o1).alloc o2) g b := Frm.of_below (below_alloc (below_alloc (Below.refl w.heap.size w) o1) o2) g b
theorem frm_set (w : World) (g b j : Nat) (v : Value) : Frm w (w.setCell ⟨g, j, none⟩ v) g b := by
  have hB : Below g w (w.setCell ⟨g, j, none⟩ v) := Below.setCell (Below.refl g w) (p := (⟨g, j, none⟩ : Addr)) (Nat.le_refl g) v
  exact ⟨hB.os, hB.tape, hB.output, hB.size, fun k _ hg _ => Below.heap_setCell w ⟨g, j, none⟩ v k hg⟩
theorem wl_nil {w : World} {g b n c : Nat} {f : WF} (h : WL w g b n f c) : WL (w.setCell ⟨g, 1, none⟩ (.slice none 0 0)) g b n f c :=
  ⟨blk_put h.blk 1 _ rfl, h.map.set (a := ⟨g, 1, none⟩) (fun e => h.ne e.symm) _⟩
theorem wl_turned {w w' : World} {g b n n' c c' : Nat} {f f' : WF} (h : WL w g b n f c) (hm : WMap w' b n' f' c') (ht : w.mapTurned w' b) : WL w' g b n' f' c' :=
  ⟨((frm_turned ht h.map.lt b).block g (blk_lt h.blk) h.ne h.ne).trans h.blk, hm⟩
set_option maxHeartbeats 8000000 in
set_option maxRecDepth 100000 in
theorem put_calls (w : World) (g b n c : Nat) (f : WF) (h : WL w g b n f c) (hn : n < maxLen) (s : ByteArray) (hs : s.size ≤ maxLen) (p t : Int) :
    Calls Tryd.prog 77 #[.pointer (some ⟨g, 0, none⟩), .agg #[.string s], .agg #[.string s, .int .i32 p, .int .i32 t]] w fun e w' => e = .returned (.tuple #[]) ∧ WL w' g b (n + 1) (fput f s p t) (cput f s c) ∧ Frm w w' g b := by
  have hba : ((w.alloc (.cells #[.string s] 81)).alloc (.cells #[.string s, .int .i32 p, .int .i32 t] 92)).heap[g]? = _ := blk_two h.blk
  have hg1 : ((w.alloc (.cells #[.string s] 81)).alloc (.cells #[.string s, .int .i32 p, .int .i32 t] 92)).cell? ⟨g, 1, none⟩ = some (.slice none 0 0) := (blk_cell hba 1).trans rfl
  have hgf : ((w.alloc (.cells #[.string s] 81)).alloc (.cells #[.string s, .int .i32 p, .int .i32 t] 92)).frozen? ⟨g, 1, none⟩ = false := blk_frozen hba 1
  have HW : Aside0 (WL ((w.alloc (.cells #[.string s] 81)).alloc (.cells #[.string s, .int .i32 p, .int .i32 t] 92)) g b n f c) := ⟨h.below (below_alloc (below_alloc (Below.refl w.heap.size w) _) _)⟩
  have HF : Aside0 (Frm w ((w.alloc (.cells #[.string s] 81)).alloc (.cells #[.string s, .int .i32 p, .int .i32 t] 92)) g b) := ⟨frm_two w _ _ g b⟩
  have HS := Aside0.mk hs
  have HN := Aside0.mk hn
  have HGL := Aside0.mk (blk_lt h.blk)
  have hb0 : ((w.alloc (.cells #[.string s] 81)).alloc (.cells #[.string s, .int .i32 p, .int .i32 t] 92)).heap[w.heap.size]? = some (.cells #[.string s] 81 (0, 0)) := blk_alloc (blk_new w _) _
  have hb1 : ((w.alloc (.cells #[.string s] 81)).alloc (.cells #[.string s, .int .i32 p, .int .i32 t] 92)).heap[w.heap.size + 1]? = some (.cells #[.string s, .int .i32 p, .int .i32 t] 92 (0, 0)) := by
    have := blk_new (w.alloc (.cells #[.string s] 81)) (.cells #[.string s, .int .i32 p, .int .i32 t] 92)
    rwa [show (w.alloc (.cells #[.string s] 81)).heap.size = w.heap.size + 1 from Array.size_push ..] at this
  have HB0 := Aside0.mk hb0
  have HB1 := Aside0.mk hb1
  clear h hs hn hba hb0 hb1
  go_enter Tryd.func77, Tryd.ntmps77
  go_upto_region 2 with fail
  obtain ⟨wa, hwa⟩ : ∃ wa, wa = ((w.alloc (.cells #[.string s] 81)).alloc (.cells #[.string s, .int .i32 p, .int .i32 t] 92)) := ⟨_, rfl⟩
  rw [← hwa] at HW HF HB0 HB1 ⊢
  obtain ⟨wp, hwp⟩ : ∃ wp, wp = wa.setCell ⟨g, 1, none⟩ (.slice none 0 0) := ⟨_, rfl⟩
  have HWp : Aside0 (WL wp g b n f c) := ⟨by rw [hwp]; exact wl_nil HW.out⟩
  have HFp : Aside0 (Frm w wp g b) := ⟨by rw [hwp]; exact HF.out.trans (frm_set wa g b 1 _)⟩
  have hc0 : wp.heap[w.heap.size]? = some (.cells #[.string s] 81 (0, 0)) := by rw [hwp]; exact (Below.heap_setCell wa ⟨g, 1, none⟩ _ _ (by have := HGL.out; show w.heap.size ≠ g; omega)).trans HB0.out
  have hc1 : wp.heap[w.heap.size + 1]? = some (.cells #[.string s, .int .i32 p, .int .i32 t] 92 (0, 0)) := by rw [hwp]; exact (Below.heap_setCell wa ⟨g, 1, none⟩ _ _ (by have := HGL.out; show w.heap.size + 1 ≠ g; omega)).trans HB1.out
  rw [← hwp]
  obtain ⟨w5, hrun, hm5, hturn⟩ := wmap_run_update (w := wp.drew) (HWp.out.map.below (below_drew (Below.refl _ _))) HN.out s HS.out p t
  have HWd : Aside0 (WL wp.drew g b n f c) := ⟨HWp.out.below (below_drew (Below.refl _ _))⟩
  have HR : Aside0 (WL w5 g b (n + 1) (fput f s p t) (cput f s c)) := ⟨wl_turned HWd.out hm5 hturn⟩
  have HFr : Aside0 (Frm w w5 g b) := ⟨(HFp.out.trans (Frm.of_below (below_drew (Below.refl _ _)) g b)).trans (frm_turned hturn HWd.out.map.lt g)⟩
  have hz0 : wp.drew.cell? ⟨g, 0, none⟩ = some (.map (some b)) := (blk_cell HWd.out.blk 0).trans rfl
  have hz1 : wp.drew.cell? ⟨w.heap.size, 0, none⟩ = some (.string s) := (blk_cell (blk_drew hc0) 0).trans rfl
  have hz2 : wp.drew.cell? ⟨w.heap.size + 1, 0, none⟩ = some (.string s) := (blk_cell (blk_drew hc1) 0).trans rfl
  have hz3 : wp.drew.cell? ⟨w.heap.size + 1, 1, none⟩ = some (.int .i32 p) := (blk_cell (blk_drew hc1) 1).trans rfl
  have hz4 : wp.drew.cell? ⟨w.heap.size + 1, 2, none⟩ = some (.int .i32 t) := (blk_cell (blk_drew hc1) 2).trans rfl
  clear hwp hwa hg1 hgf hc0 hc1 hm5 hturn
  refine start_ (n := 7) (S := fun w' => w'.cell? ⟨g, 0, none⟩ = some (.map (some b)) ∧ w'.cell? ⟨w.heap.size, 0, none⟩ = some (.string s) ∧ w'.cell? ⟨w.heap.size + 1, 0, none⟩ = some (.string s) ∧ w'.cell? ⟨w.heap.size + 1, 1, none⟩ = some (.int .i32 p) ∧ w'.cell? ⟨w.heap.size + 1, 2, none⟩ = some (.int .i32 t)) (ds := [6]) #[false, false, false, false, false, false, false] (by kernel_rfl) rfl rfl ⟨hz0, hz1, hz2, hz3, hz4⟩ (fun hHeld => ?_)
  refine pure_ (i := 0) (N := some 9) (v := ?_) (a' := ?_) #[true, false, false, false, false, false, false] rfl rfl (by kernel_rfl) (fun _ _ _ h => h) (Or.inl ⟨by rfl, ?_⟩) ?_ ?_
  rotate_left
  · intro w'
    go_simp
    with_reducible rfl
  rotate_left
  · simp only [Act.put, List.setIfInBounds_toArray, List.set_cons_zero, List.set_cons_succ, i64_w, i32_w]
    rfl
  refine pure_ (i := 1) (N := some 10) (v := ?_) (a' := ?_) #[true, true, false, false, false, false, false] rfl rfl (by kernel_rfl) (fun _ _ _ h => h) (Or.inl ⟨by rfl, ?_⟩) ?_ ?_
  rotate_left
  · intro w'
    go_simp
    with_reducible rfl
  rotate_left
  · simp only [Act.put, List.setIfInBounds_toArray, List.set_cons_zero, List.set_cons_succ, i64_w, i32_w]
    rfl
  refine pure_ (i := 2) (N := some 11) (v := ?_) (a' := ?_) #[true, true, true, false, false, false, false] rfl rfl (by kernel_rfl) (fun _ _ _ h => h) (Or.inl ⟨by rfl, ?_⟩) ?_ ?_
  rotate_left
  · intro w'
    go_simp
    with_reducible rfl
  rotate_left
  · simp only [Act.put, List.setIfInBounds_toArray, List.set_cons_zero, List.set_cons_succ, i64_w, i32_w]
    rfl
  refine take_ (i := 3) (N := some 12) (v := ?_) (a' := ?_) #[true, true, true, true, false, false, false] rfl rfl (by kernel_rfl) (fun _ _ _ h => h) (Or.inl ⟨by rfl, ?_⟩) hHeld ?_ ?_
  rotate_left
  · rintro w' ⟨s0, s1, s2, s3, s4⟩
    go_simp
    with_reducible rfl
  rotate_left
  · simp only [Act.put, List.setIfInBounds_toArray, List.set_cons_zero, List.set_cons_succ, i64_w, i32_w]
    rfl
  refine take_ (i := 4) (N := some 13) (v := ?_) (a' := ?_) #[true, true, true, true, true, false, false] rfl rfl (by kernel_rfl) (fun _ _ _ h => h) (Or.inl ⟨by rfl, ?_⟩) hHeld ?_ ?_
  rotate_left
  · rintro w' ⟨s0, s1, s2, s3, s4⟩
    go_simp
    with_reducible rfl
  rotate_left
  · simp only [Act.put, List.setIfInBounds_toArray, List.set_cons_zero, List.set_cons_succ, i64_w, i32_w]
    rfl
  refine take_ (i := 5) (N := some 14) (v := ?_) (a' := ?_) #[true, true, true, true, true, true, false] rfl rfl (by kernel_rfl) (fun _ _ _ h => h) (Or.inl ⟨by rfl, ?_⟩) hHeld ?_ ?_
  rotate_left
  · rintro w' ⟨s0, s1, s2, s3, s4⟩
    go_simp
    with_reducible rfl
  rotate_left
  · simp only [Act.put, List.setIfInBounds_toArray, List.set_cons_zero, List.set_cons_succ, i64_w, i32_w]
    rfl
  refine last_ (i := 6) (N := none) #[true, true, true, true, true, true, true] rfl rfl (by kernel_rfl) (by decide) (fun K hK => ?_)
  refine skip_ (w1 := w5) (by rfl) rfl ?_ ?_
  · first | (go_simp; done) | (go_simp; rfl)
  refine hK.out _ _ ?_
  clear hK K
  refine done_ (by kernel_rfl) ?_
  refine bodyPost_end (results_none rfl _ _ _) rfl ?_
  exact ⟨rfl, HR.out, HFr.out⟩
set_option maxHeartbeats 8000000 in
set_option maxRecDepth 100000 in
theorem delete_calls (w : World) (g b n c : Nat) (f : WF) (h : WL w g b n f c) (s : ByteArray) (hs : s.size ≤ maxLen) :
    Calls Tryd.prog 78 #[.pointer (some ⟨g, 0, none⟩), .agg #[.string s]] w fun e w' => e = .returned (.tuple #[]) ∧ WL w' g b n (fdel f s) (cdel f s c) ∧ Frm w w' g b := by
  obtain ⟨wp, hwp⟩ : ∃ wp, wp = w.alloc (.cells #[.string s] 81) := ⟨_, rfl⟩
  have HWp : Aside0 (WL wp g b n f c) := ⟨by rw [hwp]; exact h.below (below_alloc (Below.refl _ _) _)⟩
  have HFp : Aside0 (Frm w wp g b) := ⟨by rw [hwp]; exact Frm.of_below (below_alloc (Below.refl _ _) _) g b⟩
  have hc0 : wp.heap[w.heap.size]? = some (.cells #[.string s] 81 (0, 0)) := by rw [hwp]; exact blk_new w _
  have HC0 := Aside0.mk hc0
  have HS := Aside0.mk hs
  clear h hs hc0
  go_enter Tryd.func78, Tryd.ntmps78
  go_upto_region 1 with fail
  rw [← hwp]
  obtain ⟨w5, hrun, hm5, hturn⟩ := wmap_run_delete (w := wp.drew) (HWp.out.map.below (below_drew (Below.refl _ _))) s HS.out 0
  have HWd : Aside0 (WL wp.drew g b n f c) := ⟨HWp.out.below (below_drew (Below.refl _ _))⟩
  have HR : Aside0 (WL w5 g b n (fdel f s) (cdel f s c)) := ⟨wl_turned HWd.out hm5 hturn⟩
  have HFr : Aside0 (Frm w w5 g b) := ⟨(HFp.out.trans (Frm.of_below (below_drew (Below.refl _ _)) g b)).trans (frm_turned hturn HWd.out.map.lt g)⟩
  have hz0 : wp.drew.cell? ⟨g, 0, none⟩ = some (.map (some b)) := (blk_cell HWd.out.blk 0).trans rfl
  have hz1 : wp.drew.cell? ⟨w.heap.size, 0, none⟩ = some (.string s) := (blk_cell (blk_drew HC0.out) 0).trans rfl
  have hg1 : w5.cell? ⟨g, 1, none⟩ = some (.slice none 0 0) := (blk_cell HR.out.blk 1).trans rfl
  have hgf : w5.frozen? ⟨g, 1, none⟩ = false := blk_frozen HR.out.blk 1
  clear hwp hm5 hturn
  refine start_ (n := 6) (S := fun w' => w'.cell? ⟨g, 0, none⟩ = some (.map (some b)) ∧ w'.cell? ⟨w.heap.size, 0, none⟩ = some (.string s)) (ds := [5]) #[false, false, false, false, false, false] (by kernel_rfl) rfl rfl ⟨hz0, hz1⟩ (fun hHeld => ?_)
  refine pure_ (i := 0) (N := some 4) (v := ?_) (a' := ?_) #[true, false, false, false, false, false] rfl rfl (by kernel_rfl) (fun _ _ _ h => h) (Or.inl ⟨by rfl, ?_⟩) ?_ ?_
  rotate_left
  · intro w'
    go_simp
    with_reducible rfl
  rotate_left
  · simp only [Act.put, List.setIfInBounds_toArray, List.set_cons_zero, List.set_cons_succ, i64_w, i32_w]
    rfl
  refine pure_ (i := 1) (N := some 5) (v := ?_) (a' := ?_) #[true, true, false, false, false, false] rfl rfl (by kernel_rfl) (fun _ _ _ h => h) (Or.inl ⟨by rfl, ?_⟩) ?_ ?_
  rotate_left
  · intro w'
    go_simp
    with_reducible rfl
  rotate_left
  · simp only [Act.put, List.setIfInBounds_toArray, List.set_cons_zero, List.set_cons_succ, i64_w, i32_w]
    rfl
  refine pure_ (i := 2) (N := some 6) (v := ?_) (a' := ?_) #[true, true, true, false, false, false] rfl rfl (by kernel_rfl) (fun _ _ _ h => h) (Or.inl ⟨by rfl, ?_⟩) ?_ ?_
  rotate_left
  · intro w'
    go_simp
    with_reducible rfl
  rotate_left
  · simp only [Act.put, List.setIfInBounds_toArray, List.set_cons_zero, List.set_cons_succ, i64_w, i32_w]
    rfl
  refine take_ (i := 3) (N := some 7) (v := ?_) (a' := ?_) #[true, true, true, true, false, false] rfl rfl (by kernel_rfl) (fun _ _ _ h => h) (Or.inl ⟨by rfl, ?_⟩) hHeld ?_ ?_
  rotate_left
  · rintro w' ⟨s0, s1⟩
    go_simp
    with_reducible rfl
  rotate_left
  · simp only [Act.put, List.setIfInBounds_toArray, List.set_cons_zero, List.set_cons_succ, i64_w, i32_w]
    rfl
  refine take_ (i := 4) (N := some 8) (v := ?_) (a' := ?_) #[true, true, true, true, true, false] rfl rfl (by kernel_rfl) (fun _ _ _ h => h) (Or.inl ⟨by rfl, ?_⟩) hHeld ?_ ?_
  rotate_left
  · rintro w' ⟨s0, s1⟩
    go_simp
    with_reducible rfl
  rotate_left
  · simp only [Act.put, List.setIfInBounds_toArray, List.set_cons_zero, List.set_cons_succ, i64_w, i32_w]
    rfl
  refine last_ (i := 5) (N := none) #[true, true, true, true, true, true] rfl rfl (by kernel_rfl) (by decide) (fun K hK => ?_)
  refine value_ (w1 := w5) (v := .tuple #[]) (by rfl) rfl ?_ ?_
  · first | (go_simp; done) | (go_simp; rfl)
  refine hK.out _ _ ?_
  clear hK K
  refine done_ (by kernel_rfl) ?_
  clear hrun hz0 hz1
  go_wp2_with fail
  refine bodyPost_end (results_none rfl _ _ _) rfl ?_
  exact ⟨rfl, wl_nil HR.out, HFr.out.trans (frm_set w5 g b 1 _)⟩
end Go.Proofs.YteekkpofcbcikaaDoor.HandWan
