/- The bytes of an identifier; an entry as data. -/
import Derived.Test.YteekkpofcbcikaaDoorPWanx0
import Derived.Test.YteekkpofcbcikaaDoorPWanx1
import Derived.Test.YteekkpofcbcikaaDoorPWanx7
import Derived.Test.YteekkpofcbcikaaDoorPWanx9
import Derived.Test.YteekkpofcbcikaaDoorI5
import Derived.Lib.ConvBytes
namespace Go.Proofs.YteekkpofcbcikaaDoor.HandWan
open Go Go.RowKit Go.Proofs.YteekkpofcbcikaaDoorL Go.Proofs.YteekkpofcbcikaaDoorW.PrintWords Go.Proofs.YteekkpofcbcikaaDoorW.PrintLast Go.Proofs.YteekkpofcbcikaaDoorW.PrintMore Go.Proofs.YteekkpofcbcikaaDoor.PWan
attribute [local go_sem] max2_int min2_int max_two min_two max_three min_three max_four min_four
set_option linter.unusedVariables false
set_option linter.unusedSimpArgs false
/-- The bytes of a text as numbers. -/
def numsB (s : ByteArray) : List Int := s.data.toList.map fun x => (x.toNat : Int)
theorem numsB_len (s : ByteArray) : (numsB s).length = s.size := by
  show (List.map _ s.data.toList).length = s.data.size
  rw [List.length_map, Array.length_toList]
theorem strOf_numsB (s : ByteArray) : strOfNums (numsB s) = s := by
  obtain ⟨d⟩ := s
  unfold strOfNums numsB
  congr 1
  rw [List.map_map]
  have : (fun n : Int => UInt8.ofNat n.toNat) ∘ (fun x : UInt8 => (x.toNat : Int)) = id := by
    funext x
    simp
  rw [this, List.map_id]
theorem numsB_strOf {l : List Int} (h : ∀ x ∈ l, 0 ≤ x ∧ x < 256) : numsB (strOfNums l) = l := by
  unfold strOfNums numsB
  rw [List.map_map]
  have : ∀ x ∈ l, ((fun x : UInt8 => (x.toNat : Int)) ∘ fun n : Int => UInt8.ofNat n.toNat) x = x := by
    intro x hx
    have := h x hx
    simp only [Function.comp, UInt8.toNat_ofNat']
    omega
  rw [List.map_congr_left this, List.map_id']
theorem numsB_byte (s : ByteArray) : ∀ x ∈ numsB s, 0 ≤ x ∧ x < 256 := by
  intro x hx
  obtain ⟨y, _, rfl⟩ := List.mem_map.1 hx
  have := y.toNat_lt
  omega
/-- The row that a conversion makes. -/
theorem bytes_row (w : World) (s : ByteArray) (hs : s.size ≤ maxLen) : Kd.C (Kd.int .u8) (Lib.bytesWorld w 5 s) (some ⟨w.heap.size, 0, none⟩) (numsB s).length (numsB s) := by
  refine Kd.C_of_reads (enc := Value.int .u8) (d := (0 : Int)) (h1 := fun _ => rfl) ⟨rfl, by rw [numsB_len]; simpa [maxLen] using hs, fun _ => ⟨_, rfl, fun j hj => ?_⟩⟩
  have hj2 : j < s.size := by rw [← numsB_len]; exact hj
  have e : (⟨w.heap.size, 0, none⟩ : Addr).add j = ⟨w.heap.size, j, none⟩ := by
    unfold Addr.add
    split
    · next h => rw [h]
    · simp
  rw [e, Lib.bytesWorld_cell w 5 s j hj2]
  have h3 : j < s.data.toList.length := by rw [Array.length_toList]; exact hj2
  simp [numsB, List.getD_eq_getElem?_getD, List.getElem?_map, List.getElem?_eq_getElem h3]
theorem bytes_below (w : World) (s : ByteArray) : Below w.heap.size w (Lib.bytesWorld w 5 s) :=
  ⟨rfl, rfl, rfl, by rw [Lib.bytesWorld_size]; exact Nat.le_succ _, fun k hk => Lib.bytesWorld_at_old w 5 s k hk⟩
theorem conv_run (w : World) (s : ByteArray) : (convert 9 24 (.string s)).run Tryd.prog w = .ok (.slice (some ⟨w.heap.size, 0, none⟩) s.size (grownCap w s.size 0 5)) (Lib.bytesWorld w 5 s) :=
  Lib.run_convert_string_bytes w 9 24 5 s Tryd.underlying9 Tryd.underlying24 Tryd.underlying5
set_option maxHeartbeats 8000000 in
set_option maxRecDepth 100000 in
theorem defined_calls (w : World) (s : ByteArray) (h0 : 0 < s.size) : Calls Tryd.prog 111 #[.agg #[.string s]] w fun e w' => e = .returned (.bool true) ∧ Below w.heap.size w w' := by
  have hb : (s.toList == ([] : List UInt8)) = false := by
    rw [ByteArray.toList_eq]
    cases e : s.data.toList with
    | nil =>
      have : s.size = s.data.toList.length := (Array.length_toList).symm
      rw [e] at this
      rw [this] at h0
      cases h0
    | cons => rfl
  have hb1 : (s.toList != ([] : List UInt8)) = true := by rw [bne, hb]; rfl
  have hb2 : s.toList.isEmpty = false := by
    cases e : s.toList with
    | nil => rw [e] at hb; cases hb
    | cons => rfl
  clear h0
  go_enter Tryd.func111, Tryd.ntmps111
  go_wp2_with fail
  go_ret
  exact ⟨by first | rfl | simp_all, below_alloc (Below.refl _ _) _⟩
set_option maxHeartbeats 8000000 in
set_option maxRecDepth 100000 in
theorem bytes_calls (w : World) (s : ByteArray) (h0 : 0 < s.size) (hs : s.size ≤ maxLen) : Calls Tryd.prog 79 #[.agg #[.string s]] w fun e w' => ∃ A c, e = .returned (.slice A (numsB s).length c) ∧ Kd.C (Kd.int .u8) w' A (numsB s).length (numsB s) ∧ (numsB s).length ≤ c ∧ Below w.heap.size w w' := by
  have HS := Aside0.mk hs
  have H0 := Aside0.mk h0
  clear hs h0
  go_enter Tryd.func79, Tryd.ntmps79
  go_upto_region 3 with (go_at_call 111; refine (defined_calls _ s H0.out).mono ?_; rintro e w1 ⟨rfl, hb⟩; have HB1 := Aside0.mk (below_step (below_alloc (Below.refl _ _) _) hb); have hc1 : w1.cell? ⟨w.heap.size, 0, none⟩ = some (.string s) := (blk_cell ((hb.block _ (blk_lt (blk_new w _))).trans (blk_new w _)) 0).trans rfl; clear hb)
  have hrun := conv_run w1 s
  go_wp2_with fail
  go_ret
  refine ⟨some ⟨w1.heap.size, 0, none⟩, grownCap w1 s.size 0 5, ?_, bytes_row w1 s HS.out, by rw [numsB_len]; exact grownCap_ge .., below_step HB1.out (bytes_below w1 s)⟩
  rw [numsB_len]
  rfl
theorem R_put {α : Type} {d : Kd α} {e base q t j : Nat} {W : World} {v u : Value} {xs : List α} {cs : Array Value} (h : d.R e W base (fun _ => True) v xs) (hb : W.heap[q]? = some (.cells cs t (0, 0))) (ht : t ∉ e :: d.E) : d.R e (W.setCell ⟨q, j, none⟩ u) base (fun _ => True) v xs := by
  refine Kd.R_mono (Kd.R_step (Kd.R_bound h) (fun k hk _ => Below.heap_setCell W ⟨q, j, none⟩ u k ?_)) (fun _ _ => trivial)
  rintro rfl
  obtain ⟨_, _, _, q', hq, cells, hc⟩ := hk
  rw [hb] at hc
  injection hc with hc
  injection hc with _ hc
  exact ht (hc ▸ hq)
theorem R_set3 {α : Type} {d : Kd α} {e base q t : Nat} {W : World} {v u0 u1 u2 v0 v1 v2 : Value} {xs : List α} (h : d.R e W base (fun _ => True) v xs) (hb : W.heap[q]? = some (.cells #[u0, u1, u2] t (0, 0))) (ht : t ∉ e :: d.E) : d.R e (set3 W q v0 v1 v2) base (fun _ => True) v xs :=
  R_put (R_put (R_put h hb ht) (blk_put hb 0 v0 rfl) ht) (blk_put (blk_put hb 0 v0 rfl) 1 v1 rfl) ht
theorem below_set3 {w w1 : World} {q : Nat} (h : Below w.heap.size w w1) (hq : w.heap.size ≤ q) (v0 v1 v2 : Value) : Below w.heap.size w (set3 w1 q v0 v1 v2) :=
  below_set (below_set (below_set h hq) hq) hq
theorem infoC27 : (Tryd.prog.info? 27).map (·.size) = some 3 := by kernel_rfl
set_option maxHeartbeats 8000000 in
set_option maxRecDepth 100000 in
theorem plain_calls (w : World) (s : ByteArray) (h0 : 0 < s.size) (hs : s.size ≤ 1000000) (p t : Int) : Calls Tryd.prog 41 #[.agg #[.string s, .int .i32 p, .int .i32 t]] w fun e w' => ∃ v, e = .returned (.agg #[v, .int .i32 p, .bool (t == 1)]) ∧ Kd.R (Kd.int .u8) 5 w' w.heap.size (fun _ => True) v (numsB s) ∧ Below w.heap.size w w' := by
  obtain ⟨wp, hwp⟩ : ∃ wp, wp = (w.alloc (.cells #[.string s, .int .i32 p, .int .i32 t] 92)).alloc (.cells #[.slice none 0 0, .int .i32 0, .bool false] 27) := ⟨_, rfl⟩
  have HBp : Aside0 (Below w.heap.size w wp) := ⟨by rw [hwp]; exact below_alloc (below_alloc (Below.refl _ _) _) _⟩
  have hc0 : wp.heap[w.heap.size]? = some (.cells #[.string s, .int .i32 p, .int .i32 t] 92 (0, 0)) := by rw [hwp]; exact blk_alloc (blk_new w _) _
  have hc1 : wp.heap[w.heap.size + 1]? = some (.cells #[.slice none 0 0, .int .i32 0, .bool false] 27 (0, 0)) := by
    have := blk_new (w.alloc (.cells #[.string s, .int .i32 p, .int .i32 t] 92)) (.cells #[.slice none 0 0, .int .i32 0, .bool false] 27)
    rw [hwp]
    rwa [show (w.alloc (.cells #[.string s, .int .i32 p, .int .i32 t] 92)).heap.size = w.heap.size + 1 from Array.size_push ..] at this
  have HRes : Aside0 (wp.drew.heap[w.heap.size + 1]? = some (.cells #[.slice none 0 0, .int .i32 0, .bool false] 27 (0, 0))) := ⟨blk_drew hc1⟩
  have HBd : Aside0 (Below w.heap.size w wp.drew) := ⟨below_drew HBp.out⟩
  have HS := Aside0.mk (show s.size ≤ maxLen by simp only [maxLen]; omega)
  have H0 := Aside0.mk h0
  have HCl : Aside0 (bytes_Clone.f (numsB s) = some (numsB s)) := ⟨by unfold bytes_Clone.f; rw [if_pos (by rw [numsB_len]; omega)]⟩
  have hz0 : wp.drew.cell? ⟨w.heap.size, 0, none⟩ = some (.string s) := (blk_cell (blk_drew hc0) 0).trans rfl
  have hz1 : wp.drew.cell? ⟨w.heap.size, 1, none⟩ = some (.int .i32 p) := (blk_cell (blk_drew hc0) 1).trans rfl
  have hz2 : wp.drew.cell? ⟨w.heap.size, 2, none⟩ = some (.int .i32 t) := (blk_cell (blk_drew hc0) 2).trans rfl
  clear h0 hs hc0 hc1
  go_enter Tryd.func41, Tryd.ntmps41
  go_upto_region 1 with fail
  rw [← hwp]
  clear hwp
  refine start_ (n := 11) (S := fun w' => w'.cell? ⟨w.heap.size, 0, none⟩ = some (.string s) ∧ w'.cell? ⟨w.heap.size, 1, none⟩ = some (.int .i32 p) ∧ w'.cell? ⟨w.heap.size, 2, none⟩ = some (.int .i32 t)) (ds := [10]) #[false, false, false, false, false, false, false, false, false, false, false] (by kernel_rfl) rfl rfl ⟨hz0, hz1, hz2⟩ (fun hHeld => ?_)
  refine pure_ (i := 0) (N := some 3) (v := ?_) (a' := ?_) #[true, false, false, false, false, false, false, false, false, false, false] rfl rfl (by kernel_rfl) (fun _ _ _ h => h) (Or.inl ⟨by rfl, ?_⟩) ?_ ?_
  rotate_left
  · intro w'
    go_simp
    with_reducible rfl
  rotate_left
  · simp only [Act.put, List.setIfInBounds_toArray, List.set_cons_zero, List.set_cons_succ, i64_w, i32_w]
    rfl
  refine pure_ (i := 4) (N := some 7) (v := ?_) (a' := ?_) #[true, false, false, false, true, false, false, false, false, false, false] rfl rfl (by kernel_rfl) (fun _ _ _ h => h) (Or.inl ⟨by rfl, ?_⟩) ?_ ?_
  rotate_left
  · intro w'
    go_simp
    with_reducible rfl
  rotate_left
  · simp only [Act.put, List.setIfInBounds_toArray, List.set_cons_zero, List.set_cons_succ, i64_w, i32_w]
    rfl
  refine pure_ (i := 6) (N := some 9) (v := ?_) (a' := ?_) #[true, false, false, false, true, false, true, false, false, false, false] rfl rfl (by kernel_rfl) (fun _ _ _ h => h) (Or.inl ⟨by rfl, ?_⟩) ?_ ?_
  rotate_left
  · intro w'
    go_simp
    with_reducible rfl
  rotate_left
  · simp only [Act.put, List.setIfInBounds_toArray, List.set_cons_zero, List.set_cons_succ, i64_w, i32_w]
    rfl
  refine take_ (i := 1) (N := some 4) (v := ?_) (a' := ?_) #[true, true, false, false, true, false, true, false, false, false, false] rfl rfl (by kernel_rfl) (fun _ _ _ h => h) (Or.inl ⟨by rfl, ?_⟩) hHeld ?_ ?_
  rotate_left
  · rintro w' ⟨s0, s1, s2⟩
    go_simp
    with_reducible rfl
  rotate_left
  · simp only [Act.put, List.setIfInBounds_toArray, List.set_cons_zero, List.set_cons_succ, i64_w, i32_w]
    rfl
  refine take_ (i := 5) (N := some 8) (v := ?_) (a' := ?_) #[true, true, false, false, true, true, true, false, false, false, false] rfl rfl (by kernel_rfl) (fun _ _ _ h => h) (Or.inl ⟨by rfl, ?_⟩) hHeld ?_ ?_
  rotate_left
  · rintro w' ⟨s0, s1, s2⟩
    go_simp
    with_reducible rfl
  rotate_left
  · simp only [Act.put, List.setIfInBounds_toArray, List.set_cons_zero, List.set_cons_succ, i64_w, i32_w]
    rfl
  refine take_ (i := 7) (N := some 10) (v := ?_) (a' := ?_) #[true, true, false, false, true, true, true, true, false, false, false] rfl rfl (by kernel_rfl) (fun _ _ _ h => h) (Or.inl ⟨by rfl, ?_⟩) hHeld ?_ ?_
  rotate_left
  · rintro w' ⟨s0, s1, s2⟩
    go_simp
    with_reducible rfl
  rotate_left
  · simp only [Act.put, List.setIfInBounds_toArray, List.set_cons_zero, List.set_cons_succ, i64_w, i32_w]
    rfl
  refine pure_ (i := 8) (N := some 11) (v := ?_) (a' := ?_) #[true, true, false, false, true, true, true, true, true, false, false] rfl rfl (by kernel_rfl) (fun _ _ _ h => h) (Or.inl ⟨by rfl, ?_⟩) ?_ ?_
  rotate_left
  · intro w'
    go_simp
    with_reducible rfl
  rotate_left
  · simp only [Act.put, List.setIfInBounds_toArray, List.set_cons_zero, List.set_cons_succ, i64_w, i32_w]
    rfl
  refine one_ (i := 2) (N := some 5) #[true, true, true, false, true, true, true, true, true, false, false] rfl rfl (by kernel_rfl) (by decide) (fun K hK => ?_)
  refine goes_ Tryd.func79 (by kernel_rfl) rfl #[.agg #[.string s]] (by rfl) rfl rfl (by simp only [List.map_toArray, List.map_cons, List.map_nil]; rfl) ?_
  with_reducible refine (bytes_calls (wp.drew) s H0.out HS.out).mono ?_
  rintro e wb ⟨A5, c5, rfl, hC, hl, hB⟩
  have HBwb := Aside0.mk (below_step HBd.out hB)
  have wb0 := (hB.cell (World.block_lt_of_cell? wp.drew _ hz0)).trans hz0
  have wb1 := (hB.cell (World.block_lt_of_cell? wp.drew _ hz1)).trans hz1
  have wb2 := (hB.cell (World.block_lt_of_cell? wp.drew _ hz2)).trans hz2
  have HReswb := Aside0.mk ((hB.block _ (blk_lt HRes.out)).trans HRes.out)
  have HC5 := Aside0.mk hC
  have HL5 := Aside0.mk hl
  clear hC hl hB
  refine ⟨_, rfl, ?_⟩
  refine hK.out _ _ ⟨wb0, wb1, wb2⟩ (fun hHeld => ?_)
  clear hK K
  refine norm_ (a' := ?_) ?_ ?_
  rotate_left
  · show Act.put _ (some 5) _ = _
    simp only [Act.put, List.setIfInBounds_toArray, List.set_cons_zero, List.set_cons_succ, i64_w, i32_w]
    rfl
  refine one_ (i := 3) (N := some 6) #[true, true, true, true, true, true, true, true, true, false, false] rfl rfl (by kernel_rfl) (by decide) (fun K hK => ?_)
  refine goes_ Tryd.func23 (by kernel_rfl) rfl #[.slice A5 (numsB s).length c5] (by rfl) rfl rfl (by simp only [List.map_toArray, List.map_cons, List.map_nil]; rfl) ?_
  with_reducible refine (bytes_Clone.calls A5 c5 (numsB s) (numsB s) wb HC5.out HL5.out HCl.out).mono ?_
  rintro e wc ⟨v6, rfl, hR, hB⟩
  have HBwc := Aside0.mk (below_step HBwb.out hB)
  have wc0 := (hB.cell (World.block_lt_of_cell? wb _ wb0)).trans wb0
  have wc1 := (hB.cell (World.block_lt_of_cell? wb _ wb1)).trans wb1
  have wc2 := (hB.cell (World.block_lt_of_cell? wb _ wb2)).trans wb2
  have HReswc := Aside0.mk ((hB.block _ (blk_lt HReswb.out)).trans HReswb.out)
  obtain ⟨A6, c6, rfl⟩ := Kd.R_slice hR
  have HR6 := Aside0.mk (Kd.R_lower hR HBwb.out.size)
  clear hR hB
  have hy0 := (blk_cell HReswc.out 0).trans rfl
  have hy1 := (blk_cell HReswc.out 1).trans rfl
  have hy2 := (blk_cell HReswc.out 2).trans rfl
  have hyf := blk_frozen HReswc.out
  refine ⟨_, rfl, ?_⟩
  refine hK.out _ _ ⟨wc0, wc1, wc2⟩ (fun hHeld => ?_)
  clear hK K
  refine norm_ (a' := ?_) ?_ ?_
  rotate_left
  · show Act.put _ (some 6) _ = _
    simp only [Act.put, List.setIfInBounds_toArray, List.set_cons_zero, List.set_cons_succ, i64_w, i32_w]
    rfl
  refine pure_ (i := 9) (N := some 12) (v := ?_) (a' := ?_) #[true, true, true, true, true, true, true, true, true, true, false] rfl rfl (by kernel_rfl) (fun _ _ _ h => h) (Or.inl ⟨by rfl, ?_⟩) ?_ ?_
  rotate_left
  · intro w'
    go_simp
    with_reducible rfl
  rotate_left
  · simp only [Act.put, List.setIfInBounds_toArray, List.set_cons_zero, List.set_cons_succ, i64_w, i32_w]
    rfl
  refine last_ (i := 10) (N := none) #[true, true, true, true, true, true, true, true, true, true, true] rfl rfl (by kernel_rfl) (by decide) (fun K hK => ?_)
  refine skip_ (w1 := ?_) (by rfl) rfl ?_ ?_
  rotate_left
  · go_simp
    rfl
  refine hK.out _ _ ?_
  clear hK K
  refine done_ (by kernel_rfl) ?_
  have HZ : Aside0 ((set3 wc (w.heap.size + 1) (.slice A6 (numsB s).length c6) (.int .i32 p) (.bool (t == 1))).heap[w.heap.size + 1]? = some (.cells #[.slice A6 (numsB s).length c6, .int .i32 p, .bool (t == 1)] 27 (0, 0))) := ⟨set3_new HReswc.out _ _ _⟩
  have HRZ := Aside0.mk (R_set3 (v0 := .slice A6 (numsB s).length c6) (v1 := .int .i32 p) (v2 := .bool (t == 1)) HR6.out HReswc.out (by decide))
  have HBZ := Aside0.mk (below_set3 HBwc.out (q := w.heap.size + 1) (by omega) (.slice A6 (numsB s).length c6) (.int .i32 p) (.bool (t == 1)))
  unfold set3 at HZ HRZ HBZ
  go_wp2_with fail
  refine bodyPost_ret (results_cell_row rfl _ _ (w.heap.size + 1) 27 #[.slice A6 (numsB s).length c6, .int .i32 p, .bool (t == 1)] (0, 0) _ rfl HZ.out Tryd.underlying27 rfl infoC27) rfl ?_
  exact ⟨_, rfl, HRZ.out, HBZ.out⟩
end Go.Proofs.YteekkpofcbcikaaDoor.HandWan
