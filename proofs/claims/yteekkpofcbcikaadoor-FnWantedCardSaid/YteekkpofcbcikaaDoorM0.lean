/- What listsLive answers. -/
import Derived.Test.YteekkpofcbcikaaDoorL0
namespace Go.Proofs.YteekkpofcbcikaaDoor.HandWan
open Go Go.RowKit Go.Proofs.YteekkpofcbcikaaDoorL Go.Proofs.YteekkpofcbcikaaDoorW.PrintWords Go.Proofs.YteekkpofcbcikaaDoorW.PrintLast Go.Proofs.YteekkpofcbcikaaDoorW.PrintMore Go.Proofs.YteekkpofcbcikaaDoor.PWan
attribute [local go_sem] max2_int min2_int max_two min_two max_three min_three max_four min_four
set_option linter.unusedVariables false
set_option linter.unusedSimpArgs false
theorem C_lit {α : Type} {d : Kd α} {w : World} {g t : Nat} {cells : List Value} {xs : List α} (h : w.heap[g]? = some (.cells cells.toArray t (0, 0))) (hr : Reps (d.K w) d.sz xs cells) (hm : xs.length ≤ 1000000) : Kd.C d w (some ⟨g, 0, none⟩) xs.length xs := by
  refine ⟨rfl, by omega, fun _ => ⟨_, rfl, fun j p hj => ⟨(cells.drop (j * d.sz)).take d.sz, ?_, hr.2 j p hj, fun i u hi => ?_⟩⟩⟩
  · have hjl := (List.getElem?_eq_some_iff.1 hj).1
    have h1 : j * d.sz + d.sz ≤ cells.length := by rw [hr.1, ← Nat.succ_mul]; exact Nat.mul_le_mul_right _ hjl
    rw [List.length_take, List.length_drop]
    omega
  · have e : (⟨g, 0, none⟩ : Addr).add (j * d.sz + i) = ⟨g, j * d.sz + i, none⟩ := by
      unfold Addr.add
      split
      · next h => rw [h]
      · simp
    rw [e, cell_of_row _ _ _ _ _ _ h]
    have hi2 : ((cells.drop (j * d.sz)).take d.sz)[i]? = some u := hi
    rw [List.getElem?_take] at hi2
    split at hi2
    · rw [List.getElem?_drop] at hi2
      simpa using hi2
    · cases hi2
theorem reps_one {α : Type} {R : α → List Value → Prop} {size : Nat} {p : α} {c : List Value} (hp : R p c) (hc : c.length = size) : Reps R size [p] c := by
  have := Reps.snoc (Reps.none R size) hp hc
  simpa using this
theorem F_lit {α : Type} {d : Kd α} {w : World} {g t : Nat} {cells : List Value} {xs : List α} {ok : Nat → Prop} (h : w.heap[g]? = some (.cells cells.toArray t (0, 0))) (hg : ok g) (hr : ∀ W', (∀ k, ok k → k < w.heap.size → W'.heap[k]? = w.heap[k]?) → Reps (d.K W') d.sz xs cells) (hm : xs.length ≤ 1000000) : Kd.F d w ok (some ⟨g, 0, none⟩) xs.length xs :=
  fun W' hW => C_lit ((hW g hg (blk_lt h)).trans h) (hr W' hW) hm
/-- Two steps in a row of their own. -/
theorem reps_two {W : World} {x y : S31} {A1 A2 : Option Addr} {c1 c2 : Nat} (l1 : x.f1.f0.length ≤ c1) (g1 : (Kd.int .u8).C W A1 x.f1.f0.length x.f1.f0) (l2 : y.f1.f0.length ≤ c2) (g2 : (Kd.int .u8).C W A2 y.f1.f0.length y.f1.f0) :
    Reps (k31.K W) k31.sz [x, y] [.int .i64 x.f0, .slice A1 x.f1.f0.length c1, .int .i32 x.f1.f1, .bool x.f1.f2, .int .i64 y.f0, .slice A2 y.f1.f0.length c2, .int .i32 y.f1.f1, .bool y.f1.f2] :=
  Reps.snoc (reps_one (R := k31.K W) (size := k31.sz) (k31_mk W x l1 g1) rfl) (k31_mk W y l2 g2) rfl
theorem cast_0 (x : Int) : gocid_Cast.f 100 (18 :: 32 :: (List.replicate 31 0 ++ [x])) = some (strOfNums (18 :: 32 :: (List.replicate 31 0 ++ [x])), none) := by kernel_rfl
theorem cast_1 (x : Int) : gocid_Cast.f 100 (1 :: 112 :: 18 :: 32 :: (List.replicate 31 0 ++ [x])) = some (strOfNums (1 :: 112 :: 18 :: 32 :: (List.replicate 31 0 ++ [x])), none) := by kernel_rfl
theorem cast_2 (x : Int) : gocid_Cast.f 100 (1 :: 85 :: 18 :: 32 :: (List.replicate 31 0 ++ [x])) = some (strOfNums (1 :: 85 :: 18 :: 32 :: (List.replicate 31 0 ++ [x])), none) := by kernel_rfl
theorem cast_id (n : Nat) : gocid_Cast.f 100 (idB n) = some (strOfNums (idB n), none) := by
  unfold idB hashN
  split
  · exact cast_0 _
  · split
    · exact cast_1 _
    · exact cast_2 _
theorem idB_len (n : Nat) : 0 < (idB n).length ∧ (idB n).length ≤ 1000 := by
  have := hashN_len (n / 3)
  unfold idB
  split
  · simp only [List.length_cons]; omega
  · split <;> (simp only [List.length_cons]; omega)
theorem idB_byte (n : Nat) (hn : n < 256) : ∀ y ∈ idB n, 0 ≤ y ∧ y < 256 := by
  have h0 : ∀ y ∈ hashN (n / 3), 0 ≤ y ∧ y < 256 := by
    intro y hy
    unfold hashN at hy
    rcases List.mem_append.1 hy with h | h
    · rw [List.eq_of_mem_replicate h]; omega
    · rw [List.mem_singleton.1 h]; omega
  intro y hy
  unfold idB at hy
  split at hy
  · rcases List.mem_cons.1 hy with rfl | hy
    · omega
    · rcases List.mem_cons.1 hy with rfl | hy
      · omega
      · exact h0 y hy
  · split at hy
    all_goals
      rcases List.mem_cons.1 hy with rfl | hy
      · omega
      · rcases List.mem_cons.1 hy with rfl | hy
        · omega
        · rcases List.mem_cons.1 hy with rfl | hy
          · omega
          · rcases List.mem_cons.1 hy with rfl | hy
            · omega
            · exact h0 y hy
theorem ok_id (n : Nat) (hn : n < 256) (k p : Int) (h : Bool) : OkW ⟨k, ⟨idB n, p, h⟩⟩ := ⟨cast_id n, idB_byte n hn, (idB_len n).1, (idB_len n).2⟩
def liveE : S27 := ⟨idB 1, 3, true⟩
theorem sortN_one (s : ByteArray) : sortN [s] = [s] := by
  unfold sortN
  simp
theorem live_eq : wRun (sortN (ded [⟨0, liveE⟩, ⟨3, liveE⟩])) st0 [⟨0, liveE⟩, ⟨3, liveE⟩] = [⟨true, z27, 1, [liveE]⟩, ⟨true, liveE, 1, [liveE]⟩] := by
  have e : ded [⟨0, liveE⟩, ⟨3, liveE⟩] = [strOfNums (idB 1)] := by kernel_rfl
  have h : wRun [strOfNums (idB 1)] st0 [⟨0, liveE⟩, ⟨3, liveE⟩] = [⟨true, z27, 1, [liveE]⟩, ⟨true, liveE, 1, [liveE]⟩] := by kernel_rfl
  rw [e, sortN_one, h]
theorem same_refl (l : List Int) (p : Int) (h : Bool) : laws_sameEntry.f l p h l p h = some true := by
  unfold laws_sameEntry.f bytes_Equal.f
  simp
theorem rd36_eq (l : List S36) (j : Nat) (hj : j < l.length) : rd_T36 l (j : Int) = l[j] := by
  unfold rd_T36
  rw [Int.toNat_natCast, List.getD_eq_getElem?_getD, List.getElem?_eq_getElem hj]
  rfl
set_option maxHeartbeats 8000000 in
set_option maxRecDepth 100000 in
theorem live_calls (w : World) : Calls Tryd.prog 7 #[] w fun e w' => e = .returned (.bool true) ∧ Below w.heap.size w w' := by
  go_enter Tryd.func7, Tryd.ntmps7
  go_upto_region 2 with (go_at_call 8; refine (identifier_calls 1 (by decide) w).mono ?_; rintro e w1 ⟨vi, rfl, hR, hb⟩; obtain ⟨Ai, ci, rfl⟩ := Kd.R_slice hR; have HRi := Aside0.mk hR; have HB1 := Aside0.mk hb; clear hR hb)
  obtain ⟨wa, hwa⟩ : ∃ wa, wa = w1.alloc (.cells #[.slice Ai (idB 1).length ci, .int .i32 3, .bool true] 27) := ⟨_, rfl⟩
  obtain ⟨gE, hgE⟩ : ∃ gE, gE = w1.heap.size := ⟨_, rfl⟩
  rw [← hwa, ← hgE]
  have HBa : Aside0 (Below w.heap.size w wa) := ⟨by rw [hwa]; exact below_alloc HB1.out _⟩
  have hbE : wa.heap[gE]? = some (.cells #[.slice Ai (idB 1).length ci, .int .i32 3, .bool true] 27 (0, 0)) := by rw [hwa, hgE]; exact blk_new w1 _
  have HBE := Aside0.mk hbE
  have HCi0 : Aside0 (Kd.C (Kd.int .u8) wa Ai (idB 1).length (idB 1)) := ⟨by rw [hwa]; exact Kd.C_alloc (Kd.R_reads' HRi.out).2.2 _⟩
  have HLi := Aside0.mk (Kd.R_reads' HRi.out).2.1
  have hv0 := (blk_cell hbE 0).trans rfl
  have hv1 := (blk_cell hbE 1).trans rfl
  have hv2 := (blk_cell hbE 2).trans rfl
  clear hwa hgE hbE HRi HB1
  go_upto_region 3 with (go_at_call 10; refine (wanted_calls (wa.alloc _) (some ⟨wa.heap.size, 0, none⟩) 2 [⟨0, liveE⟩, ⟨3, liveE⟩] (C_lit (blk_new wa _) (reps_two (x := ⟨0, liveE⟩) (y := ⟨3, liveE⟩) HLi.out (Kd.C_alloc HCi0.out _) HLi.out (Kd.C_alloc HCi0.out _)) (by decide)) (by decide) (by intro x hx; rcases List.mem_cons.1 hx with rfl | hx; exact ok_id 1 (by decide) _ _ _; rcases List.mem_cons.1 hx with rfl | hx; exact ok_id 1 (by decide) _ _ _; cases hx)).mono ?_; rintro e w3 ⟨vt, rfl, hR, hb⟩; rw [live_eq] at hR; obtain ⟨At, ct, rfl⟩ := Kd.R_slice hR; have HRt := Aside0.mk (Kd.R_reads' hR).2.2; have HB3 := Aside0.mk (below_step (below_alloc (Below.refl wa.heap.size wa) _) hb); clear hR hb)
  obtain ⟨ad, B1, d1, A5, c5, eA, hx0, _, _, _, hx4, hx5, _, _, _, _⟩ := at_T36 HRt.out 0 (by decide) (by decide)
  obtain ⟨ad', A1, c1, B5, d5, eA', hy0, hy1, hy2, hy3, _, _, hL1, hC1, _, _⟩ := at_T36 HRt.out 1 (by decide) (by decide)
  subst eA
  injection eA' with eA'
  subst eA'
  have ez : ad.add ((0 : Int).toNat * 6) = ad := by unfold Addr.add; simp
  rw [ez] at hx0 hx4 hx5
  have hs0 : w3.drew.cell? ad = some (.bool true) := hx0
  have hs1 : w3.drew.cell? ⟨ad.block, ad.off + 4, none⟩ = some (.int .i64 1) := hx4
  have hs2 : w3.drew.cell? ⟨ad.block, ad.off + 5, none⟩ = some (.slice A5 1 c5) := hx5
  have hs3 : w3.drew.cell? ⟨ad.block, ad.off + 6, none⟩ = some (.bool true) := hy0
  have hs4 : w3.drew.cell? ⟨ad.block, ad.off + 6 + 1, none⟩ = some (.slice A1 (idB 1).length c1) := hy1
  have hs5 : w3.drew.cell? ⟨ad.block, ad.off + 6 + 1 + 1, none⟩ = some (.int .i32 3) := hy2
  have hs6 : w3.drew.cell? ⟨ad.block, ad.off + 6 + 1 + 2, none⟩ = some (.bool true) := hy3
  have hbE3 := (HB3.out.block _ (blk_lt HBE.out)).trans HBE.out
  have hs7 : w3.drew.cell? ⟨gE, 0, none⟩ = some (.slice Ai (idB 1).length ci) := (blk_cell (blk_drew hbE3) 0).trans rfl
  have hs8 : w3.drew.cell? ⟨gE, 1, none⟩ = some (.int .i32 3) := (blk_cell (blk_drew hbE3) 1).trans rfl
  have hs9 : w3.drew.cell? ⟨gE, 2, none⟩ = some (.bool true) := (blk_cell (blk_drew hbE3) 2).trans rfl
  have HC1 : Aside0 (Kd.C (Kd.int .u8) w3.drew A1 (idB 1).length (idB 1)) := ⟨Kd.C_drew hC1⟩
  have HL1 : Aside0 ((idB 1).length ≤ c1) := ⟨hL1⟩
  have HCi : Aside0 (Kd.C (Kd.int .u8) w3.drew Ai (idB 1).length (idB 1)) := ⟨Kd.C_drew (Kd.C_below HCi0.out HB3.out)⟩
  have HBf := Aside0.mk (below_drew (below_step HBa.out HB3.out))
  clear hx0 hx4 hx5 hy0 hy1 hy2 hy3 hbE3 hC1 hL1 ez hv0 hv1 hv2
  refine start_ (n := 39) (S := fun w' => w'.cell? ad = some (.bool true) ∧ w'.cell? ⟨ad.block, ad.off + 4, none⟩ = some (.int .i64 1) ∧ w'.cell? ⟨ad.block, ad.off + 5, none⟩ = some (.slice A5 1 c5) ∧ w'.cell? ⟨ad.block, ad.off + 6, none⟩ = some (.bool true) ∧ w'.cell? ⟨ad.block, ad.off + 6 + 1, none⟩ = some (.slice A1 (idB 1).length c1) ∧ w'.cell? ⟨ad.block, ad.off + 6 + 1 + 1, none⟩ = some (.int .i32 3) ∧ w'.cell? ⟨ad.block, ad.off + 6 + 1 + 2, none⟩ = some (.bool true) ∧ w'.cell? ⟨gE, 0, none⟩ = some (.slice Ai (idB 1).length ci) ∧ w'.cell? ⟨gE, 1, none⟩ = some (.int .i32 3) ∧ w'.cell? ⟨gE, 2, none⟩ = some (.bool true)) (ds := []) #[false, false, false, false, false, false, false, false, false, false, false, false, false, false, false, false, false, false, false, false, false, false, false, false, false, false, false, false, false, false, false, false, false, false, false, false, false, false, false] (by kernel_rfl) rfl rfl ⟨hs0, hs1, hs2, hs3, hs4, hs5, hs6, hs7, hs8, hs9⟩ (fun hHeld => ?_)
  refine pure_ (i := 0) (N := some 11) (v := ?_) (a' := ?_) #[true, false, false, false, false, false, false, false, false, false, false, false, false, false, false, false, false, false, false, false, false, false, false, false, false, false, false, false, false, false, false, false, false, false, false, false, false, false, false] rfl rfl (by kernel_rfl) (fun _ _ _ h => h) (Or.inl ⟨by rfl, ?_⟩) ?_ ?_
  rotate_left
  · intro w'
    go_simp
    with_reducible rfl
  rotate_left
  · simp only [Act.put, List.setIfInBounds_toArray, List.set_cons_zero, List.set_cons_succ, i64_w, i32_w]
    rfl
  refine pure_ (i := 1) (N := some 12) (v := ?_) (a' := ?_) #[true, true, false, false, false, false, false, false, false, false, false, false, false, false, false, false, false, false, false, false, false, false, false, false, false, false, false, false, false, false, false, false, false, false, false, false, false, false, false] rfl rfl (by kernel_rfl) (fun _ _ _ h => h) (Or.inl ⟨by rfl, ?_⟩) ?_ ?_
  rotate_left
  · intro w'
    go_simp
    with_reducible rfl
  rotate_left
  · simp only [Act.put, List.setIfInBounds_toArray, List.set_cons_zero, List.set_cons_succ, i64_w, i32_w]
    rfl
  refine pure_ (i := 2) (N := some 13) (v := ?_) (a' := ?_) #[true, true, true, false, false, false, false, false, false, false, false, false, false, false, false, false, false, false, false, false, false, false, false, false, false, false, false, false, false, false, false, false, false, false, false, false, false, false, false] rfl rfl (by kernel_rfl) (fun _ _ _ h => h) (Or.inl ⟨by rfl, ?_⟩) ?_ ?_
  rotate_left
  · intro w'
    go_simp
    with_reducible rfl
  rotate_left
  · simp only [Act.put, List.setIfInBounds_toArray, List.set_cons_zero, List.set_cons_succ, i64_w, i32_w]
    rfl
  refine pure_ (i := 3) (N := some 14) (v := ?_) (a' := ?_) #[true, true, true, true, false, false, false, false, false, false, false, false, false, false, false, false, false, false, false, false, false, false, false, false, false, false, false, false, false, false, false, false, false, false, false, false, false, false, false] rfl rfl (by kernel_rfl) (fun _ _ _ h => h) (Or.inl ⟨by rfl, ?_⟩) ?_ ?_
  rotate_left
  · intro w'
    go_simp
    with_reducible rfl
  rotate_left
  · simp only [Act.put, List.setIfInBounds_toArray, List.set_cons_zero, List.set_cons_succ, i64_w, i32_w]
    rfl
  refine pure_ (i := 4) (N := some 15) (v := ?_) (a' := ?_) #[true, true, true, true, true, false, false, false, false, false, false, false, false, false, false, false, false, false, false, false, false, false, false, false, false, false, false, false, false, false, false, false, false, false, false, false, false, false, false] rfl rfl (by kernel_rfl) (fun _ _ _ h => h) (Or.inl ⟨by rfl, ?_⟩) ?_ ?_
  rotate_left
  · intro w'
    go_simp
    with_reducible rfl
  rotate_left
  · simp only [Act.put, List.setIfInBounds_toArray, List.set_cons_zero, List.set_cons_succ, i64_w, i32_w]
    rfl
  refine pure_ (i := 5) (N := some 16) (v := ?_) (a' := ?_) #[true, true, true, true, true, true, false, false, false, false, false, false, false, false, false, false, false, false, false, false, false, false, false, false, false, false, false, false, false, false, false, false, false, false, false, false, false, false, false] rfl rfl (by kernel_rfl) (fun _ _ _ h => h) (Or.inl ⟨by rfl, ?_⟩) ?_ ?_
  rotate_left
  · intro w'
    go_simp
    with_reducible rfl
  rotate_left
  · simp only [Act.put, List.setIfInBounds_toArray, List.set_cons_zero, List.set_cons_succ, i64_w, i32_w]
    rfl
  refine pure_ (i := 6) (N := some 17) (v := ?_) (a' := ?_) #[true, true, true, true, true, true, true, false, false, false, false, false, false, false, false, false, false, false, false, false, false, false, false, false, false, false, false, false, false, false, false, false, false, false, false, false, false, false, false] rfl rfl (by kernel_rfl) (fun _ _ _ h => h) (Or.inl ⟨by rfl, ?_⟩) ?_ ?_
  rotate_left
  · intro w'
    go_simp
    with_reducible rfl
  rotate_left
  · simp only [Act.put, List.setIfInBounds_toArray, List.set_cons_zero, List.set_cons_succ, i64_w, i32_w]
    rfl
  refine take_ (i := 7) (N := some 18) (v := ?_) (a' := ?_) #[true, true, true, true, true, true, true, true, false, false, false, false, false, false, false, false, false, false, false, false, false, false, false, false, false, false, false, false, false, false, false, false, false, false, false, false, false, false, false] rfl rfl (by kernel_rfl) (fun _ _ _ h => h) (Or.inl ⟨by rfl, ?_⟩) hHeld ?_ ?_
  rotate_left
  · rintro w' ⟨s0, s1, s2, s3, s4, s5, s6, s7, s8, s9⟩
    go_simp
    with_reducible rfl
  rotate_left
  · simp only [Act.put, List.setIfInBounds_toArray, List.set_cons_zero, List.set_cons_succ, i64_w, i32_w]
    rfl
  refine pure_ (i := 8) (N := some 19) (v := ?_) (a' := ?_) #[true, true, true, true, true, true, true, true, true, false, false, false, false, false, false, false, false, false, false, false, false, false, false, false, false, false, false, false, false, false, false, false, false, false, false, false, false, false, false] rfl rfl (by kernel_rfl) (fun _ _ _ h => h) (Or.inl ⟨by rfl, ?_⟩) ?_ ?_
  rotate_left
  · intro w'
    go_simp
    with_reducible rfl
  rotate_left
  · simp only [Act.put, List.setIfInBounds_toArray, List.set_cons_zero, List.set_cons_succ, i64_w, i32_w]
    rfl
  refine pure_ (i := 9) (N := some 20) (v := ?_) (a' := ?_) #[true, true, true, true, true, true, true, true, true, true, false, false, false, false, false, false, false, false, false, false, false, false, false, false, false, false, false, false, false, false, false, false, false, false, false, false, false, false, false] rfl rfl (by kernel_rfl) (fun _ _ _ h => h) (Or.inl ⟨by rfl, ?_⟩) ?_ ?_
  rotate_left
  · intro w'
    go_simp
    with_reducible rfl
  rotate_left
  · simp only [Act.put, List.setIfInBounds_toArray, List.set_cons_zero, List.set_cons_succ, i64_w, i32_w]
    rfl
  refine pure_ (i := 10) (N := some 21) (v := ?_) (a' := ?_) #[true, true, true, true, true, true, true, true, true, true, true, false, false, false, false, false, false, false, false, false, false, false, false, false, false, false, false, false, false, false, false, false, false, false, false, false, false, false, false] rfl rfl (by kernel_rfl) (fun _ _ _ h => h) (Or.inl ⟨by rfl, ?_⟩) ?_ ?_
  rotate_left
  · intro w'
    go_simp
    with_reducible rfl
  rotate_left
  · simp only [Act.put, List.setIfInBounds_toArray, List.set_cons_zero, List.set_cons_succ, i64_w, i32_w]
    rfl
  refine pure_ (i := 11) (N := some 22) (v := ?_) (a' := ?_) #[true, true, true, true, true, true, true, true, true, true, true, true, false, false, false, false, false, false, false, false, false, false, false, false, false, false, false, false, false, false, false, false, false, false, false, false, false, false, false] rfl rfl (by kernel_rfl) (fun _ _ _ h => h) (Or.inl ⟨by rfl, ?_⟩) ?_ ?_
  rotate_left
  · intro w'
    go_simp
    with_reducible rfl
  rotate_left
  · simp only [Act.put, List.setIfInBounds_toArray, List.set_cons_zero, List.set_cons_succ, i64_w, i32_w]
    rfl
  refine pure_ (i := 12) (N := some 23) (v := ?_) (a' := ?_) #[true, true, true, true, true, true, true, true, true, true, true, true, true, false, false, false, false, false, false, false, false, false, false, false, false, false, false, false, false, false, false, false, false, false, false, false, false, false, false] rfl rfl (by kernel_rfl) (fun _ _ _ h => h) (Or.inl ⟨by rfl, ?_⟩) ?_ ?_
  rotate_left
  · intro w'
    go_simp
    with_reducible rfl
  rotate_left
  · simp only [Act.put, List.setIfInBounds_toArray, List.set_cons_zero, List.set_cons_succ, i64_w, i32_w]
    rfl
  refine take_ (i := 13) (N := some 24) (v := ?_) (a' := ?_) #[true, true, true, true, true, true, true, true, true, true, true, true, true, true, false, false, false, false, false, false, false, false, false, false, false, false, false, false, false, false, false, false, false, false, false, false, false, false, false] rfl rfl (by kernel_rfl) (fun _ _ _ h => h) (Or.inl ⟨by rfl, ?_⟩) hHeld ?_ ?_
  rotate_left
  · rintro w' ⟨s0, s1, s2, s3, s4, s5, s6, s7, s8, s9⟩
    go_simp
    with_reducible rfl
  rotate_left
  · simp only [Act.put, List.setIfInBounds_toArray, List.set_cons_zero, List.set_cons_succ, i64_w, i32_w]
    rfl
  refine pure_ (i := 14) (N := some 25) (v := ?_) (a' := ?_) #[true, true, true, true, true, true, true, true, true, true, true, true, true, true, true, false, false, false, false, false, false, false, false, false, false, false, false, false, false, false, false, false, false, false, false, false, false, false, false] rfl rfl (by kernel_rfl) (fun _ _ _ h => h) (Or.inl ⟨by rfl, ?_⟩) ?_ ?_
  rotate_left
  · intro w'
    go_simp
    with_reducible rfl
  rotate_left
  · simp only [Act.put, List.setIfInBounds_toArray, List.set_cons_zero, List.set_cons_succ, i64_w, i32_w]
    rfl
  refine pure_ (i := 15) (N := some 26) (v := ?_) (a' := ?_) #[true, true, true, true, true, true, true, true, true, true, true, true, true, true, true, true, false, false, false, false, false, false, false, false, false, false, false, false, false, false, false, false, false, false, false, false, false, false, false] rfl rfl (by kernel_rfl) (fun _ _ _ h => h) (Or.inl ⟨by rfl, ?_⟩) ?_ ?_
  rotate_left
  · intro w'
    go_simp
    with_reducible rfl
  rotate_left
  · simp only [Act.put, List.setIfInBounds_toArray, List.set_cons_zero, List.set_cons_succ, i64_w, i32_w]
    rfl
  refine pure_ (i := 16) (N := some 27) (v := ?_) (a' := ?_) #[true, true, true, true, true, true, true, true, true, true, true, true, true, true, true, true, true, false, false, false, false, false, false, false, false, false, false, false, false, false, false, false, false, false, false, false, false, false, false] rfl rfl (by kernel_rfl) (fun _ _ _ h => h) (Or.inl ⟨by rfl, ?_⟩) ?_ ?_
  rotate_left
  · intro w'
    go_simp
    with_reducible rfl
  rotate_left
  · simp only [Act.put, List.setIfInBounds_toArray, List.set_cons_zero, List.set_cons_succ, i64_w, i32_w]
    rfl
  refine pure_ (i := 17) (N := some 28) (v := ?_) (a' := ?_) #[true, true, true, true, true, true, true, true, true, true, true, true, true, true, true, true, true, true, false, false, false, false, false, false, false, false, false, false, false, false, false, false, false, false, false, false, false, false, false] rfl rfl (by kernel_rfl) (fun _ _ _ h => h) (Or.inl ⟨by rfl, ?_⟩) ?_ ?_
  rotate_left
  · intro w'
    go_simp
    with_reducible rfl
  rotate_left
  · simp only [Act.put, List.setIfInBounds_toArray, List.set_cons_zero, List.set_cons_succ, i64_w, i32_w]
    rfl
  refine pure_ (i := 18) (N := some 29) (v := ?_) (a' := ?_) #[true, true, true, true, true, true, true, true, true, true, true, true, true, true, true, true, true, true, true, false, false, false, false, false, false, false, false, false, false, false, false, false, false, false, false, false, false, false, false] rfl rfl (by kernel_rfl) (fun _ _ _ h => h) (Or.inl ⟨by rfl, ?_⟩) ?_ ?_
  rotate_left
  · intro w'
    go_simp
    with_reducible rfl
  rotate_left
  · simp only [Act.put, List.setIfInBounds_toArray, List.set_cons_zero, List.set_cons_succ, i64_w, i32_w]
    rfl
  refine pure_ (i := 19) (N := some 30) (v := ?_) (a' := ?_) #[true, true, true, true, true, true, true, true, true, true, true, true, true, true, true, true, true, true, true, true, false, false, false, false, false, false, false, false, false, false, false, false, false, false, false, false, false, false, false] rfl rfl (by kernel_rfl) (fun _ _ _ h => h) (Or.inl ⟨by rfl, ?_⟩) ?_ ?_
  rotate_left
  · intro w'
    go_simp
    with_reducible rfl
  rotate_left
  · simp only [Act.put, List.setIfInBounds_toArray, List.set_cons_zero, List.set_cons_succ, i64_w, i32_w]
    rfl
  refine take_ (i := 20) (N := some 31) (v := ?_) (a' := ?_) #[true, true, true, true, true, true, true, true, true, true, true, true, true, true, true, true, true, true, true, true, true, false, false, false, false, false, false, false, false, false, false, false, false, false, false, false, false, false, false] rfl rfl (by kernel_rfl) (fun _ _ _ h => h) (Or.inl ⟨by rfl, ?_⟩) hHeld ?_ ?_
  rotate_left
  · rintro w' ⟨s0, s1, s2, s3, s4, s5, s6, s7, s8, s9⟩
    go_simp
    with_reducible rfl
  rotate_left
  · simp only [Act.put, List.setIfInBounds_toArray, List.set_cons_zero, List.set_cons_succ, i64_w, i32_w]
    rfl
  refine pure_ (i := 21) (N := some 32) (v := ?_) (a' := ?_) #[true, true, true, true, true, true, true, true, true, true, true, true, true, true, true, true, true, true, true, true, true, true, false, false, false, false, false, false, false, false, false, false, false, false, false, false, false, false, false] rfl rfl (by kernel_rfl) (fun _ _ _ h => h) (Or.inl ⟨by rfl, ?_⟩) ?_ ?_
  rotate_left
  · intro w'
    go_simp
    with_reducible rfl
  rotate_left
  · simp only [Act.put, List.setIfInBounds_toArray, List.set_cons_zero, List.set_cons_succ, i64_w, i32_w]
    rfl
  refine pure_ (i := 22) (N := some 33) (v := ?_) (a' := ?_) #[true, true, true, true, true, true, true, true, true, true, true, true, true, true, true, true, true, true, true, true, true, true, true, false, false, false, false, false, false, false, false, false, false, false, false, false, false, false, false] rfl rfl (by kernel_rfl) (fun _ _ _ h => h) (Or.inl ⟨by rfl, ?_⟩) ?_ ?_
  rotate_left
  · intro w'
    go_simp
    with_reducible rfl
  rotate_left
  · simp only [Act.put, List.setIfInBounds_toArray, List.set_cons_zero, List.set_cons_succ, i64_w, i32_w]
    rfl
  refine pure_ (i := 23) (N := some 34) (v := ?_) (a' := ?_) #[true, true, true, true, true, true, true, true, true, true, true, true, true, true, true, true, true, true, true, true, true, true, true, true, false, false, false, false, false, false, false, false, false, false, false, false, false, false, false] rfl rfl (by kernel_rfl) (fun _ _ _ h => h) (Or.inl ⟨by rfl, ?_⟩) ?_ ?_
  rotate_left
  · intro w'
    go_simp
    with_reducible rfl
  rotate_left
  · simp only [Act.put, List.setIfInBounds_toArray, List.set_cons_zero, List.set_cons_succ, i64_w, i32_w]
    rfl
  refine pure_ (i := 24) (N := some 35) (v := ?_) (a' := ?_) #[true, true, true, true, true, true, true, true, true, true, true, true, true, true, true, true, true, true, true, true, true, true, true, true, true, false, false, false, false, false, false, false, false, false, false, false, false, false, false] rfl rfl (by kernel_rfl) (fun _ _ _ h => h) (Or.inl ⟨by rfl, ?_⟩) ?_ ?_
  rotate_left
  · intro w'
    go_simp
    with_reducible rfl
  rotate_left
  · simp only [Act.put, List.setIfInBounds_toArray, List.set_cons_zero, List.set_cons_succ, i64_w, i32_w]
    rfl
  refine pure_ (i := 25) (N := some 36) (v := ?_) (a' := ?_) #[true, true, true, true, true, true, true, true, true, true, true, true, true, true, true, true, true, true, true, true, true, true, true, true, true, true, false, false, false, false, false, false, false, false, false, false, false, false, false] rfl rfl (by kernel_rfl) (fun _ _ _ h => h) (Or.inl ⟨by rfl, ?_⟩) ?_ ?_
  rotate_left
  · intro w'
    go_simp
    with_reducible rfl
  rotate_left
  · simp only [Act.put, List.setIfInBounds_toArray, List.set_cons_zero, List.set_cons_succ, i64_w, i32_w]
    rfl
  refine pure_ (i := 26) (N := some 37) (v := ?_) (a' := ?_) #[true, true, true, true, true, true, true, true, true, true, true, true, true, true, true, true, true, true, true, true, true, true, true, true, true, true, true, false, false, false, false, false, false, false, false, false, false, false, false] rfl rfl (by kernel_rfl) (fun _ _ _ h => h) (Or.inl ⟨by rfl, ?_⟩) ?_ ?_
  rotate_left
  · intro w'
    go_simp
    with_reducible rfl
  rotate_left
  · simp only [Act.put, List.setIfInBounds_toArray, List.set_cons_zero, List.set_cons_succ, i64_w, i32_w]
    rfl
  refine pure_ (i := 27) (N := some 38) (v := ?_) (a' := ?_) #[true, true, true, true, true, true, true, true, true, true, true, true, true, true, true, true, true, true, true, true, true, true, true, true, true, true, true, true, false, false, false, false, false, false, false, false, false, false, false] rfl rfl (by kernel_rfl) (fun _ _ _ h => h) (Or.inl ⟨by rfl, ?_⟩) ?_ ?_
  rotate_left
  · intro w'
    go_simp
    with_reducible rfl
  rotate_left
  · simp only [Act.put, List.setIfInBounds_toArray, List.set_cons_zero, List.set_cons_succ, i64_w, i32_w]
    rfl
  refine take_ (i := 28) (N := some 39) (v := ?_) (a' := ?_) #[true, true, true, true, true, true, true, true, true, true, true, true, true, true, true, true, true, true, true, true, true, true, true, true, true, true, true, true, true, false, false, false, false, false, false, false, false, false, false] rfl rfl (by kernel_rfl) (fun _ _ _ h => h) (Or.inl ⟨by rfl, ?_⟩) hHeld ?_ ?_
  rotate_left
  · rintro w' ⟨s0, s1, s2, s3, s4, s5, s6, s7, s8, s9⟩
    go_simp
    with_reducible rfl
  rotate_left
  · simp only [Act.put, List.setIfInBounds_toArray, List.set_cons_zero, List.set_cons_succ, i64_w, i32_w]
    rfl
  refine pure_ (i := 29) (N := some 40) (v := ?_) (a' := ?_) #[true, true, true, true, true, true, true, true, true, true, true, true, true, true, true, true, true, true, true, true, true, true, true, true, true, true, true, true, true, true, false, false, false, false, false, false, false, false, false] rfl rfl (by kernel_rfl) (fun _ _ _ h => h) (Or.inl ⟨by rfl, ?_⟩) ?_ ?_
  rotate_left
  · intro w'
    go_simp
    with_reducible rfl
  rotate_left
  · simp only [Act.put, List.setIfInBounds_toArray, List.set_cons_zero, List.set_cons_succ, i64_w, i32_w]
    rfl
  refine pure_ (i := 30) (N := some 41) (v := ?_) (a' := ?_) #[true, true, true, true, true, true, true, true, true, true, true, true, true, true, true, true, true, true, true, true, true, true, true, true, true, true, true, true, true, true, true, false, false, false, false, false, false, false, false] rfl rfl (by kernel_rfl) (fun _ _ _ h => h) (Or.inl ⟨by rfl, ?_⟩) ?_ ?_
  rotate_left
  · intro w'
    go_simp
    with_reducible rfl
  rotate_left
  · simp only [Act.put, List.setIfInBounds_toArray, List.set_cons_zero, List.set_cons_succ, i64_w, i32_w]
    rfl
  refine pure_ (i := 31) (N := some 42) (v := ?_) (a' := ?_) #[true, true, true, true, true, true, true, true, true, true, true, true, true, true, true, true, true, true, true, true, true, true, true, true, true, true, true, true, true, true, true, true, false, false, false, false, false, false, false] rfl rfl (by kernel_rfl) (fun _ _ _ h => h) (Or.inl ⟨by rfl, ?_⟩) ?_ ?_
  rotate_left
  · intro w'
    go_simp
    with_reducible rfl
  rotate_left
  · simp only [Act.put, List.setIfInBounds_toArray, List.set_cons_zero, List.set_cons_succ, i64_w, i32_w]
    rfl
  refine pure_ (i := 32) (N := some 43) (v := ?_) (a' := ?_) #[true, true, true, true, true, true, true, true, true, true, true, true, true, true, true, true, true, true, true, true, true, true, true, true, true, true, true, true, true, true, true, true, true, false, false, false, false, false, false] rfl rfl (by kernel_rfl) (fun _ _ _ h => h) (Or.inl ⟨by rfl, ?_⟩) ?_ ?_
  rotate_left
  · intro w'
    go_simp
    with_reducible rfl
  rotate_left
  · simp only [Act.put, List.setIfInBounds_toArray, List.set_cons_zero, List.set_cons_succ, i64_w, i32_w]
    rfl
  refine pure_ (i := 33) (N := some 44) (v := ?_) (a' := ?_) #[true, true, true, true, true, true, true, true, true, true, true, true, true, true, true, true, true, true, true, true, true, true, true, true, true, true, true, true, true, true, true, true, true, true, false, false, false, false, false] rfl rfl (by kernel_rfl) (fun _ _ _ h => h) (Or.inl ⟨by rfl, ?_⟩) ?_ ?_
  rotate_left
  · intro w'
    go_simp
    with_reducible rfl
  rotate_left
  · simp only [Act.put, List.setIfInBounds_toArray, List.set_cons_zero, List.set_cons_succ, i64_w, i32_w]
    rfl
  refine take_ (i := 34) (N := some 45) (v := ?_) (a' := ?_) #[true, true, true, true, true, true, true, true, true, true, true, true, true, true, true, true, true, true, true, true, true, true, true, true, true, true, true, true, true, true, true, true, true, true, true, false, false, false, false] rfl rfl (by kernel_rfl) (fun _ _ _ h => h) (Or.inl ⟨by rfl, ?_⟩) hHeld ?_ ?_
  rotate_left
  · rintro w' ⟨s0, s1, s2, s3, s4, s5, s6, s7, s8, s9⟩
    go_simp
    with_reducible rfl
  rotate_left
  · simp only [Act.put, List.setIfInBounds_toArray, List.set_cons_zero, List.set_cons_succ, i64_w, i32_w]
    rfl
  refine take_ (i := 35) (N := some 46) (v := ?_) (a' := ?_) #[true, true, true, true, true, true, true, true, true, true, true, true, true, true, true, true, true, true, true, true, true, true, true, true, true, true, true, true, true, true, true, true, true, true, true, true, false, false, false] rfl rfl (by kernel_rfl) (fun _ _ _ h => h) (Or.inl ⟨by rfl, ?_⟩) hHeld ?_ ?_
  rotate_left
  · rintro w' ⟨s0, s1, s2, s3, s4, s5, s6, s7, s8, s9⟩
    go_simp
    with_reducible rfl
  rotate_left
  · simp only [Act.put, List.setIfInBounds_toArray, List.set_cons_zero, List.set_cons_succ, i64_w, i32_w]
    rfl
  refine one_ (i := 36) (N := some 47) #[true, true, true, true, true, true, true, true, true, true, true, true, true, true, true, true, true, true, true, true, true, true, true, true, true, true, true, true, true, true, true, true, true, true, true, true, true, false, false] rfl rfl (by kernel_rfl) (by decide) (fun K hK => ?_)
  refine goes_ Tryd.func11 (by kernel_rfl) rfl #[.agg #[.slice A1 (idB 1).length c1, .int .i32 3, .bool true], .agg #[.slice Ai (idB 1).length ci, .int .i32 3, .bool true]] (by rfl) rfl rfl (by simp only [List.map_toArray, List.map_cons, List.map_nil]; rfl) ?_
  with_reducible refine (laws_sameEntry.calls A1 c1 (idB 1) 3 true Ai ci (idB 1) 3 true true w3.drew HC1.out HL1.out HCi.out HLi.out (same_refl _ _ _)).mono ?_
  rintro e w4 ⟨rfl, hb⟩
  have HB4 := Aside0.mk hb
  have hy0 := (hb.cell (World.block_lt_of_cell? w3.drew _ hs0)).trans hs0
  have hy1 := (hb.cell (World.block_lt_of_cell? w3.drew _ hs1)).trans hs1
  have hy2 := (hb.cell (World.block_lt_of_cell? w3.drew _ hs2)).trans hs2
  have hy3 := (hb.cell (World.block_lt_of_cell? w3.drew _ hs3)).trans hs3
  have hy4 := (hb.cell (World.block_lt_of_cell? w3.drew _ hs4)).trans hs4
  have hy5 := (hb.cell (World.block_lt_of_cell? w3.drew _ hs5)).trans hs5
  have hy6 := (hb.cell (World.block_lt_of_cell? w3.drew _ hs6)).trans hs6
  have hy7 := (hb.cell (World.block_lt_of_cell? w3.drew _ hs7)).trans hs7
  have hy8 := (hb.cell (World.block_lt_of_cell? w3.drew _ hs8)).trans hs8
  have hy9 := (hb.cell (World.block_lt_of_cell? w3.drew _ hs9)).trans hs9
  clear hb
  refine ⟨_, rfl, ?_⟩
  refine hK.out _ _ ⟨hy0, hy1, hy2, hy3, hy4, hy5, hy6, hy7, hy8, hy9⟩ (fun hHeld => ?_)
  clear hK K
  refine norm_ (a' := ?_) ?_ ?_
  rotate_left
  · show Act.put _ (some 47) _ = _
    simp only [Act.put, List.setIfInBounds_toArray, List.set_cons_zero, List.set_cons_succ, i64_w, i32_w]
    rfl
  refine pure_ (i := 37) (N := some 48) (v := ?_) (a' := ?_) #[true, true, true, true, true, true, true, true, true, true, true, true, true, true, true, true, true, true, true, true, true, true, true, true, true, true, true, true, true, true, true, true, true, true, true, true, true, true, false] rfl rfl (by kernel_rfl) (fun _ _ _ h => h) (Or.inl ⟨by rfl, ?_⟩) ?_ ?_
  rotate_left
  · intro w'
    go_simp
    with_reducible rfl
  rotate_left
  · simp only [Act.put, List.setIfInBounds_toArray, List.set_cons_zero, List.set_cons_succ, i64_w, i32_w]
    rfl
  refine pure_ (i := 38) (N := some 0) (v := ?_) (a' := ?_) #[true, true, true, true, true, true, true, true, true, true, true, true, true, true, true, true, true, true, true, true, true, true, true, true, true, true, true, true, true, true, true, true, true, true, true, true, true, true, true] rfl rfl (by kernel_rfl) (fun _ _ _ h => h) (Or.inl ⟨by rfl, ?_⟩) ?_ ?_
  rotate_left
  · intro w'
    go_simp
    with_reducible rfl
  rotate_left
  · simp only [Act.put, List.setIfInBounds_toArray, List.set_cons_zero, List.set_cons_succ, i64_w, i32_w]
    rfl
  refine done_ (by kernel_rfl) ?_
  go_wp2_with fail
  go_ret
  exact ⟨rfl, below_step HBf.out HB4.out⟩
end Go.Proofs.YteekkpofcbcikaaDoor.HandWan
