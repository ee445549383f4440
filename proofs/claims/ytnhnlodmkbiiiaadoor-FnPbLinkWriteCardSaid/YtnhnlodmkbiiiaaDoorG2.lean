/- What a link of merkledag tells: its hash, its name and its size, each if it is there. -/
import Derived.Test.YtnhnlodmkbiiiaaDoorG1
namespace Go.Proofs.YtnhnlodmkbiiiaaDoor.HandFields
open Go Go.RowKit Go.Proofs.YtnhnlodmkbiiiaaDoorL Go.Proofs.YtnhnlodmkbiiiaaDoorW.PrintWords Go.Proofs.YtnhnlodmkbiiiaaDoorW.PrintLast Go.Proofs.YtnhnlodmkbiiiaaDoorW.PrintMore Go.Proofs.YtnhnlodmkbiiiaaDoor.PFieldsBase
attribute [local go_sem] max2_int min2_int max_two min_two max_three min_three max_four min_four
set_option linter.unusedVariables false
set_option linter.unusedSimpArgs false
/-- A link in memory, to be read. -/
structure RdL (w : World) (g : Nat) (s : Lnk) (c0 c1 c2 : Value) : Prop where
  blk : w.heap[g]? = some (.cells #[c0, c1, c2, .slice none 0 0, .int .i32 0] 96 (0, 0))
  hash0 : s.hash = none → c0 = .slice none 0 0
  hash1 : ∀ xs, s.hash = some xs → ∃ A c, c0 = .slice (some A) xs.length c ∧ xs.length ≤ c ∧ Kd.C (Kd.int .u8) w (some A) xs.length xs
  name0 : s.name = none → c1 = .pointer none
  name1 : ∀ xs, s.name = some xs → ∃ p : Nat, c1 = .pointer (some ⟨p, 0, none⟩) ∧ w.heap[p]? = some (.cells #[.string (strOfNums xs)] 9 (0, 0))
  ts0 : s.ts = none → c2 = .pointer none
  ts1 : ∀ n, s.ts = some n → ∃ p : Nat, c2 = .pointer (some ⟨p, 0, none⟩) ∧ w.heap[p]? = some (.cells #[.int .u64 (n : Int)] 24 (0, 0))
theorem Lm.rd {Ai : Option Addr} {ni : Nat} {xi : List Int} {w0 W : World} {g : Nat} {s : Lnk} {c0 c1 c2 : Value} (h : Lm Ai ni xi w0 W g s c0 c1 c2) : RdL W g s c0 c1 c2 := by
  refine ⟨h.blk, h.hash0, fun xs hx => ?_, h.name0, fun xs hx => ?_, h.ts0, fun n hn => ?_⟩
  · obtain ⟨A, c, e, hR⟩ := h.hash1 xs hx
    rw [e] at hR
    have hr := Kd.R_reads' hR
    exact ⟨A, c, e, hr.2.1, hr.2.2⟩
  · obtain ⟨p, e, hp, _⟩ := h.name1 xs hx
    exact ⟨p, e, hp⟩
  · obtain ⟨p, e, hp, _⟩ := h.ts1 n hn
    exact ⟨p, e, hp⟩
theorem RdL.below {w w' : World} {g : Nat} {s : Lnk} {c0 c1 c2 : Value} (h : RdL w g s c0 c1 c2) (hB : Below w.heap.size w w') : RdL w' g s c0 c1 c2 := by
  refine ⟨(hB.block _ (blk_lt h.blk)).trans h.blk, h.hash0, fun xs hx => ?_, h.name0, fun xs hx => ?_, h.ts0, fun n hn => ?_⟩
  · obtain ⟨A, c, e, hn, hC⟩ := h.hash1 xs hx
    exact ⟨A, c, e, hn, Kd.C_below hC hB⟩
  · obtain ⟨p, e, hp⟩ := h.name1 xs hx
    exact ⟨p, e, (hB.block _ (blk_lt hp)).trans hp⟩
  · obtain ⟨p, e, hp⟩ := h.ts1 n hn
    exact ⟨p, e, (hB.block _ (blk_lt hp)).trans hp⟩
section
variable {w : World} {g : Nat} {s : Lnk} {c0 c1 c2 : Value}
set_option maxHeartbeats 4000000 in
theorem GetName_calls (h : RdL w g s c0 c1 c2) : Calls Tryd.prog 93 #[.pointer (some ⟨g, 0, none⟩)] w fun e w' => e = .returned (.string (strOfNums (s.name.getD []))) ∧ w' = w := by
  have hc1 := (blk_cell h.blk 1).trans rfl
  cases hs : s.name with
  | none =>
    obtain rfl := h.name0 hs
    clear h
    go_enter Tryd.func93, Tryd.ntmps93
    go_wp2_with fail
    go_ret
    exact ⟨rfl, rfl⟩
  | some xs =>
    obtain ⟨p, rfl, hp⟩ := h.name1 xs hs
    have hcp := (blk_cell hp 0).trans rfl
    clear h
    go_enter Tryd.func93, Tryd.ntmps93
    go_wp2_with fail
    go_ret
    exact ⟨rfl, rfl⟩
set_option maxHeartbeats 4000000 in
theorem GetTsize_calls (h : RdL w g s c0 c1 c2) : Calls Tryd.prog 94 #[.pointer (some ⟨g, 0, none⟩)] w fun e w' => e = .returned (.int .u64 ((s.ts.getD 0 : Nat) : Int)) ∧ w' = w := by
  have hc1 := (blk_cell h.blk 2).trans rfl
  cases hs : s.ts with
  | none =>
    obtain rfl := h.ts0 hs
    clear h
    go_enter Tryd.func94, Tryd.ntmps94
    go_wp2_with fail
    go_ret
    exact ⟨rfl, rfl⟩
  | some n =>
    obtain ⟨p, rfl, hp⟩ := h.ts1 n hs
    have hcp := (blk_cell hp 0).trans rfl
    clear h
    go_enter Tryd.func94, Tryd.ntmps94
    go_wp2_with fail
    go_ret
    exact ⟨rfl, rfl⟩
end
theorem run_neq_slice_nil' {P : Program} (w : World) (t e : TypeId) (a : Option Addr) (n c n' c' : Nat) (h : P.underlying t = some (.slice e)) : (binOp .neq t (.slice a n c) (.slice none n' c')).run P w = .ok (.bool a.isSome) w := by
  have h1 := Lib.run_equalIn_slice_nil w 9999 t e a n c n' c' h
  cases a <;> simp [binOp, Op.equal, Op.maxDepth, h1]
theorem RdL.drew {w : World} {g : Nat} {s : Lnk} {c0 c1 c2 : Value} (h : RdL w g s c0 c1 c2) : RdL w.drew g s c0 c1 c2 := by
  refine ⟨h.blk, h.hash0, fun xs hx => ?_, h.name0, h.name1, h.ts0, h.ts1⟩
  obtain ⟨A, c, e, hn, hC⟩ := h.hash1 xs hx
  exact ⟨A, c, e, hn, Kd.C_drew hC⟩
theorem size_drew' (w : World) : w.drew.heap.size = w.heap.size := rfl
theorem heap_drew {w : World} {g : Nat} {o : Obj} (h : w.heap[g]? = some o) : w.drew.heap[g]? = some o := h
set_option maxRecDepth 100000 in
set_option maxHeartbeats 8000000 in
theorem plainPb_calls {w : World} {g : Nat} {s : Lnk} {c0 c1 c2 : Value} (h : RdL w g s c0 c1 c2) (hf : ∀ xs, s.hash = some xs → xs.length ≤ 1000000) : Calls Tryd.prog 52 #[.pointer (some ⟨g, 0, none⟩)] w fun e w' => ∃ v3, e = .returned (.agg #[.bool s.hash.isSome, .bool s.name.isSome, .bool s.ts.isSome, v3, .string (strOfNums (s.name.getD [])), .int .u64 ((s.ts.getD 0 : Nat) : Int)]) ∧ Kd.R (Kd.int .u8) 5 w' w.heap.size (fun _ => True) v3 (s.hash.getD []) ∧ Below w.heap.size w w' := by
  have RD := Aside0.mk h
  obtain ⟨A, n, c, e0, hn, hnc, hC, he⟩ : ∃ A n c, c0 = .slice A n c ∧ n = (s.hash.getD []).length ∧ n ≤ c ∧ Kd.C (Kd.int .u8) w A n (s.hash.getD []) ∧ A.isSome = s.hash.isSome := by
    cases hs : s.hash with
    | none => exact ⟨none, 0, 0, h.hash0 hs, rfl, Nat.le_refl _, by constructor <;> simp, rfl⟩
    | some xs => obtain ⟨A, c, e, hn, hC⟩ := h.hash1 xs hs; exact ⟨some A, xs.length, c, e, rfl, hn, hC, rfl⟩
  have hcl : bytes_Clone.f (s.hash.getD []) = some (s.hash.getD []) := by
    unfold bytes_Clone.f; rw [if_pos]
    cases hd : s.hash with
    | none => exact Nat.zero_le _
    | some xs => have := hf xs hd; simp; omega
  have HCL := Aside0.mk hcl
  have HNC := Aside0.mk hnc
  have HC := Aside0.mk hC
  have HE := Aside0.mk he
  obtain ⟨p1, e1, hp1⟩ : ∃ p, c1 = .pointer p ∧ p.isSome = s.name.isSome := by
    cases hs : s.name with
    | none => exact ⟨none, h.name0 hs, rfl⟩
    | some xs => obtain ⟨p, e, _⟩ := h.name1 xs hs; exact ⟨_, e, rfl⟩
  obtain ⟨p2, e2, hp2⟩ : ∃ p, c2 = .pointer p ∧ p.isSome = s.ts.isSome := by
    cases hs : s.ts with
    | none => exact ⟨none, h.ts0 hs, rfl⟩
    | some xs => obtain ⟨p, e, _⟩ := h.ts1 xs hs; exact ⟨_, e, rfl⟩
  subst e0 e1 e2 hn
  have HP1 := Aside0.mk hp1
  have HP2 := Aside0.mk hp2
  clear hnc hC he hcl h hf hp1 hp2
  have n0 : ∀ W : World, (binOp .neq 22 (.slice A (s.hash.getD []).length c) (.slice none 0 0)).run Tryd.prog W = .ok (.bool A.isSome) W := fun W => run_neq_slice_nil' W 22 5 A (s.hash.getD []).length c 0 0 Tryd.underlying22
  have n1 : ∀ W : World, (binOp .neq 92 (.pointer p1) (.pointer none)).run Tryd.prog W = .ok (.bool p1.isSome) W := fun W => by cases p1 <;> kernel_rfl
  have n2 : ∀ W : World, (binOp .neq 93 (.pointer p2) (.pointer none)).run Tryd.prog W = .ok (.bool p2.isSome) W := fun W => by cases p2 <;> kernel_rfl
  have hb0 := below_alloc (Below.refl w.heap.size w) (.cells #[.bool false, .bool false, .bool false, .slice none 0 0, .string ⟨#[]⟩, .int .u64 0] 27)
  have RD0 := Aside0.mk (RD.out.below hb0)
  have HB0 := Aside0.mk hb0
  have HG0 := Aside0.mk (blk_new w (.cells #[.bool false, .bool false, .bool false, .slice none 0 0, .string ⟨#[]⟩, .int .u64 0] 27))
  have hk0 := (blk_cell RD0.out.blk 0).trans rfl
  have hk1 := (blk_cell RD0.out.blk 1).trans rfl
  have hk2 := (blk_cell RD0.out.blk 2).trans rfl
  clear hb0
  go_enter Tryd.func52, Tryd.ntmps52
  go_wp2_with fail
  refine start_ (n := 26) (S := fun w' => w'.cell? ⟨g, 0, none⟩ = some (.slice A (s.hash.getD []).length c) ∧ w'.cell? ⟨g, 1, none⟩ = some (.pointer p1) ∧ w'.cell? ⟨g, 2, none⟩ = some (.pointer p2)) (ds := [25]) #[false, false, false, false, false, false, false, false, false, false, false, false, false, false, false, false, false, false, false, false, false, false, false, false, false, false] (by kernel_rfl) rfl rfl ⟨hk0, hk1, hk2⟩ (fun hHeld => ?_)
  refine pure_ (i := 0) (N := some 3) (v := ?_) (a' := ?_) #[true, false, false, false, false, false, false, false, false, false, false, false, false, false, false, false, false, false, false, false, false, false, false, false, false, false] rfl rfl (by kernel_rfl) (fun _ _ _ h => h) (Or.inl ⟨by rfl, ?_⟩) ?_ ?_
  rotate_left
  · intro w'
    go_simp
    with_reducible rfl
  rotate_left
  · simp only [Act.put, List.setIfInBounds_toArray, List.set_cons_zero, List.set_cons_succ, i64_w, i32_w]
    rfl
  refine pure_ (i := 1) (N := some 4) (v := ?_) (a' := ?_) #[true, true, false, false, false, false, false, false, false, false, false, false, false, false, false, false, false, false, false, false, false, false, false, false, false, false] rfl rfl (by kernel_rfl) (fun _ _ _ h => h) (Or.inl ⟨by rfl, ?_⟩) ?_ ?_
  rotate_left
  · intro w'
    go_simp
    with_reducible rfl
  rotate_left
  · simp only [Act.put, List.setIfInBounds_toArray, List.set_cons_zero, List.set_cons_succ, i64_w, i32_w]
    rfl
  refine pure_ (i := 2) (N := some 5) (v := ?_) (a' := ?_) #[true, true, true, false, false, false, false, false, false, false, false, false, false, false, false, false, false, false, false, false, false, false, false, false, false, false] rfl rfl (by kernel_rfl) (fun _ _ _ h => h) (Or.inl ⟨by rfl, ?_⟩) ?_ ?_
  rotate_left
  · intro w'
    go_simp
    with_reducible rfl
  rotate_left
  · simp only [Act.put, List.setIfInBounds_toArray, List.set_cons_zero, List.set_cons_succ, i64_w, i32_w]
    rfl
  refine pure_ (i := 5) (N := some 8) (v := ?_) (a' := ?_) #[true, true, true, false, false, true, false, false, false, false, false, false, false, false, false, false, false, false, false, false, false, false, false, false, false, false] rfl rfl (by kernel_rfl) (fun _ _ _ h => h) (Or.inl ⟨by rfl, ?_⟩) ?_ ?_
  rotate_left
  · intro w'
    go_simp
    with_reducible rfl
  rotate_left
  · simp only [Act.put, List.setIfInBounds_toArray, List.set_cons_zero, List.set_cons_succ, i64_w, i32_w]
    rfl
  refine pure_ (i := 6) (N := some 9) (v := ?_) (a' := ?_) #[true, true, true, false, false, true, true, false, false, false, false, false, false, false, false, false, false, false, false, false, false, false, false, false, false, false] rfl rfl (by kernel_rfl) (fun _ _ _ h => h) (Or.inl ⟨by rfl, ?_⟩) ?_ ?_
  rotate_left
  · intro w'
    go_simp
    with_reducible rfl
  rotate_left
  · simp only [Act.put, List.setIfInBounds_toArray, List.set_cons_zero, List.set_cons_succ, i64_w, i32_w]
    rfl
  refine pure_ (i := 7) (N := some 10) (v := ?_) (a' := ?_) #[true, true, true, false, false, true, true, true, false, false, false, false, false, false, false, false, false, false, false, false, false, false, false, false, false, false] rfl rfl (by kernel_rfl) (fun _ _ _ h => h) (Or.inl ⟨by rfl, ?_⟩) ?_ ?_
  rotate_left
  · intro w'
    go_simp
    with_reducible rfl
  rotate_left
  · simp only [Act.put, List.setIfInBounds_toArray, List.set_cons_zero, List.set_cons_succ, i64_w, i32_w]
    rfl
  refine pure_ (i := 10) (N := some 13) (v := ?_) (a' := ?_) #[true, true, true, false, false, true, true, true, false, false, true, false, false, false, false, false, false, false, false, false, false, false, false, false, false, false] rfl rfl (by kernel_rfl) (fun _ _ _ h => h) (Or.inl ⟨by rfl, ?_⟩) ?_ ?_
  rotate_left
  · intro w'
    go_simp
    with_reducible rfl
  rotate_left
  · simp only [Act.put, List.setIfInBounds_toArray, List.set_cons_zero, List.set_cons_succ, i64_w, i32_w]
    rfl
  refine pure_ (i := 11) (N := some 14) (v := ?_) (a' := ?_) #[true, true, true, false, false, true, true, true, false, false, true, true, false, false, false, false, false, false, false, false, false, false, false, false, false, false] rfl rfl (by kernel_rfl) (fun _ _ _ h => h) (Or.inl ⟨by rfl, ?_⟩) ?_ ?_
  rotate_left
  · intro w'
    go_simp
    with_reducible rfl
  rotate_left
  · simp only [Act.put, List.setIfInBounds_toArray, List.set_cons_zero, List.set_cons_succ, i64_w, i32_w]
    rfl
  refine pure_ (i := 12) (N := some 15) (v := ?_) (a' := ?_) #[true, true, true, false, false, true, true, true, false, false, true, true, true, false, false, false, false, false, false, false, false, false, false, false, false, false] rfl rfl (by kernel_rfl) (fun _ _ _ h => h) (Or.inl ⟨by rfl, ?_⟩) ?_ ?_
  rotate_left
  · intro w'
    go_simp
    with_reducible rfl
  rotate_left
  · simp only [Act.put, List.setIfInBounds_toArray, List.set_cons_zero, List.set_cons_succ, i64_w, i32_w]
    rfl
  refine pure_ (i := 15) (N := some 18) (v := ?_) (a' := ?_) #[true, true, true, false, false, true, true, true, false, false, true, true, true, false, false, true, false, false, false, false, false, false, false, false, false, false] rfl rfl (by kernel_rfl) (fun _ _ _ h => h) (Or.inl ⟨by rfl, ?_⟩) ?_ ?_
  rotate_left
  · intro w'
    go_simp
    with_reducible rfl
  rotate_left
  · simp only [Act.put, List.setIfInBounds_toArray, List.set_cons_zero, List.set_cons_succ, i64_w, i32_w]
    rfl
  refine pure_ (i := 16) (N := some 19) (v := ?_) (a' := ?_) #[true, true, true, false, false, true, true, true, false, false, true, true, true, false, false, true, true, false, false, false, false, false, false, false, false, false] rfl rfl (by kernel_rfl) (fun _ _ _ h => h) (Or.inl ⟨by rfl, ?_⟩) ?_ ?_
  rotate_left
  · intro w'
    go_simp
    with_reducible rfl
  rotate_left
  · simp only [Act.put, List.setIfInBounds_toArray, List.set_cons_zero, List.set_cons_succ, i64_w, i32_w]
    rfl
  refine pure_ (i := 17) (N := some 20) (v := ?_) (a' := ?_) #[true, true, true, false, false, true, true, true, false, false, true, true, true, false, false, true, true, true, false, false, false, false, false, false, false, false] rfl rfl (by kernel_rfl) (fun _ _ _ h => h) (Or.inl ⟨by rfl, ?_⟩) ?_ ?_
  rotate_left
  · intro w'
    go_simp
    with_reducible rfl
  rotate_left
  · simp only [Act.put, List.setIfInBounds_toArray, List.set_cons_zero, List.set_cons_succ, i64_w, i32_w]
    rfl
  refine pure_ (i := 20) (N := some 23) (v := ?_) (a' := ?_) #[true, true, true, false, false, true, true, true, false, false, true, true, true, false, false, true, true, true, false, false, true, false, false, false, false, false] rfl rfl (by kernel_rfl) (fun _ _ _ h => h) (Or.inl ⟨by rfl, ?_⟩) ?_ ?_
  rotate_left
  · intro w'
    go_simp
    with_reducible rfl
  rotate_left
  · simp only [Act.put, List.setIfInBounds_toArray, List.set_cons_zero, List.set_cons_succ, i64_w, i32_w]
    rfl
  refine pure_ (i := 22) (N := some 25) (v := ?_) (a' := ?_) #[true, true, true, false, false, true, true, true, false, false, true, true, true, false, false, true, true, true, false, false, true, false, true, false, false, false] rfl rfl (by kernel_rfl) (fun _ _ _ h => h) (Or.inl ⟨by rfl, ?_⟩) ?_ ?_
  rotate_left
  · intro w'
    go_simp
    with_reducible rfl
  rotate_left
  · simp only [Act.put, List.setIfInBounds_toArray, List.set_cons_zero, List.set_cons_succ, i64_w, i32_w]
    rfl
  refine take_ (i := 3) (N := some 6) (v := ?_) (a' := ?_) #[true, true, true, true, false, true, true, true, false, false, true, true, true, false, false, true, true, true, false, false, true, false, true, false, false, false] rfl rfl (by kernel_rfl) (fun _ _ _ h => h) (Or.inl ⟨by rfl, ?_⟩) hHeld ?_ ?_
  rotate_left
  · rintro w' ⟨s0, s1, s2⟩
    go_simp
    with_reducible rfl
  rotate_left
  · simp only [Act.put, List.setIfInBounds_toArray, List.set_cons_zero, List.set_cons_succ, i64_w, i32_w]
    rfl
  refine pure_ (i := 4) (N := some 7) (v := ?_) (a' := ?_) #[true, true, true, true, true, true, true, true, false, false, true, true, true, false, false, true, true, true, false, false, true, false, true, false, false, false] rfl rfl (by kernel_rfl) (fun _ _ _ h => h) (Or.inl ⟨by rfl, ?_⟩) ?_ ?_
  rotate_left
  · intro w'
    go_simp
    with_reducible rfl
  rotate_left
  · simp only [Act.put, List.setIfInBounds_toArray, List.set_cons_zero, List.set_cons_succ, i64_w, i32_w]
    rfl
  refine take_ (i := 8) (N := some 11) (v := ?_) (a' := ?_) #[true, true, true, true, true, true, true, true, true, false, true, true, true, false, false, true, true, true, false, false, true, false, true, false, false, false] rfl rfl (by kernel_rfl) (fun _ _ _ h => h) (Or.inl ⟨by rfl, ?_⟩) hHeld ?_ ?_
  rotate_left
  · rintro w' ⟨s0, s1, s2⟩
    go_simp
    with_reducible rfl
  rotate_left
  · simp only [Act.put, List.setIfInBounds_toArray, List.set_cons_zero, List.set_cons_succ, i64_w, i32_w]
    rfl
  refine pure_ (i := 9) (N := some 12) (v := ?_) (a' := ?_) #[true, true, true, true, true, true, true, true, true, true, true, true, true, false, false, true, true, true, false, false, true, false, true, false, false, false] rfl rfl (by kernel_rfl) (fun _ _ _ h => h) (Or.inl ⟨by rfl, ?_⟩) ?_ ?_
  rotate_left
  · intro w'
    go_simp
    with_reducible rfl
  rotate_left
  · simp only [Act.put, List.setIfInBounds_toArray, List.set_cons_zero, List.set_cons_succ, i64_w, i32_w]
    rfl
  refine take_ (i := 13) (N := some 16) (v := ?_) (a' := ?_) #[true, true, true, true, true, true, true, true, true, true, true, true, true, true, false, true, true, true, false, false, true, false, true, false, false, false] rfl rfl (by kernel_rfl) (fun _ _ _ h => h) (Or.inl ⟨by rfl, ?_⟩) hHeld ?_ ?_
  rotate_left
  · rintro w' ⟨s0, s1, s2⟩
    go_simp
    with_reducible rfl
  rotate_left
  · simp only [Act.put, List.setIfInBounds_toArray, List.set_cons_zero, List.set_cons_succ, i64_w, i32_w]
    rfl
  refine pure_ (i := 14) (N := some 17) (v := ?_) (a' := ?_) #[true, true, true, true, true, true, true, true, true, true, true, true, true, true, true, true, true, true, false, false, true, false, true, false, false, false] rfl rfl (by kernel_rfl) (fun _ _ _ h => h) (Or.inl ⟨by rfl, ?_⟩) ?_ ?_
  rotate_left
  · intro w'
    go_simp
    with_reducible rfl
  rotate_left
  · simp only [Act.put, List.setIfInBounds_toArray, List.set_cons_zero, List.set_cons_succ, i64_w, i32_w]
    rfl
  refine take_ (i := 18) (N := some 21) (v := ?_) (a' := ?_) #[true, true, true, true, true, true, true, true, true, true, true, true, true, true, true, true, true, true, true, false, true, false, true, false, false, false] rfl rfl (by kernel_rfl) (fun _ _ _ h => h) (Or.inl ⟨by rfl, ?_⟩) hHeld ?_ ?_
  rotate_left
  · rintro w' ⟨s0, s1, s2⟩
    go_simp
    with_reducible rfl
  rotate_left
  · simp only [Act.put, List.setIfInBounds_toArray, List.set_cons_zero, List.set_cons_succ, i64_w, i32_w]
    rfl
  refine one_ (i := 19) (N := some 22) #[true, true, true, true, true, true, true, true, true, true, true, true, true, true, true, true, true, true, true, true, true, false, true, false, false, false] rfl rfl (by kernel_rfl) (by decide) (fun K hK => ?_)
  refine goes_ Tryd.func51 (by kernel_rfl) rfl #[.slice A (s.hash.getD []).length c] (by rfl) rfl rfl (by simp only [List.map_toArray, List.map_cons, List.map_nil]; rfl) ?_
  with_reducible refine (bytes_Clone.calls A c (s.hash.getD []) (s.hash.getD []) _ (Kd.C_drew (Kd.C_below HC.out HB0.out)) HNC.out HCL.out).mono ?_
  rintro e w2 ⟨v2, rfl, hR, hB⟩
  obtain ⟨A2, c2, rfl⟩ := Kd.R_slice hR
  have HR2 := Aside0.mk hR
  have HB2 := Aside0.mk hB
  have RD2 := Aside0.mk ((RD0.out.drew).below hB)
  have hg2 := (hB.block _ (blk_lt (heap_drew HG0.out))).trans (heap_drew HG0.out)
  have HG2 := Aside0.mk hg2
  have hq0 := (blk_cell hg2 0).trans rfl
  have hq1 := (blk_cell hg2 1).trans rfl
  have hq2 := (blk_cell hg2 2).trans rfl
  have hq3 := (blk_cell hg2 3).trans rfl
  have hq4 := (blk_cell hg2 4).trans rfl
  have hq5 := (blk_cell hg2 5).trans rfl
  have hqf := blk_frozen hg2
  have hj0 := (blk_cell RD2.out.blk 0).trans rfl
  have hj1 := (blk_cell RD2.out.blk 1).trans rfl
  have hj2 := (blk_cell RD2.out.blk 2).trans rfl
  clear hR hB hg2
  refine ⟨_, rfl, ?_⟩
  refine hK.out _ _ ⟨hj0, hj1, hj2⟩ (fun hHeld => ?_)
  clear hK K
  refine norm_ (a' := ?_) ?_ ?_
  rotate_left
  · show Act.put _ (some 22) _ = _
    simp only [Act.put, List.setIfInBounds_toArray, List.set_cons_zero, List.set_cons_succ, i64_w, i32_w]
    rfl
  refine one_ (i := 21) (N := some 24) #[true, true, true, true, true, true, true, true, true, true, true, true, true, true, true, true, true, true, true, true, true, true, true, false, false, false] rfl rfl (by kernel_rfl) (by decide) (fun K hK => ?_)
  refine goes_ Tryd.func93 (by kernel_rfl) rfl #[.pointer (some ⟨g, 0, none⟩)] (by rfl) rfl rfl (by simp only [List.map_toArray, List.map_cons, List.map_nil]; rfl) ?_
  with_reducible refine (GetName_calls RD2.out).mono ?_
  rintro e w3 ⟨rfl, hw⟩
  rw [hw]
  clear hw
  refine ⟨_, rfl, ?_⟩
  refine hK.out _ _ ⟨hj0, hj1, hj2⟩ (fun hHeld => ?_)
  clear hK K
  refine norm_ (a' := ?_) ?_ ?_
  rotate_left
  · show Act.put _ (some 24) _ = _
    simp only [Act.put, List.setIfInBounds_toArray, List.set_cons_zero, List.set_cons_succ, i64_w, i32_w]
    rfl
  refine one_ (i := 23) (N := some 26) #[true, true, true, true, true, true, true, true, true, true, true, true, true, true, true, true, true, true, true, true, true, true, true, true, false, false] rfl rfl (by kernel_rfl) (by decide) (fun K hK => ?_)
  refine goes_ Tryd.func94 (by kernel_rfl) rfl #[.pointer (some ⟨g, 0, none⟩)] (by rfl) rfl rfl (by simp only [List.map_toArray, List.map_cons, List.map_nil]; rfl) ?_
  with_reducible refine (GetTsize_calls RD2.out).mono ?_
  rintro e w3 ⟨rfl, hw⟩
  rw [hw]
  clear hw
  refine ⟨_, rfl, ?_⟩
  refine hK.out _ _ ⟨hj0, hj1, hj2⟩ (fun hHeld => ?_)
  clear hK K
  refine norm_ (a' := ?_) ?_ ?_
  rotate_left
  · show Act.put _ (some 26) _ = _
    simp only [Act.put, List.setIfInBounds_toArray, List.set_cons_zero, List.set_cons_succ, i64_w, i32_w]
    rfl
  refine pure_ (i := 24) (N := some 27) (v := ?_) (a' := ?_) #[true, true, true, true, true, true, true, true, true, true, true, true, true, true, true, true, true, true, true, true, true, true, true, true, true, false] rfl rfl (by kernel_rfl) (fun _ _ _ h => h) (Or.inl ⟨by rfl, ?_⟩) ?_ ?_
  rotate_left
  · intro w'
    go_simp
    with_reducible rfl
  rotate_left
  · simp only [Act.put, List.setIfInBounds_toArray, List.set_cons_zero, List.set_cons_succ, i64_w, i32_w]
    rfl
  refine last_ (i := 25) (N := none) #[true, true, true, true, true, true, true, true, true, true, true, true, true, true, true, true, true, true, true, true, true, true, true, true, true, true] rfl rfl (by kernel_rfl) (by decide) (fun K hK => ?_)
  refine skip_ (w1 := ?_) (by rfl) rfl ?_ ?_
  rotate_left
  · go_simp
    rfl
  refine hK.out _ _ ?_
  clear hK K
  refine done_ (by kernel_rfl) ?_

  have HB5 := below_step HB0.out (below_step (below_drew (Below.refl _ _)) HB2.out)
  have hb5 := set6_blk HG2.out (.bool A.isSome) (.bool p1.isSome) (.bool p2.isSome) (.slice A2 (s.hash.getD []).length c2) (.string (strOfNums (s.name.getD []))) (.int .u64 ((s.ts.getD 0 : Nat) : Int))
  go_wp2
  refine bodyPost_ret (results_cell_row rfl _ _ w.heap.size 27 #[.bool A.isSome, .bool p1.isSome, .bool p2.isSome, .slice A2 (s.hash.getD []).length c2, .string (strOfNums (s.name.getD [])), .int .u64 ((s.ts.getD 0 : Nat) : Int)] (0, 0) _ rfl hb5 Tryd.underlying27 rfl (by kernel_rfl)) rfl ?_
  rw [HE.out, HP1.out, HP2.out]
  exact ⟨_, rfl, R_lowI (set6_row HR2.out (by rw [size_drew', size_alloc]; omega) _ _ _ _ _ _) (by rw [size_drew', size_alloc]; omega), set6_below HB5 (Nat.le_refl _) _ _ _ _ _ _⟩
end Go.Proofs.YtnhnlodmkbiiiaaDoor.HandFields
