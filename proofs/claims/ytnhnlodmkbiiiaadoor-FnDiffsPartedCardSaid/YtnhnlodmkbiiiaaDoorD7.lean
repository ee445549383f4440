/- The closure of impl.DiffsMerged finds a change by its block. -/
import Derived.Test.YtnhnlodmkbiiiaaDoorD6
import Derived.LaidEqlPtr
namespace Go.Proofs.YtnhnlodmkbiiiaaDoor.HandDif
open Go Go.RowKit Go.Proofs.YtnhnlodmkbiiiaaDoorL Go.Proofs.YtnhnlodmkbiiiaaDoorW.PrintWords Go.Proofs.YtnhnlodmkbiiiaaDoorW.PrintLast Go.Proofs.YtnhnlodmkbiiiaaDoorW.PrintMore Go.Proofs.YtnhnlodmkbiiiaaDoor.PDif
attribute [local go_sem] max2_int min2_int max_two min_two max_three min_three max_four min_four
set_option linter.unusedVariables false
set_option linter.unusedSimpArgs false
theorem info142 : ∃ j, Tryd.prog.info? 142 = some j ∧ j.size ≠ 0 := by
  have h : (Tryd.prog.info? 142).map (·.size) = some 4 := by kernel_rfl
  obtain ⟨j, hj, hs⟩ := Option.map_eq_some_iff.1 h
  exact ⟨j, hj, by rw [hs]; decide⟩
theorem up_ne {gs : List Nat} (h : gs.Pairwise (· < ·)) {i j : Nat} (hi : i < gs.length) (hj : j < gs.length) (hne : j ≠ i) : gs[j] ≠ gs[i] := by
  rw [List.pairwise_iff_getElem] at h
  rcases Nat.lt_or_gt_of_ne hne with h1 | h1
  · have := h j i hj hi h1; omega
  · have := h i j hi hj h1; omega
theorem at_pt {w : World} {A : Option Addr} {gs : List Nat} (h : Kd.C kpt w A gs.length gs) (i : Int) (h0 : 0 ≤ i) (h1 : i < (gs.length : Int)) : ∃ ad, A = some ad ∧ w.cell? (ad.add i.toNat) = some (.pointer (some ⟨gs[i.toNat]'(by omega), 0, none⟩)) := by
  obtain ⟨ad, c, e, _, hK, hc⟩ := Kd.C_get h 0 i h0 (by omega)
  have hk : c = [Value.pointer (some ⟨gs.getD i.toNat 0, 0, none⟩)] := hK
  refine ⟨ad, e, ?_⟩
  have := hc 0 _ (by rw [hk]; rfl)
  rw [List.getD_eq_getElem?_getD, List.getElem?_eq_getElem (show i.toNat < gs.length by omega)] at this
  have e2 : i.toNat * kpt.sz + 0 = i.toNat := by show i.toNat * 1 + 0 = _; omega
  rw [e2] at this
  exact this
set_option maxHeartbeats 32000000 in
set_option maxRecDepth 100000 in
theorem plain_calls (w : World) (gs : List Nat) (ds : List S78) (i : Nat) (hi : i < gs.length) (hid : i < ds.length) (up : gs.Pairwise (· < ·)) (ba bg : Nat) (Aa Ag : Option Addr) (ca cg : Nat) (ha : w.heap[ba]? = some (.cells #[.slice Aa gs.length ca] 134 (0, 0))) (hg : w.heap[bg]? = some (.cells #[.slice Ag ds.length cg] 71 (0, 0))) (hA : Kd.C kpt w Aa gs.length gs) (hG : Kd.C k78 w Ag ds.length ds) (hcn : ∀ (k : Nat) (h : k < gs.length), ∃ cs, w.heap[gs[k]]? = some (.cells cs 142 (0, 0))) (hc : Chg w gs[i] ds[i]) (hm : gs.length ≤ 1000000) (hok : OkD ds[i]) :
    Calls Tryd.prog 83 #[.pointer (some ⟨gs[i], 0, none⟩), .pointer (some ⟨ba, 0, none⟩), .pointer (some ⟨bg, 0, none⟩)] w fun e w' => ∃ v2 v3, e = .returned (.agg #[.int .i64 ds[i].f0, .string ds[i].f1, v2, v3]) ∧ Kd.R (Kd.int .u8) 5 w' w.heap.size (fun _ => True) v2 ds[i].f2 ∧ Kd.R (Kd.int .u8) 5 w' w.heap.size (fun _ => True) v3 ds[i].f3 ∧ Below w.heap.size w w' := by
  obtain ⟨g, hge⟩ : ∃ g, g = gs[i] := ⟨_, rfl⟩
  obtain ⟨ad, A2, c2, A3, c3, eA, _, _, hx2, hx3, hl2, hr2, hl3, hr3⟩ := at_T78 hG (i : Int) (by omega) (by omega)
  rw [rd78_eq ds i hid] at hx2 hx3 hl2 hr2 hl3 hr3
  obtain ⟨x, hxx⟩ : ∃ x, x = ds[i] := ⟨_, rfl⟩
  rw [← hxx] at hx2 hx3 hl2 hr2 hl3 hr3 hc hok ⊢
  rw [← hge] at hc ⊢
  subst eA
  rw [Int.toNat_natCast] at hx2 hx3
  have hw0 := (blk_cell hc 0).trans rfl
  have hw1 := (blk_cell hc 1).trans rfl
  have hw2 := (blk_cell hg 0).trans rfl
  have hw3 := hx2
  have hw4 := hx3
  have HA := Aside0.mk hA
  have HUP := Aside0.mk up
  have HGE := Aside0.mk hge
  have HM := Aside0.mk hm
  have HI := Aside0.mk hi
  have HID := Aside0.mk hid
  have HR2 := Aside0.mk hr2
  have HR3 := Aside0.mk hr3
  have HL2 := Aside0.mk hl2
  have HL3 := Aside0.mk hl3
  have HC2 : Aside0 (bytes_Clone.f x.f2 = some x.f2) := ⟨by unfold bytes_Clone.f; rw [if_pos (by have := hok.bl; omega)]⟩
  have HC3 : Aside0 (bytes_Clone.f x.f3 = some x.f3) := ⟨by unfold bytes_Clone.f; rw [if_pos (by have := hok.al; omega)]⟩
  have HHA := Aside0.mk ha
  obtain ⟨csn, hcsn⟩ : ∃ csn : Nat → Array Value, ∀ (k : Nat) (h : k < gs.length), w.heap[gs[k]]? = some (.cells (csn k) 142 (0, 0)) := ⟨fun k => if h : k < gs.length then (hcn k h).choose else #[], fun k h => by simp only [h, dif_pos]; exact (hcn k h).choose_spec⟩
  have HCN := Aside0.mk hcsn
  have HCB := Aside0.mk hc
  have HW := Aside0.mk (And.intro hw0 (And.intro hw1 (And.intro hw2 (And.intro hw3 hw4))))
  have hca : (w.alloc (.cells #[.int .i64 0, .string ⟨#[]⟩, .slice none 0 0, .slice none 0 0] 78)).cell? ⟨ba, 0, none⟩ = some (.slice Aa gs.length ca) := (blk_cell (blk_alloc ha _) 0).trans rfl
  clear hcn hcsn hA up hge hm hr2 hr3 hl2 hl3 hok ha hg hG hc hx2 hx3 hxx hw0 hw1 hw2 hw3 hw4
  go_enter Tryd.func83, Tryd.ntmps83
  go_wp2_with fail
  go_loopg [9] gs.length (fun kq v9 w' => ∃ j : Int, v9 = .int .i64 j ∧ Aside0 (∃ n : Nat, j = (n : Int) ∧ n + kq = gs.length ∧ n ≤ i ∧ w' = w.alloc (.cells #[.int .i64 0, .string ⟨#[]⟩, .slice none 0 0, .slice none 0 0] 78)))
  case atStart => exact ⟨0, rfl, ⟨0, rfl, by omega, Nat.zero_le _, rfl⟩⟩
  case round =>
    obtain ⟨j, rfl, HJ⟩ := hrel
    obtain ⟨n, hjn, hnk, hni, hwr⟩ := HJ.out
    have hin := HI.out
    have HB0 : Aside0 (Below w.heap.size w wr) := ⟨by rw [hwr]; exact below_alloc (Below.refl _ _) _⟩
    have HRes : Aside0 (wr.heap[w.heap.size]? = some (.cells #[.int .i64 0, .string ⟨#[]⟩, .slice none 0 0, .slice none 0 0] 78 (0, 0))) := ⟨by rw [hwr]; exact blk_new w _⟩
    have HWR := Aside0.mk hwr
    have q0 : decide (j < (gs.length : Int)) = true := decide_eq_true (by omega)
    have hi0 : ((0 : Int) ≤ j) = True := eq_true (by omega)
    have hi1 : (j < (gs.length : Int)) = True := eq_true (by omega)
    obtain ⟨aa, eAa, hpt⟩ := at_pt (Kd.C_below HA.out HB0.out) j (by omega) (by omega)
    subst eAa
    obtain ⟨gn, hgn⟩ : ∃ gn, gn = gs[j.toNat]'(by omega) := ⟨_, rfl⟩
    rw [← hgn] at hpt
    by_cases hin2 : n = i
    · have hgg : gn = g := by rw [hgn, HGE.out]; congr 1; omega
      rw [hgg] at hpt
      have hje : j = (i : Int) := by omega
      subst hje
      rw [Int.toNat_natCast] at hpt
      have HS0 : Aside0 (Below w.heap.size w wr.drew) := ⟨below_drew HB0.out⟩
      have hw0 := HW.out.1
      have hw1 := HW.out.2.1
      have hw2 := HW.out.2.2.1
      have hw3 := HW.out.2.2.2.1
      have hw4 := HW.out.2.2.2.2
      have hz0 := (HS0.out.cell (World.block_lt_of_cell? w _ hw0)).trans hw0
      have hz1 := (HS0.out.cell (World.block_lt_of_cell? w _ hw1)).trans hw1
      have hz2 := (HS0.out.cell (World.block_lt_of_cell? w _ hw2)).trans hw2
      have hz3 := (HS0.out.cell (World.block_lt_of_cell? w _ hw3)).trans hw3
      have hz4 := (HS0.out.cell (World.block_lt_of_cell? w _ hw4)).trans hw4
      have hd0 : ((0 : Int) ≤ (i : Int)) = True := hi0
      have hd1 : ((i : Int) < (ds.length : Int)) = True := eq_true (by have := HID.out; omega)
      have hd2 : (i < ds.length) = True := eq_true HID.out
      obtain ⟨j142, hj142, hs142⟩ := info142
      have heq := run_eql_ptr_same (P := Tryd.prog) (w := wr) (⟨g, 0, none⟩ : Addr) Tryd.underlying137 hj142
      clear HJ hjn hnk hni hwr hgn hin hin2 hgg hj142 hs142
      go_upto_region 5 with fail
      clear hpt q0
      refine start_ (n := 22) (S := fun w' => w'.cell? ⟨g, 0, none⟩ = some (.int .i64 x.f0) ∧ w'.cell? ⟨g, 1, none⟩ = some (.string x.f1) ∧ w'.cell? ⟨bg, 0, none⟩ = some (.slice (some ad) ds.length cg) ∧ w'.cell? ⟨(ad.add (i * 4)).block, (ad.add (i * 4)).off + 2, none⟩ = some (.slice A2 x.f2.length c2) ∧ w'.cell? ⟨(ad.add (i * 4)).block, (ad.add (i * 4)).off + 3, none⟩ = some (.slice A3 x.f3.length c3)) (ds := [21]) #[false, false, false, false, false, false, false, false, false, false, false, false, false, false, false, false, false, false, false, false, false, false] (by kernel_rfl) rfl rfl ⟨hz0, hz1, hz2, hz3, hz4⟩ (fun hHeld => ?_)
      refine pure_ (i := 0) (N := some 17) (v := ?_) (a' := ?_) #[true, false, false, false, false, false, false, false, false, false, false, false, false, false, false, false, false, false, false, false, false, false] rfl rfl (by kernel_rfl) (fun _ _ _ h => h) (Or.inl ⟨by rfl, ?_⟩) ?_ ?_
      rotate_left
      · intro w'
        go_simp
        with_reducible rfl
      rotate_left
      · simp only [Act.put, List.setIfInBounds_toArray, List.set_cons_zero, List.set_cons_succ, i64_w, i32_w]
        rfl
      refine pure_ (i := 1) (N := some 18) (v := ?_) (a' := ?_) #[true, true, false, false, false, false, false, false, false, false, false, false, false, false, false, false, false, false, false, false, false, false] rfl rfl (by kernel_rfl) (fun _ _ _ h => h) (Or.inl ⟨by rfl, ?_⟩) ?_ ?_
      rotate_left
      · intro w'
        go_simp
        with_reducible rfl
      rotate_left
      · simp only [Act.put, List.setIfInBounds_toArray, List.set_cons_zero, List.set_cons_succ, i64_w, i32_w]
        rfl
      refine pure_ (i := 2) (N := some 19) (v := ?_) (a' := ?_) #[true, true, true, false, false, false, false, false, false, false, false, false, false, false, false, false, false, false, false, false, false, false] rfl rfl (by kernel_rfl) (fun _ _ _ h => h) (Or.inl ⟨by rfl, ?_⟩) ?_ ?_
      rotate_left
      · intro w'
        go_simp
        with_reducible rfl
      rotate_left
      · simp only [Act.put, List.setIfInBounds_toArray, List.set_cons_zero, List.set_cons_succ, i64_w, i32_w]
        rfl
      refine pure_ (i := 4) (N := some 21) (v := ?_) (a' := ?_) #[true, true, true, false, true, false, false, false, false, false, false, false, false, false, false, false, false, false, false, false, false, false] rfl rfl (by kernel_rfl) (fun _ _ _ h => h) (Or.inl ⟨by rfl, ?_⟩) ?_ ?_
      rotate_left
      · intro w'
        go_simp
        with_reducible rfl
      rotate_left
      · simp only [Act.put, List.setIfInBounds_toArray, List.set_cons_zero, List.set_cons_succ, i64_w, i32_w]
        rfl
      refine pure_ (i := 5) (N := some 22) (v := ?_) (a' := ?_) #[true, true, true, false, true, true, false, false, false, false, false, false, false, false, false, false, false, false, false, false, false, false] rfl rfl (by kernel_rfl) (fun _ _ _ h => h) (Or.inl ⟨by rfl, ?_⟩) ?_ ?_
      rotate_left
      · intro w'
        go_simp
        with_reducible rfl
      rotate_left
      · simp only [Act.put, List.setIfInBounds_toArray, List.set_cons_zero, List.set_cons_succ, i64_w, i32_w]
        rfl
      refine pure_ (i := 6) (N := some 23) (v := ?_) (a' := ?_) #[true, true, true, false, true, true, true, false, false, false, false, false, false, false, false, false, false, false, false, false, false, false] rfl rfl (by kernel_rfl) (fun _ _ _ h => h) (Or.inl ⟨by rfl, ?_⟩) ?_ ?_
      rotate_left
      · intro w'
        go_simp
        with_reducible rfl
      rotate_left
      · simp only [Act.put, List.setIfInBounds_toArray, List.set_cons_zero, List.set_cons_succ, i64_w, i32_w]
        rfl
      refine pure_ (i := 9) (N := some 26) (v := ?_) (a' := ?_) #[true, true, true, false, true, true, true, false, false, true, false, false, false, false, false, false, false, false, false, false, false, false] rfl rfl (by kernel_rfl) (fun _ _ _ h => h) (Or.inl ⟨by rfl, ?_⟩) ?_ ?_
      rotate_left
      · intro w'
        go_simp
        with_reducible rfl
      rotate_left
      · simp only [Act.put, List.setIfInBounds_toArray, List.set_cons_zero, List.set_cons_succ, i64_w, i32_w]
        rfl
      refine pure_ (i := 15) (N := some 32) (v := ?_) (a' := ?_) #[true, true, true, false, true, true, true, false, false, true, false, false, false, false, false, true, false, false, false, false, false, false] rfl rfl (by kernel_rfl) (fun _ _ _ h => h) (Or.inl ⟨by rfl, ?_⟩) ?_ ?_
      rotate_left
      · intro w'
        go_simp
        with_reducible rfl
      rotate_left
      · simp only [Act.put, List.setIfInBounds_toArray, List.set_cons_zero, List.set_cons_succ, i64_w, i32_w]
        rfl
      refine take_ (i := 3) (N := some 20) (v := ?_) (a' := ?_) #[true, true, true, true, true, true, true, false, false, true, false, false, false, false, false, true, false, false, false, false, false, false] rfl rfl (by kernel_rfl) (fun _ _ _ h => h) (Or.inl ⟨by rfl, ?_⟩) hHeld ?_ ?_
      rotate_left
      · rintro w' ⟨s0, s1, s2, s3, s4⟩
        go_simp
        with_reducible rfl
      rotate_left
      · simp only [Act.put, List.setIfInBounds_toArray, List.set_cons_zero, List.set_cons_succ, i64_w, i32_w]
        rfl
      refine take_ (i := 7) (N := some 24) (v := ?_) (a' := ?_) #[true, true, true, true, true, true, true, true, false, true, false, false, false, false, false, true, false, false, false, false, false, false] rfl rfl (by kernel_rfl) (fun _ _ _ h => h) (Or.inl ⟨by rfl, ?_⟩) hHeld ?_ ?_
      rotate_left
      · rintro w' ⟨s0, s1, s2, s3, s4⟩
        go_simp
        with_reducible rfl
      rotate_left
      · simp only [Act.put, List.setIfInBounds_toArray, List.set_cons_zero, List.set_cons_succ, i64_w, i32_w]
        rfl
      refine take_ (i := 8) (N := some 25) (v := ?_) (a' := ?_) #[true, true, true, true, true, true, true, true, true, true, false, false, false, false, false, true, false, false, false, false, false, false] rfl rfl (by kernel_rfl) (fun _ _ _ h => h) (Or.inl ⟨by rfl, ?_⟩) hHeld ?_ ?_
      rotate_left
      · rintro w' ⟨s0, s1, s2, s3, s4⟩
        go_simp
        with_reducible rfl
      rotate_left
      · simp only [Act.put, List.setIfInBounds_toArray, List.set_cons_zero, List.set_cons_succ, i64_w, i32_w]
        rfl
      refine pure_ (i := 10) (N := some 27) (v := ?_) (a' := ?_) #[true, true, true, true, true, true, true, true, true, true, true, false, false, false, false, true, false, false, false, false, false, false] rfl rfl (by kernel_rfl) (fun _ _ _ h => h) (Or.inl ⟨by rfl, ?_⟩) ?_ ?_
      rotate_left
      · intro w'
        go_simp
        with_reducible rfl
      rotate_left
      · simp only [Act.put, List.setIfInBounds_toArray, List.set_cons_zero, List.set_cons_succ, i64_w, i32_w]
        rfl
      refine pure_ (i := 11) (N := some 28) (v := ?_) (a' := ?_) #[true, true, true, true, true, true, true, true, true, true, true, true, false, false, false, true, false, false, false, false, false, false] rfl rfl (by kernel_rfl) (fun _ _ _ h => h) (Or.inl ⟨by rfl, ?_⟩) ?_ ?_
      rotate_left
      · intro w'
        go_simp
        with_reducible rfl
      rotate_left
      · simp only [Act.put, List.setIfInBounds_toArray, List.set_cons_zero, List.set_cons_succ, i64_w, i32_w]
        rfl
      refine take_ (i := 12) (N := some 29) (v := ?_) (a' := ?_) #[true, true, true, true, true, true, true, true, true, true, true, true, true, false, false, true, false, false, false, false, false, false] rfl rfl (by kernel_rfl) (fun _ _ _ h => h) (Or.inl ⟨by rfl, ?_⟩) hHeld ?_ ?_
      rotate_left
      · rintro w' ⟨s0, s1, s2, s3, s4⟩
        go_simp
        with_reducible rfl
      rotate_left
      · simp only [Act.put, List.setIfInBounds_toArray, List.set_cons_zero, List.set_cons_succ, i64_w, i32_w]
        rfl
      refine take_ (i := 14) (N := some 31) (v := ?_) (a' := ?_) #[true, true, true, true, true, true, true, true, true, true, true, true, true, false, true, true, false, false, false, false, false, false] rfl rfl (by kernel_rfl) (fun _ _ _ h => h) (Or.inl ⟨by rfl, ?_⟩) hHeld ?_ ?_
      rotate_left
      · rintro w' ⟨s0, s1, s2, s3, s4⟩
        go_simp
        with_reducible rfl
      rotate_left
      · simp only [Act.put, List.setIfInBounds_toArray, List.set_cons_zero, List.set_cons_succ, i64_w, i32_w]
        rfl
      refine pure_ (i := 16) (N := some 33) (v := ?_) (a' := ?_) #[true, true, true, true, true, true, true, true, true, true, true, true, true, false, true, true, true, false, false, false, false, false] rfl rfl (by kernel_rfl) (fun _ _ _ h => h) (Or.inl ⟨by rfl, ?_⟩) ?_ ?_
      rotate_left
      · intro w'
        go_simp
        with_reducible rfl
      rotate_left
      · simp only [Act.put, List.setIfInBounds_toArray, List.set_cons_zero, List.set_cons_succ, i64_w, i32_w]
        rfl
      refine pure_ (i := 17) (N := some 34) (v := ?_) (a' := ?_) #[true, true, true, true, true, true, true, true, true, true, true, true, true, false, true, true, true, true, false, false, false, false] rfl rfl (by kernel_rfl) (fun _ _ _ h => h) (Or.inl ⟨by rfl, ?_⟩) ?_ ?_
      rotate_left
      · intro w'
        go_simp
        with_reducible rfl
      rotate_left
      · simp only [Act.put, List.setIfInBounds_toArray, List.set_cons_zero, List.set_cons_succ, i64_w, i32_w]
        rfl
      refine take_ (i := 18) (N := some 35) (v := ?_) (a' := ?_) #[true, true, true, true, true, true, true, true, true, true, true, true, true, false, true, true, true, true, true, false, false, false] rfl rfl (by kernel_rfl) (fun _ _ _ h => h) (Or.inl ⟨by rfl, ?_⟩) hHeld ?_ ?_
      rotate_left
      · rintro w' ⟨s0, s1, s2, s3, s4⟩
        go_simp
        with_reducible rfl
      rotate_left
      · simp only [Act.put, List.setIfInBounds_toArray, List.set_cons_zero, List.set_cons_succ, i64_w, i32_w]
        rfl
      refine one_ (i := 13) (N := some 30) #[true, true, true, true, true, true, true, true, true, true, true, true, true, true, true, true, true, true, true, false, false, false] rfl rfl (by kernel_rfl) (by decide) (fun K hK => ?_)
      refine goes_ Tryd.func51 (by kernel_rfl) rfl #[.slice A2 x.f2.length c2] (by rfl) rfl rfl (by simp only [List.map_toArray, List.map_cons, List.map_nil]; rfl) ?_
      with_reducible refine (bytes_Clone.calls A2 c2 x.f2 x.f2 _ (Kd.C_below HR2.out HS0.out) HL2.out HC2.out).mono ?_
      rintro e wp ⟨v2, rfl, hR, hB⟩
      obtain ⟨B2, k2, rfl⟩ := Kd.R_slice hR
      have HV2 := Aside0.mk hR
      have HSwp := Aside0.mk (below_step HS0.out hB)
      have HDwp := Aside0.mk hB
      have wp0 := ((HSwp.out).cell (World.block_lt_of_cell? w _ hw0)).trans hw0
      have wp1 := ((HSwp.out).cell (World.block_lt_of_cell? w _ hw1)).trans hw1
      have wp2 := ((HSwp.out).cell (World.block_lt_of_cell? w _ hw2)).trans hw2
      have wp3 := ((HSwp.out).cell (World.block_lt_of_cell? w _ hw3)).trans hw3
      have wp4 := ((HSwp.out).cell (World.block_lt_of_cell? w _ hw4)).trans hw4
      have HReswp := Aside0.mk ((hB.block _ (blk_lt HRes.out)).trans HRes.out)
      clear hR hB
      refine ⟨_, rfl, ?_⟩
      refine hK.out _ _ ⟨wp0, wp1, wp2, wp3, wp4⟩ (fun hHeld => ?_)
      clear hK K
      refine norm_ (a' := ?_) ?_ ?_
      rotate_left
      · show Act.put _ (some 30) _ = _
        simp only [Act.put, List.setIfInBounds_toArray, List.set_cons_zero, List.set_cons_succ, i64_w, i32_w]
        rfl
      refine one_ (i := 19) (N := some 36) #[true, true, true, true, true, true, true, true, true, true, true, true, true, true, true, true, true, true, true, true, false, false] rfl rfl (by kernel_rfl) (by decide) (fun K hK => ?_)
      refine goes_ Tryd.func51 (by kernel_rfl) rfl #[.slice A3 x.f3.length c3] (by rfl) rfl rfl (by simp only [List.map_toArray, List.map_cons, List.map_nil]; rfl) ?_
      with_reducible refine (bytes_Clone.calls A3 c3 x.f3 x.f3 _ (Kd.C_below HR3.out HSwp.out) HL3.out HC3.out).mono ?_
      rintro e wq ⟨v3, rfl, hR, hB⟩
      obtain ⟨B3, k3, rfl⟩ := Kd.R_slice hR
      have HV3 := Aside0.mk hR
      have HSwq := Aside0.mk (below_step HSwp.out hB)
      have HDwq := Aside0.mk hB
      have wq0 := ((HSwq.out).cell (World.block_lt_of_cell? w _ hw0)).trans hw0
      have wq1 := ((HSwq.out).cell (World.block_lt_of_cell? w _ hw1)).trans hw1
      have wq2 := ((HSwq.out).cell (World.block_lt_of_cell? w _ hw2)).trans hw2
      have wq3 := ((HSwq.out).cell (World.block_lt_of_cell? w _ hw3)).trans hw3
      have wq4 := ((HSwq.out).cell (World.block_lt_of_cell? w _ hw4)).trans hw4
      have HReswq := Aside0.mk ((hB.block _ (blk_lt HReswp.out)).trans HReswp.out)
      have hq0 := (blk_cell HReswq.out 0).trans rfl
      have hq1 := (blk_cell HReswq.out 1).trans rfl
      have hq2 := (blk_cell HReswq.out 2).trans rfl
      have hq3 := (blk_cell HReswq.out 3).trans rfl
      have hqf := blk_frozen HReswq.out
      clear hR hB
      refine ⟨_, rfl, ?_⟩
      refine hK.out _ _ ⟨wq0, wq1, wq2, wq3, wq4⟩ (fun hHeld => ?_)
      clear hK K
      refine norm_ (a' := ?_) ?_ ?_
      rotate_left
      · show Act.put _ (some 36) _ = _
        simp only [Act.put, List.setIfInBounds_toArray, List.set_cons_zero, List.set_cons_succ, i64_w, i32_w]
        rfl
      refine pure_ (i := 20) (N := some 37) (v := ?_) (a' := ?_) #[true, true, true, true, true, true, true, true, true, true, true, true, true, true, true, true, true, true, true, true, true, false] rfl rfl (by kernel_rfl) (fun _ _ _ h => h) (Or.inl ⟨by rfl, ?_⟩) ?_ ?_
      rotate_left
      · intro w'
        go_simp
        with_reducible rfl
      rotate_left
      · simp only [Act.put, List.setIfInBounds_toArray, List.set_cons_zero, List.set_cons_succ, i64_w, i32_w]
        rfl
      refine last_ (i := 21) (N := none) #[true, true, true, true, true, true, true, true, true, true, true, true, true, true, true, true, true, true, true, true, true, true] rfl rfl (by kernel_rfl) (by decide) (fun K hK => ?_)
      refine skip_ (w1 := ?_) (by rfl) rfl ?_ ?_
      rotate_left
      · go_simp
        rfl
      refine hK.out _ _ ?_
      clear hK K
      refine done_ (by kernel_rfl) ?_
      have hb0 := set4_blk HReswq.out (.int .i64 x.f0) (.string x.f1) (.slice B2 x.f2.length k2) (.slice B3 x.f3.length k3)
      go_wp2_with fail
      refine bodyPost_ret (results_cell_row rfl _ _ w.heap.size 78 #[.int .i64 x.f0, .string x.f1, .slice B2 x.f2.length k2, .slice B3 x.f3.length k3] (0, 0) _ rfl hb0 Tryd.underlying78 rfl (by kernel_rfl)) rfl ?_
      exact ⟨_, _, rfl, Kd.R_set4 (Kd.R_lower (Kd.R_below HV2.out HDwq.out) HS0.out.size) HReswq.out (by decide) _ _ _ _, Kd.R_set4 (Kd.R_lower HV3.out HSwp.out.size) HReswq.out (by decide) _ _ _ _, set4_below HSwq.out (Nat.le_refl _) _ _ _ _⟩
    · have hjl : j.toNat < gs.length := by omega
      have hgg : gn ≠ g := by
        rw [hgn, HGE.out]
        exact up_ne HUP.out hi hjl (by omega)
      have hcb := HCB.out
      have hcn := HCN.out j.toNat hjl
      rw [← hgn] at hcn
      obtain ⟨j142, hj142, hs142⟩ := info142
      have heq := run_eql_ptr_other (P := Tryd.prog) (w := wr) (a := (⟨gn, 0, none⟩ : Addr)) (b := (⟨g, 0, none⟩ : Addr)) Tryd.underlying137 hj142 hs142 (by intro e; injection e with e; exact hgg e) ((HB0.out.block _ (blk_lt hcn)).trans hcn) ((HB0.out.block _ (blk_lt hcb)).trans hcb)
      obtain ⟨j1, hj1e⟩ : ∃ y : Int, wrap64 (j + 1) = y := ⟨_, rfl⟩
      have hj1w : IntKind.i64.wrap (j + 1) = j1 := (i64_w _).trans hj1e
      have HJ1 := Aside0.mk (show j1 = ((n + 1 : Nat) : Int) by have := HM.out; rw [← hj1e]; unfold wrap64; omega)
      have HJ2 := Aside0.mk (show n + gk = gs.length ∧ n + 1 ≤ i from ⟨hnk, by omega⟩)
      clear HJ hjn hnk hni hwr hgn hin hin2 hgg hj142 hs142 hcb hcn hjl
      go_wp2_with fail
      go_roundg (gk - 1)
      case measure => have := HJ2.out; have := HI.out; omega
      case rel => exact ⟨j1, rfl, ⟨n + 1, HJ1.out, by have := HJ2.out; have := HI.out; omega, HJ2.out.2, HWR.out⟩⟩
end Go.Proofs.YtnhnlodmkbiiiaaDoor.HandDif
