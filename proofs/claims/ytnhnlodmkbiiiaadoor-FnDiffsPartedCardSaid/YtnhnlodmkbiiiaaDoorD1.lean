/- What laws.change makes of a number. -/
import Derived.Test.YtnhnlodmkbiiiaaDoorD0
namespace Go.Proofs.YtnhnlodmkbiiiaaDoor.HandDif
open Go Go.RowKit Go.Proofs.YtnhnlodmkbiiiaaDoorL Go.Proofs.YtnhnlodmkbiiiaaDoorW.PrintWords Go.Proofs.YtnhnlodmkbiiiaaDoorW.PrintLast Go.Proofs.YtnhnlodmkbiiiaaDoorW.PrintMore Go.Proofs.YtnhnlodmkbiiiaaDoor.PDif
attribute [local go_sem] max2_int min2_int max_two min_two max_three min_three max_four min_four
set_option linter.unusedVariables false
set_option linter.unusedSimpArgs false
def pathB (m : Nat) : ByteArray := [⟨#[97]⟩, ⟨#[98]⟩, ⟨#[97, 47, 98]⟩, ⟨#[99]⟩, ⟨#[]⟩, ⟨#[100, 47, 101]⟩, ⟨#[120]⟩, ⟨#[121]⟩].getD m ⟨#[]⟩
def strs8 : Array Value := #[.string ⟨#[97]⟩, .string ⟨#[98]⟩, .string ⟨#[97, 47, 98]⟩, .string ⟨#[99]⟩, .string ⟨#[]⟩, .string ⟨#[100, 47, 101]⟩, .string ⟨#[120]⟩, .string ⟨#[121]⟩]
theorem strs8_get : ∀ m, m < 8 → strs8[m]? = some (.string (pathB m))
  | 0, _ => rfl | 1, _ => rfl | 2, _ => rfl | 3, _ => rfl | 4, _ => rfl | 5, _ => rfl | 6, _ => rfl | 7, _ => rfl
  | n + 8, h => by omega
/-- Four cells of a block are set. -/
def set4 (W : World) (g : Nat) (a0 a1 a2 a3 : Value) : World := (((W.setCell ⟨g, 0, none⟩ a0).setCell ⟨g, 1, none⟩ a1).setCell ⟨g, 2, none⟩ a2).setCell ⟨g, 3, none⟩ a3
theorem set4_blk {W : World} {g : Nat} {b0 b1 b2 b3 : Value} {t : TypeId} (h : W.heap[g]? = some (.cells #[b0, b1, b2, b3] t (0, 0))) (a0 a1 a2 a3 : Value) : (set4 W g a0 a1 a2 a3).heap[g]? = some (.cells #[a0, a1, a2, a3] t (0, 0)) :=
  blk_put (blk_put (blk_put (blk_put h 0 _ rfl) 1 _ rfl) 2 _ rfl) 3 _ rfl
theorem set4_below {w W : World} {g : Nat} (h : Below w.heap.size w W) (hg : w.heap.size ≤ g) (a0 a1 a2 a3 : Value) : Below w.heap.size w (set4 W g a0 a1 a2 a3) := below_set (below_set (below_set (below_set h hg) hg) hg) hg
theorem set4_far {W : World} {g : Nat} (k : Nat) (hk : k ≠ g) (a0 a1 a2 a3 : Value) : (set4 W g a0 a1 a2 a3).heap[k]? = W.heap[k]? := by
  unfold set4
  rw [Below.heap_setCell _ ⟨g, 3, none⟩ _ k (by simpa using hk), Below.heap_setCell _ ⟨g, 2, none⟩ _ k (by simpa using hk), Below.heap_setCell _ ⟨g, 1, none⟩ _ k (by simpa using hk), Below.heap_setCell _ ⟨g, 0, none⟩ _ k (by simpa using hk)]
theorem Kd.R_set4 {α : Type} {d : Kd α} {e base g t : Nat} {W : World} {v : Value} {xs : List α} {cells : Array Value} (h : d.R e W base (fun _ => True) v xs) (hb : W.heap[g]? = some (.cells cells t (0, 0))) (ht : ∀ q, q ∈ e :: d.E → q ≠ t) (a0 a1 a2 a3 : Value) : d.R e (set4 W g a0 a1 a2 a3) base (fun _ => True) v xs :=
  Kd.R_mono (Kd.R_step (Kd.R_types h hb ht) (fun k hk _ => set4_far k hk.2 a0 a1 a2 a3)) (fun _ _ => trivial)
/-- A change, by its number. -/
def chg (n : Nat) : S78 := ⟨((n % 3 : Nat) : Int), pathB (n / 3 % 8), idB (n / 32 % 4), idB (n / 128 % 256)⟩
set_option maxHeartbeats 16000000 in
set_option maxRecDepth 100000 in
theorem change_calls (n : Nat) (hn : n < 65536) (w : World) : Calls Tryd.prog 79 #[.int .u16 (n : Int)] w fun e w' => ∃ v2 v3, e = .returned (.agg #[.int .i64 (chg n).f0, .string (chg n).f1, v2, v3]) ∧ Kd.R (Kd.int .u8) 5 w' w.heap.size (fun _ => True) v2 (chg n).f2 ∧ Kd.R (Kd.int .u8) 5 w' w.heap.size (fun _ => True) v3 (chg n).f3 ∧ Below w.heap.size w w' := by
  obtain ⟨m, hm⟩ : ∃ m, m = n / 3 % 8 := ⟨_, rfl⟩
  obtain ⟨x1, hx1⟩ : ∃ m, m = n / 32 % 4 := ⟨_, rfl⟩
  obtain ⟨x2, hx2⟩ : ∃ m, m = n / 128 % 256 := ⟨_, rfl⟩
  obtain ⟨t, ht⟩ : ∃ m, m = n % 3 := ⟨_, rfl⟩
  obtain ⟨q, hq⟩ : ∃ m, m = n / 3 := ⟨_, rfl⟩
  have hch : chg n = ⟨(t : Int), pathB m, idB x1, idB x2⟩ := by rw [hm, hx1, hx2, ht]; rfl
  rw [hch]
  have HM := Aside0.mk (show m < 8 by omega)
  have HX1 := Aside0.mk (show x1 < 256 by omega)
  have HX2 := Aside0.mk (show x2 < 256 by omega)
  have ft : Int.tmod (n : Int) 3 = (t : Int) := by rw [Int.tmod_eq_emod_of_nonneg (by omega)]; omega
  have fq : Int.tdiv (n : Int) 3 = (q : Int) := by rw [Int.tdiv_eq_ediv_of_nonneg (by omega)]; omega
  have fqw : IntKind.u16.wrap (q : Int) = (q : Int) := by rw [show IntKind.u16.wrap (q : Int) = (q : Int) % 65536 from by rfl]; omega
  have f1 : IntKind.u8.wrap (bits .and .u16 ((n : Int) / 32) 3) = (x1 : Int) := by
    have h1 := bits_mask .u16 16 (by decide) (fun z a b => by rw [show IntKind.u16.wrap z = z % 65536 from by rfl]; omega) 2 (by decide) ((n : Int) / 32) (by omega) (by omega)
    have h2 : bits .and .u16 ((n : Int) / 32) 3 = ((n : Int) / 32) % 4 := by simpa using h1
    have e32 : (n : Int) / 32 = ((n / 32 : Nat) : Int) := by omega
    have e4 : ((n / 32 : Nat) : Int) % 4 = (x1 : Int) := by rw [hx1]; omega
    rw [h2, e32, e4, show ∀ z : Int, IntKind.u8.wrap z = z % 256 from fun z => by rfl]
    clear h1 h2; omega
  have f2 : IntKind.u8.wrap ((n : Int) / 128) = (x2 : Int) := by rw [show ∀ z : Int, IntKind.u8.wrap z = z % 256 from fun z => by rfl]; omega
  have fm : Int.tmod (q : Int) 8 = (m : Int) := by rw [Int.tmod_eq_emod_of_nonneg (by omega)]; omega
  have ftw : wrap64 (t : Int) = (t : Int) := by unfold wrap64; omega
  have hi0 : ((0 : Int) ≤ (m : Int)) = True := eq_true (by omega)
  have hi1 : ((m : Int) < 8) = True := eq_true (by omega)
  have hi2 : (m < 8) = True := eq_true HM.out
  have HB : Aside0 (Below w.heap.size w (w.alloc (.cells #[.int .i64 0, .string ⟨#[]⟩, .slice none 0 0, .slice none 0 0] 78)).drew) := ⟨below_drew (below_alloc (Below.refl _ _) _)⟩
  have HRes : Aside0 ((w.alloc (.cells #[.int .i64 0, .string ⟨#[]⟩, .slice none 0 0, .slice none 0 0] 78)).drew.heap[w.heap.size]? = some (.cells #[.int .i64 0, .string ⟨#[]⟩, .slice none 0 0, .slice none 0 0] 78 (0, 0))) := ⟨blk_drew (blk_new w _)⟩
  clear hm hx1 hx2 ht hq hch hn
  go_enter Tryd.func79, Tryd.ntmps79
  go_wp2_with fail
  obtain ⟨wd, hwd⟩ : ∃ wd, wd = (w.alloc (.cells #[.int .i64 0, .string ⟨#[]⟩, .slice none 0 0, .slice none 0 0] 78)).drew := ⟨_, rfl⟩
  rw [← hwd] at HB HRes
  have HSZ : Aside0 (wd.heap.size = w.heap.size + 1) := ⟨by rw [hwd]; exact Array.size_push ..⟩
  refine start_ (n := 20) (S := fun w' => True) (ds := [19]) #[false, false, false, false, false, false, false, false, false, false, false, false, false, false, false, false, false, false, false, false] (by kernel_rfl) rfl rfl trivial (fun hHeld => ?_)
  rw [← hwd]
  clear hwd
  refine pure_ (i := 0) (N := some 3) (v := ?_) (a' := ?_) #[true, false, false, false, false, false, false, false, false, false, false, false, false, false, false, false, false, false, false, false] rfl rfl (by kernel_rfl) (fun _ _ _ h => h) (Or.inl ⟨by rfl, ?_⟩) ?_ ?_
  rotate_left
  · intro w'
    go_simp
    with_reducible rfl
  rotate_left
  · simp only [Act.put, List.setIfInBounds_toArray, List.set_cons_zero, List.set_cons_succ, i64_w, i32_w]
    rfl
  refine pure_ (i := 1) (N := some 4) (v := ?_) (a' := ?_) #[true, true, false, false, false, false, false, false, false, false, false, false, false, false, false, false, false, false, false, false] rfl rfl (by kernel_rfl) (fun _ _ _ h => h) (Or.inl ⟨by rfl, ?_⟩) ?_ ?_
  rotate_left
  · intro w'
    go_simp
    with_reducible rfl
  rotate_left
  · simp only [Act.put, List.setIfInBounds_toArray, List.set_cons_zero, List.set_cons_succ, i64_w, i32_w]
    rfl
  refine pure_ (i := 2) (N := some 5) (v := ?_) (a' := ?_) #[true, true, true, false, false, false, false, false, false, false, false, false, false, false, false, false, false, false, false, false] rfl rfl (by kernel_rfl) (fun _ _ _ h => h) (Or.inl ⟨by rfl, ?_⟩) ?_ ?_
  rotate_left
  · intro w'
    go_simp
    with_reducible rfl
  rotate_left
  · simp only [Act.put, List.setIfInBounds_toArray, List.set_cons_zero, List.set_cons_succ, i64_w, i32_w]
    rfl
  refine pure_ (i := 4) (N := some 7) (v := ?_) (a' := ?_) #[true, true, true, false, true, false, false, false, false, false, false, false, false, false, false, false, false, false, false, false] rfl rfl (by kernel_rfl) (fun _ _ _ h => h) (Or.inl ⟨by rfl, ?_⟩) ?_ ?_
  rotate_left
  · intro w'
    go_simp
    with_reducible rfl
  rotate_left
  · simp only [Act.put, List.setIfInBounds_toArray, List.set_cons_zero, List.set_cons_succ, i64_w, i32_w]
    rfl
  refine pure_ (i := 5) (N := some 8) (v := ?_) (a' := ?_) #[true, true, true, false, true, true, false, false, false, false, false, false, false, false, false, false, false, false, false, false] rfl rfl (by kernel_rfl) (fun _ _ _ h => h) (Or.inl ⟨by rfl, ?_⟩) ?_ ?_
  rotate_left
  · intro w'
    go_simp
    with_reducible rfl
  rotate_left
  · simp only [Act.put, List.setIfInBounds_toArray, List.set_cons_zero, List.set_cons_succ, i64_w, i32_w]
    rfl
  refine pure_ (i := 6) (N := some 9) (v := ?_) (a' := ?_) #[true, true, true, false, true, true, true, false, false, false, false, false, false, false, false, false, false, false, false, false] rfl rfl (by kernel_rfl) (fun _ _ _ h => h) (Or.inl ⟨by rfl, ?_⟩) ?_ ?_
  rotate_left
  · intro w'
    go_simp
    with_reducible rfl
  rotate_left
  · simp only [Act.put, List.setIfInBounds_toArray, List.set_cons_zero, List.set_cons_succ, i64_w, i32_w]
    rfl
  refine pure_ (i := 9) (N := some 12) (v := ?_) (a' := ?_) #[true, true, true, false, true, true, true, false, false, true, false, false, false, false, false, false, false, false, false, false] rfl rfl (by kernel_rfl) (fun _ _ _ h => h) (Or.inl ⟨by rfl, ?_⟩) ?_ ?_
  rotate_left
  · intro w'
    go_simp
    with_reducible rfl
  rotate_left
  · simp only [Act.put, List.setIfInBounds_toArray, List.set_cons_zero, List.set_cons_succ, i64_w, i32_w]
    rfl
  refine pure_ (i := 10) (N := some 13) (v := ?_) (a' := ?_) #[true, true, true, false, true, true, true, false, false, true, true, false, false, false, false, false, false, false, false, false] rfl rfl (by kernel_rfl) (fun _ _ _ h => h) (Or.inl ⟨by rfl, ?_⟩) ?_ ?_
  rotate_left
  · intro w'
    go_simp
    with_reducible rfl
  rotate_left
  · simp only [Act.put, List.setIfInBounds_toArray, List.set_cons_zero, List.set_cons_succ, i64_w, i32_w]
    rfl
  refine pure_ (i := 11) (N := some 14) (v := ?_) (a' := ?_) #[true, true, true, false, true, true, true, false, false, true, true, true, false, false, false, false, false, false, false, false] rfl rfl (by kernel_rfl) (fun _ _ _ h => h) (Or.inl ⟨by rfl, ?_⟩) ?_ ?_
  rotate_left
  · intro w'
    go_simp
    with_reducible rfl
  rotate_left
  · simp only [Act.put, List.setIfInBounds_toArray, List.set_cons_zero, List.set_cons_succ, i64_w, i32_w]
    rfl
  refine pure_ (i := 12) (N := some 15) (v := ?_) (a' := ?_) #[true, true, true, false, true, true, true, false, false, true, true, true, true, false, false, false, false, false, false, false] rfl rfl (by kernel_rfl) (fun _ _ _ h => h) (Or.inl ⟨by rfl, ?_⟩) ?_ ?_
  rotate_left
  · intro w'
    go_simp
    with_reducible rfl
  rotate_left
  · simp only [Act.put, List.setIfInBounds_toArray, List.set_cons_zero, List.set_cons_succ, i64_w, i32_w]
    rfl
  refine pure_ (i := 14) (N := some 17) (v := ?_) (a' := ?_) #[true, true, true, false, true, true, true, false, false, true, true, true, true, false, true, false, false, false, false, false] rfl rfl (by kernel_rfl) (fun _ _ _ h => h) (Or.inl ⟨by rfl, ?_⟩) ?_ ?_
  rotate_left
  · intro w'
    go_simp
    with_reducible rfl
  rotate_left
  · simp only [Act.put, List.setIfInBounds_toArray, List.set_cons_zero, List.set_cons_succ, i64_w, i32_w]
    rfl
  refine pure_ (i := 15) (N := some 18) (v := ?_) (a' := ?_) #[true, true, true, false, true, true, true, false, false, true, true, true, true, false, true, true, false, false, false, false] rfl rfl (by kernel_rfl) (fun _ _ _ h => h) (Or.inl ⟨by rfl, ?_⟩) ?_ ?_
  rotate_left
  · intro w'
    go_simp
    with_reducible rfl
  rotate_left
  · simp only [Act.put, List.setIfInBounds_toArray, List.set_cons_zero, List.set_cons_succ, i64_w, i32_w]
    rfl
  refine pure_ (i := 16) (N := some 19) (v := ?_) (a' := ?_) #[true, true, true, false, true, true, true, false, false, true, true, true, true, false, true, true, true, false, false, false] rfl rfl (by kernel_rfl) (fun _ _ _ h => h) (Or.inl ⟨by rfl, ?_⟩) ?_ ?_
  rotate_left
  · intro w'
    go_simp
    with_reducible rfl
  rotate_left
  · simp only [Act.put, List.setIfInBounds_toArray, List.set_cons_zero, List.set_cons_succ, i64_w, i32_w]
    rfl
  refine join_ (σ := (Nat) × (Option Addr) × (Nat) × (Option Addr) × (Nat)) 2 #[true, true, true, true, true, true, true, true, true, true, true, true, true, true, true, true, true, true, false, false] (fun s_ => [(6, (.slice (some ⟨s_.1, 0, none⟩) 8 8)), (10, (.pointer (some ⟨s_.1, m, none⟩))), (11, (.string (pathB m))), (16, (.slice s_.2.1 (idB x1).length s_.2.2.1)), (20, (.slice s_.2.2.2.1 (idB x2).length s_.2.2.2.2))]) (fun s_ w' => (Below w.heap.size w w') ∧ ((w').heap[w.heap.size]? = some (.cells #[.int .i64 0, .string ⟨#[]⟩, .slice none 0 0, .slice none 0 0] 78 (0, 0))) ∧ (Kd.R (Kd.int .u8) 5 w' w.heap.size (fun _ => True) (.slice s_.2.1 (idB x1).length s_.2.2.1) (idB x1)) ∧ (Kd.R (Kd.int .u8) 5 w' w.heap.size (fun _ => True) (.slice s_.2.2.2.1 (idB x2).length s_.2.2.2.2) (idB x2))) ?_ ?_
  rotate_left
  · intro hJ3_8_13_17
    refine join_ (σ := (Nat) × (Option Addr) × (Nat)) 3 #[true, true, true, true, true, true, true, true, true, true, true, true, true, true, true, true, true, false, false, false] (fun s_ => [(6, (.slice (some ⟨s_.1, 0, none⟩) 8 8)), (10, (.pointer (some ⟨s_.1, m, none⟩))), (11, (.string (pathB m))), (16, (.slice s_.2.1 (idB x1).length s_.2.2))]) (fun s_ w' => (Below w.heap.size w w') ∧ ((w').heap[w.heap.size]? = some (.cells #[.int .i64 0, .string ⟨#[]⟩, .slice none 0 0, .slice none 0 0] 78 (0, 0))) ∧ (Kd.R (Kd.int .u8) 5 w' w.heap.size (fun _ => True) (.slice s_.2.1 (idB x1).length s_.2.2) (idB x1))) ?_ ?_
    rotate_left
    · intro hJ3_8_13
      refine join_ (σ := (Nat) × (Option Addr) × (Nat) × (Option Addr) × (Nat)) 3 #[true, true, true, true, true, true, true, true, false, true, true, true, true, true, true, true, true, true, false, false] (fun s_ => [(6, (.slice (some ⟨s_.1, 0, none⟩) 8 8)), (10, (.pointer (some ⟨s_.1, m, none⟩))), (16, (.slice s_.2.1 (idB x1).length s_.2.2.1)), (20, (.slice s_.2.2.2.1 (idB x2).length s_.2.2.2.2))]) (fun s_ w' => (Below w.heap.size w w') ∧ ((w').heap[w.heap.size]? = some (.cells #[.int .i64 0, .string ⟨#[]⟩, .slice none 0 0, .slice none 0 0] 78 (0, 0))) ∧ ((w').heap[s_.1]? = some (.cells strs8 9 (0, 0))) ∧ (Kd.R (Kd.int .u8) 5 w' w.heap.size (fun _ => True) (.slice s_.2.1 (idB x1).length s_.2.2.1) (idB x1)) ∧ (Kd.R (Kd.int .u8) 5 w' w.heap.size (fun _ => True) (.slice s_.2.2.2.1 (idB x2).length s_.2.2.2.2) (idB x2))) ?_ ?_
      rotate_left
      · intro hJ3_13_17
        refine join_ (σ := (Nat)) 4 #[true, true, true, true, true, true, true, true, true, true, true, true, true, false, true, true, true, false, false, false] (fun s_ => [(6, (.slice (some ⟨s_, 0, none⟩) 8 8)), (10, (.pointer (some ⟨s_, m, none⟩))), (11, (.string (pathB m)))]) (fun s_ w' => (Below w.heap.size w w') ∧ ((w').heap[w.heap.size]? = some (.cells #[.int .i64 0, .string ⟨#[]⟩, .slice none 0 0, .slice none 0 0] 78 (0, 0)))) ?_ ?_
        rotate_left
        · intro hJ3_8
          refine join_ (σ := (Nat) × (Option Addr) × (Nat)) 4 #[true, true, true, true, true, true, true, true, false, true, true, true, true, true, true, true, true, false, false, false] (fun s_ => [(6, (.slice (some ⟨s_.1, 0, none⟩) 8 8)), (10, (.pointer (some ⟨s_.1, m, none⟩))), (16, (.slice s_.2.1 (idB x1).length s_.2.2))]) (fun s_ w' => (Below w.heap.size w w') ∧ ((w').heap[w.heap.size]? = some (.cells #[.int .i64 0, .string ⟨#[]⟩, .slice none 0 0, .slice none 0 0] 78 (0, 0))) ∧ ((w').heap[s_.1]? = some (.cells strs8 9 (0, 0))) ∧ (Kd.R (Kd.int .u8) 5 w' w.heap.size (fun _ => True) (.slice s_.2.1 (idB x1).length s_.2.2) (idB x1))) ?_ ?_
          rotate_left
          · intro hJ3_13
            refine join_ (σ := (Option Addr) × (Nat) × (Option Addr) × (Nat)) 5 #[true, true, true, false, true, true, true, false, false, true, true, true, true, true, true, true, true, true, false, false] (fun s_ => [(16, (.slice s_.1 (idB x1).length s_.2.1)), (20, (.slice s_.2.2.1 (idB x2).length s_.2.2.2))]) (fun s_ w' => (Below w.heap.size w w') ∧ ((w').heap[w.heap.size]? = some (.cells #[.int .i64 0, .string ⟨#[]⟩, .slice none 0 0, .slice none 0 0] 78 (0, 0))) ∧ (Kd.R (Kd.int .u8) 5 w' w.heap.size (fun _ => True) (.slice s_.1 (idB x1).length s_.2.1) (idB x1)) ∧ (Kd.R (Kd.int .u8) 5 w' w.heap.size (fun _ => True) (.slice s_.2.2.1 (idB x2).length s_.2.2.2) (idB x2))) ?_ ?_
            rotate_left
            · intro hJ13_17
              refine join_ (σ := (Nat)) 5 #[true, true, true, true, true, true, true, true, false, true, true, true, true, false, true, true, true, false, false, false] (fun s_ => [(6, (.slice (some ⟨s_, 0, none⟩) 8 8)), (10, (.pointer (some ⟨s_, m, none⟩)))]) (fun s_ w' => (Below w.heap.size w w') ∧ ((w').heap[w.heap.size]? = some (.cells #[.int .i64 0, .string ⟨#[]⟩, .slice none 0 0, .slice none 0 0] 78 (0, 0))) ∧ ((w').heap[s_]? = some (.cells strs8 9 (0, 0)))) ?_ ?_
              rotate_left
              · intro hJ3
                refine join_ (σ := (Option Addr) × (Nat)) 6 #[true, true, true, false, true, true, true, false, false, true, true, true, true, true, true, true, true, false, false, false] (fun s_ => [(16, (.slice s_.1 (idB x1).length s_.2))]) (fun s_ w' => (Below w.heap.size w w') ∧ ((w').heap[w.heap.size]? = some (.cells #[.int .i64 0, .string ⟨#[]⟩, .slice none 0 0, .slice none 0 0] 78 (0, 0))) ∧ (Kd.R (Kd.int .u8) 5 w' w.heap.size (fun _ => True) (.slice s_.1 (idB x1).length s_.2) (idB x1))) ?_ ?_
                rotate_left
                · intro hJ13
                  refine two_ (i := 3) (j := 13) (Ni := some 6) (Nj := some 16) #[true, true, true, true, true, true, true, false, false, true, true, true, true, false, true, true, true, false, false, false] #[true, true, true, false, true, true, true, false, false, true, true, true, true, true, true, true, true, false, false, false] rfl rfl rfl rfl (by kernel_rfl) (by decide) (by decide) (fun K hK => ?_) (fun K hK => ?_)
                  · skip
                    refine value_ (w1 := ?_) (v := ?_) (by rfl) rfl ?_ ?_
                    rotate_left 2
                    · go_simp
                      constructor
                      · rfl
                      · rfl
                    have HRow' := Aside0.mk (blk_new wd (.cells strs8 9))
                    have HB' := Aside0.mk (below_alloc HB.out (.cells strs8 9))
                    have HRes' := Aside0.mk (blk_alloc HRes.out (.cells strs8 9))
                    refine hK.out _ _ trivial (fun hHeld => ?_)
                    clear hK K
                    refine norm_ (a' := ?_) ?_ ?_
                    rotate_left
                    · show Act.put _ (some 6) _ = _
                      simp only [Act.put, List.setIfInBounds_toArray, List.set_cons_zero, List.set_cons_succ, i64_w, i32_w]
                      rfl
                    refine pure_ (i := 7) (N := some 10) (v := ?_) (a' := ?_) #[true, true, true, true, true, true, true, true, false, true, true, true, true, false, true, true, true, false, false, false] rfl rfl (by kernel_rfl) (fun _ _ _ h => h) (Or.inl ⟨by rfl, ?_⟩) ?_ ?_
                    rotate_left
                    · intro w'
                      go_simp
                      with_reducible rfl
                    rotate_left
                    · simp only [Act.put, List.setIfInBounds_toArray, List.set_cons_zero, List.set_cons_succ, i64_w, i32_w]
                      rfl
                    exact norm_ (by first | (simp only [putAll, Act.put, List.setIfInBounds_toArray, List.set_cons_zero, List.set_cons_succ]; done) | (simp only [putAll, Act.put, List.setIfInBounds_toArray, List.set_cons_zero, List.set_cons_succ]; rfl)) (hJ3 wd.heap.size _ ⟨HB'.out, HRes'.out, HRow'.out⟩)
                  · skip
                    refine goes_ Tryd.func113 (by kernel_rfl) rfl #[.int .u8 (x1 : Int)] (by rfl) rfl rfl (by simp only [List.map_toArray, List.map_cons, List.map_nil]; rfl) ?_
                    with_reducible refine (identifier_calls x1 HX1.out _).mono ?_
                    rintro e W2 ⟨v2, rfl, hR, hB⟩
                    obtain ⟨A13, c13, rfl⟩ := Kd.R_slice hR
                    have HB' := Aside0.mk (below_step HB.out hB)
                    have HRes' := Aside0.mk ((hB.block _ (blk_lt HRes.out)).trans HRes.out)
                    have HR1' := Aside0.mk (Kd.R_lower hR HB.out.size)
                    clear hR hB
                    refine ⟨_, rfl, ?_⟩
                    refine hK.out _ _ trivial (fun hHeld => ?_)
                    clear hK K
                    refine norm_ (a' := ?_) ?_ ?_
                    rotate_left
                    · show Act.put _ (some 16) _ = _
                      simp only [Act.put, List.setIfInBounds_toArray, List.set_cons_zero, List.set_cons_succ, i64_w, i32_w]
                      rfl
                    exact norm_ (by first | (simp only [putAll, Act.put, List.setIfInBounds_toArray, List.set_cons_zero, List.set_cons_succ]; done) | (simp only [putAll, Act.put, List.setIfInBounds_toArray, List.set_cons_zero, List.set_cons_succ]; rfl)) (hJ13 (A13, c13) _ ⟨HB'.out, HRes'.out, HR1'.out⟩)
                · skip
                  rintro ⟨A13, c13⟩ W13 hF
                  have HB : Aside0 (Below w.heap.size w W13) := ⟨hF.1⟩
                  have HRes : Aside0 ((W13).heap[w.heap.size]? = some (.cells #[.int .i64 0, .string ⟨#[]⟩, .slice none 0 0, .slice none 0 0] 78 (0, 0))) := ⟨hF.2.1⟩
                  have HR1 : Aside0 (Kd.R (Kd.int .u8) 5 W13 w.heap.size (fun _ => True) (.slice A13 (idB x1).length c13) (idB x1)) := ⟨hF.2.2⟩
                  have hHeld : True := trivial
                  clear hF
                  refine norm_ (a' := ?_) ?_ ?_
                  rotate_left
                  · simp only [putAll, Act.put, List.setIfInBounds_toArray, List.set_cons_zero, List.set_cons_succ]
                    rfl
                  refine two_ (i := 3) (j := 17) (Ni := some 6) (Nj := some 20) #[true, true, true, true, true, true, true, false, false, true, true, true, true, true, true, true, true, false, false, false] #[true, true, true, false, true, true, true, false, false, true, true, true, true, true, true, true, true, true, false, false] rfl rfl rfl rfl (by kernel_rfl) (by decide) (by decide) (fun K hK => ?_) (fun K hK => ?_)
                  · skip
                    refine value_ (w1 := ?_) (v := ?_) (by rfl) rfl ?_ ?_
                    rotate_left 2
                    · go_simp
                      constructor
                      · rfl
                      · rfl
                    have HRow' := Aside0.mk (blk_new W13 (.cells strs8 9))
                    have HB' := Aside0.mk (below_alloc HB.out (.cells strs8 9))
                    have HRes' := Aside0.mk (blk_alloc HRes.out (.cells strs8 9))
                    have HR1' := Aside0.mk (Kd.R_alloc HR1.out (.cells strs8 9))
                    refine hK.out _ _ trivial (fun hHeld => ?_)
                    clear hK K
                    refine norm_ (a' := ?_) ?_ ?_
                    rotate_left
                    · show Act.put _ (some 6) _ = _
                      simp only [Act.put, List.setIfInBounds_toArray, List.set_cons_zero, List.set_cons_succ, i64_w, i32_w]
                      rfl
                    refine pure_ (i := 7) (N := some 10) (v := ?_) (a' := ?_) #[true, true, true, true, true, true, true, true, false, true, true, true, true, true, true, true, true, false, false, false] rfl rfl (by kernel_rfl) (fun _ _ _ h => h) (Or.inl ⟨by rfl, ?_⟩) ?_ ?_
                    rotate_left
                    · intro w'
                      go_simp
                      with_reducible rfl
                    rotate_left
                    · simp only [Act.put, List.setIfInBounds_toArray, List.set_cons_zero, List.set_cons_succ, i64_w, i32_w]
                      rfl
                    exact norm_ (by first | (simp only [putAll, Act.put, List.setIfInBounds_toArray, List.set_cons_zero, List.set_cons_succ]; done) | (simp only [putAll, Act.put, List.setIfInBounds_toArray, List.set_cons_zero, List.set_cons_succ]; rfl)) (hJ3_13 (W13.heap.size, A13, c13) _ ⟨HB'.out, HRes'.out, HRow'.out, HR1'.out⟩)
                  · skip
                    refine goes_ Tryd.func113 (by kernel_rfl) rfl #[.int .u8 (x2 : Int)] (by rfl) rfl rfl (by simp only [List.map_toArray, List.map_cons, List.map_nil]; rfl) ?_
                    with_reducible refine (identifier_calls x2 HX2.out _).mono ?_
                    rintro e W2 ⟨v2, rfl, hR, hB⟩
                    obtain ⟨A17, c17, rfl⟩ := Kd.R_slice hR
                    have HB' := Aside0.mk (below_step HB.out hB)
                    have HRes' := Aside0.mk ((hB.block _ (blk_lt HRes.out)).trans HRes.out)
                    have HR1' := Aside0.mk (Kd.R_below HR1.out hB)
                    have HR2' := Aside0.mk (Kd.R_lower hR HB.out.size)
                    clear hR hB
                    refine ⟨_, rfl, ?_⟩
                    refine hK.out _ _ trivial (fun hHeld => ?_)
                    clear hK K
                    refine norm_ (a' := ?_) ?_ ?_
                    rotate_left
                    · show Act.put _ (some 20) _ = _
                      simp only [Act.put, List.setIfInBounds_toArray, List.set_cons_zero, List.set_cons_succ, i64_w, i32_w]
                      rfl
                    exact norm_ (by first | (simp only [putAll, Act.put, List.setIfInBounds_toArray, List.set_cons_zero, List.set_cons_succ]; done) | (simp only [putAll, Act.put, List.setIfInBounds_toArray, List.set_cons_zero, List.set_cons_succ]; rfl)) (hJ13_17 (A13, c13, A17, c17) _ ⟨HB'.out, HRes'.out, HR1'.out, HR2'.out⟩)
              · skip
                rintro b3 W3 hF
                have HB : Aside0 (Below w.heap.size w W3) := ⟨hF.1⟩
                have HRes : Aside0 ((W3).heap[w.heap.size]? = some (.cells #[.int .i64 0, .string ⟨#[]⟩, .slice none 0 0, .slice none 0 0] 78 (0, 0))) := ⟨hF.2.1⟩
                have HRow : Aside0 ((W3).heap[b3]? = some (.cells strs8 9 (0, 0))) := ⟨hF.2.2⟩
                have hHeld : True := trivial
                clear hF
                refine norm_ (a' := ?_) ?_ ?_
                rotate_left
                · simp only [putAll, Act.put, List.setIfInBounds_toArray, List.set_cons_zero, List.set_cons_succ]
                  rfl
                refine two_ (i := 8) (j := 13) (Ni := some 11) (Nj := some 16) #[true, true, true, true, true, true, true, true, true, true, true, true, true, false, true, true, true, false, false, false] #[true, true, true, true, true, true, true, true, false, true, true, true, true, true, true, true, true, false, false, false] rfl rfl rfl rfl (by kernel_rfl) (by decide) (by decide) (fun K hK => ?_) (fun K hK => ?_)
                · skip
                  have hm_ := (blk_cell HRow.out m).trans (strs8_get m HM.out)
                  refine value_ (w1 := ?_) (v := ?_) (by rfl) rfl ?_ ?_
                  rotate_left 2
                  · go_simp
                    constructor
                    · rfl
                    · rfl
                  have HB' := Aside0.mk (HB.out)
                  have HRes' := Aside0.mk (HRes.out)
                  refine hK.out _ _ trivial (fun hHeld => ?_)
                  clear hK K
                  refine norm_ (a' := ?_) ?_ ?_
                  rotate_left
                  · show Act.put _ (some 11) _ = _
                    simp only [Act.put, List.setIfInBounds_toArray, List.set_cons_zero, List.set_cons_succ, i64_w, i32_w]
                    rfl
                  exact norm_ (by first | (simp only [putAll, Act.put, List.setIfInBounds_toArray, List.set_cons_zero, List.set_cons_succ]; done) | (simp only [putAll, Act.put, List.setIfInBounds_toArray, List.set_cons_zero, List.set_cons_succ]; rfl)) (hJ3_8 b3 _ ⟨HB'.out, HRes'.out⟩)
                · skip
                  refine goes_ Tryd.func113 (by kernel_rfl) rfl #[.int .u8 (x1 : Int)] (by rfl) rfl rfl (by simp only [List.map_toArray, List.map_cons, List.map_nil]; rfl) ?_
                  with_reducible refine (identifier_calls x1 HX1.out _).mono ?_
                  rintro e W2 ⟨v2, rfl, hR, hB⟩
                  obtain ⟨A13, c13, rfl⟩ := Kd.R_slice hR
                  have HB' := Aside0.mk (below_step HB.out hB)
                  have HRes' := Aside0.mk ((hB.block _ (blk_lt HRes.out)).trans HRes.out)
                  have HRow' := Aside0.mk ((hB.block _ (blk_lt HRow.out)).trans HRow.out)
                  have HR1' := Aside0.mk (Kd.R_lower hR HB.out.size)
                  clear hR hB
                  refine ⟨_, rfl, ?_⟩
                  refine hK.out _ _ trivial (fun hHeld => ?_)
                  clear hK K
                  refine norm_ (a' := ?_) ?_ ?_
                  rotate_left
                  · show Act.put _ (some 16) _ = _
                    simp only [Act.put, List.setIfInBounds_toArray, List.set_cons_zero, List.set_cons_succ, i64_w, i32_w]
                    rfl
                  exact norm_ (by first | (simp only [putAll, Act.put, List.setIfInBounds_toArray, List.set_cons_zero, List.set_cons_succ]; done) | (simp only [putAll, Act.put, List.setIfInBounds_toArray, List.set_cons_zero, List.set_cons_succ]; rfl)) (hJ3_13 (b3, A13, c13) _ ⟨HB'.out, HRes'.out, HRow'.out, HR1'.out⟩)
            · skip
              rintro ⟨A13, c13, A17, c17⟩ W13_17 hF
              have HB : Aside0 (Below w.heap.size w W13_17) := ⟨hF.1⟩
              have HRes : Aside0 ((W13_17).heap[w.heap.size]? = some (.cells #[.int .i64 0, .string ⟨#[]⟩, .slice none 0 0, .slice none 0 0] 78 (0, 0))) := ⟨hF.2.1⟩
              have HR1 : Aside0 (Kd.R (Kd.int .u8) 5 W13_17 w.heap.size (fun _ => True) (.slice A13 (idB x1).length c13) (idB x1)) := ⟨hF.2.2.1⟩
              have HR2 : Aside0 (Kd.R (Kd.int .u8) 5 W13_17 w.heap.size (fun _ => True) (.slice A17 (idB x2).length c17) (idB x2)) := ⟨hF.2.2.2⟩
              have hHeld : True := trivial
              clear hF
              refine norm_ (a' := ?_) ?_ ?_
              rotate_left
              · simp only [putAll, Act.put, List.setIfInBounds_toArray, List.set_cons_zero, List.set_cons_succ]
                rfl
              refine one_ (i := 3) (N := some 6) #[true, true, true, true, true, true, true, false, false, true, true, true, true, true, true, true, true, true, false, false] rfl rfl (by kernel_rfl) (by decide) (fun K hK => ?_)
              refine value_ (w1 := ?_) (v := ?_) (by rfl) rfl ?_ ?_
              rotate_left 2
              · go_simp
                constructor
                · rfl
                · rfl
              have HRow' := Aside0.mk (blk_new W13_17 (.cells strs8 9))
              have HB' := Aside0.mk (below_alloc HB.out (.cells strs8 9))
              have HRes' := Aside0.mk (blk_alloc HRes.out (.cells strs8 9))
              have HR1' := Aside0.mk (Kd.R_alloc HR1.out (.cells strs8 9))
              have HR2' := Aside0.mk (Kd.R_alloc HR2.out (.cells strs8 9))
              refine hK.out _ _ trivial (fun hHeld => ?_)
              clear hK K
              refine norm_ (a' := ?_) ?_ ?_
              rotate_left
              · show Act.put _ (some 6) _ = _
                simp only [Act.put, List.setIfInBounds_toArray, List.set_cons_zero, List.set_cons_succ, i64_w, i32_w]
                rfl
              refine pure_ (i := 7) (N := some 10) (v := ?_) (a' := ?_) #[true, true, true, true, true, true, true, true, false, true, true, true, true, true, true, true, true, true, false, false] rfl rfl (by kernel_rfl) (fun _ _ _ h => h) (Or.inl ⟨by rfl, ?_⟩) ?_ ?_
              rotate_left
              · intro w'
                go_simp
                with_reducible rfl
              rotate_left
              · simp only [Act.put, List.setIfInBounds_toArray, List.set_cons_zero, List.set_cons_succ, i64_w, i32_w]
                rfl
              exact norm_ (by first | (simp only [putAll, Act.put, List.setIfInBounds_toArray, List.set_cons_zero, List.set_cons_succ]; done) | (simp only [putAll, Act.put, List.setIfInBounds_toArray, List.set_cons_zero, List.set_cons_succ]; rfl)) (hJ3_13_17 (W13_17.heap.size, A13, c13, A17, c17) _ ⟨HB'.out, HRes'.out, HRow'.out, HR1'.out, HR2'.out⟩)
          · skip
            rintro ⟨b3, A13, c13⟩ W3_13 hF
            have HB : Aside0 (Below w.heap.size w W3_13) := ⟨hF.1⟩
            have HRes : Aside0 ((W3_13).heap[w.heap.size]? = some (.cells #[.int .i64 0, .string ⟨#[]⟩, .slice none 0 0, .slice none 0 0] 78 (0, 0))) := ⟨hF.2.1⟩
            have HRow : Aside0 ((W3_13).heap[b3]? = some (.cells strs8 9 (0, 0))) := ⟨hF.2.2.1⟩
            have HR1 : Aside0 (Kd.R (Kd.int .u8) 5 W3_13 w.heap.size (fun _ => True) (.slice A13 (idB x1).length c13) (idB x1)) := ⟨hF.2.2.2⟩
            have hHeld : True := trivial
            clear hF
            refine norm_ (a' := ?_) ?_ ?_
            rotate_left
            · simp only [putAll, Act.put, List.setIfInBounds_toArray, List.set_cons_zero, List.set_cons_succ]
              rfl
            refine two_ (i := 8) (j := 17) (Ni := some 11) (Nj := some 20) #[true, true, true, true, true, true, true, true, true, true, true, true, true, true, true, true, true, false, false, false] #[true, true, true, true, true, true, true, true, false, true, true, true, true, true, true, true, true, true, false, false] rfl rfl rfl rfl (by kernel_rfl) (by decide) (by decide) (fun K hK => ?_) (fun K hK => ?_)
            · skip
              have hm_ := (blk_cell HRow.out m).trans (strs8_get m HM.out)
              refine value_ (w1 := ?_) (v := ?_) (by rfl) rfl ?_ ?_
              rotate_left 2
              · go_simp
                constructor
                · rfl
                · rfl
              have HB' := Aside0.mk (HB.out)
              have HRes' := Aside0.mk (HRes.out)
              have HR1' := Aside0.mk (HR1.out)
              refine hK.out _ _ trivial (fun hHeld => ?_)
              clear hK K
              refine norm_ (a' := ?_) ?_ ?_
              rotate_left
              · show Act.put _ (some 11) _ = _
                simp only [Act.put, List.setIfInBounds_toArray, List.set_cons_zero, List.set_cons_succ, i64_w, i32_w]
                rfl
              exact norm_ (by first | (simp only [putAll, Act.put, List.setIfInBounds_toArray, List.set_cons_zero, List.set_cons_succ]; done) | (simp only [putAll, Act.put, List.setIfInBounds_toArray, List.set_cons_zero, List.set_cons_succ]; rfl)) (hJ3_8_13 (b3, A13, c13) _ ⟨HB'.out, HRes'.out, HR1'.out⟩)
            · skip
              refine goes_ Tryd.func113 (by kernel_rfl) rfl #[.int .u8 (x2 : Int)] (by rfl) rfl rfl (by simp only [List.map_toArray, List.map_cons, List.map_nil]; rfl) ?_
              with_reducible refine (identifier_calls x2 HX2.out _).mono ?_
              rintro e W2 ⟨v2, rfl, hR, hB⟩
              obtain ⟨A17, c17, rfl⟩ := Kd.R_slice hR
              have HB' := Aside0.mk (below_step HB.out hB)
              have HRes' := Aside0.mk ((hB.block _ (blk_lt HRes.out)).trans HRes.out)
              have HRow' := Aside0.mk ((hB.block _ (blk_lt HRow.out)).trans HRow.out)
              have HR1' := Aside0.mk (Kd.R_below HR1.out hB)
              have HR2' := Aside0.mk (Kd.R_lower hR HB.out.size)
              clear hR hB
              refine ⟨_, rfl, ?_⟩
              refine hK.out _ _ trivial (fun hHeld => ?_)
              clear hK K
              refine norm_ (a' := ?_) ?_ ?_
              rotate_left
              · show Act.put _ (some 20) _ = _
                simp only [Act.put, List.setIfInBounds_toArray, List.set_cons_zero, List.set_cons_succ, i64_w, i32_w]
                rfl
              exact norm_ (by first | (simp only [putAll, Act.put, List.setIfInBounds_toArray, List.set_cons_zero, List.set_cons_succ]; done) | (simp only [putAll, Act.put, List.setIfInBounds_toArray, List.set_cons_zero, List.set_cons_succ]; rfl)) (hJ3_13_17 (b3, A13, c13, A17, c17) _ ⟨HB'.out, HRes'.out, HRow'.out, HR1'.out, HR2'.out⟩)
        · skip
          rintro b3 W3_8 hF
          have HB : Aside0 (Below w.heap.size w W3_8) := ⟨hF.1⟩
          have HRes : Aside0 ((W3_8).heap[w.heap.size]? = some (.cells #[.int .i64 0, .string ⟨#[]⟩, .slice none 0 0, .slice none 0 0] 78 (0, 0))) := ⟨hF.2⟩
          have hHeld : True := trivial
          clear hF
          refine norm_ (a' := ?_) ?_ ?_
          rotate_left
          · simp only [putAll, Act.put, List.setIfInBounds_toArray, List.set_cons_zero, List.set_cons_succ]
            rfl
          refine one_ (i := 13) (N := some 16) #[true, true, true, true, true, true, true, true, true, true, true, true, true, true, true, true, true, false, false, false] rfl rfl (by kernel_rfl) (by decide) (fun K hK => ?_)
          refine goes_ Tryd.func113 (by kernel_rfl) rfl #[.int .u8 (x1 : Int)] (by rfl) rfl rfl (by simp only [List.map_toArray, List.map_cons, List.map_nil]; rfl) ?_
          with_reducible refine (identifier_calls x1 HX1.out _).mono ?_
          rintro e W2 ⟨v2, rfl, hR, hB⟩
          obtain ⟨A13, c13, rfl⟩ := Kd.R_slice hR
          have HB' := Aside0.mk (below_step HB.out hB)
          have HRes' := Aside0.mk ((hB.block _ (blk_lt HRes.out)).trans HRes.out)
          have HR1' := Aside0.mk (Kd.R_lower hR HB.out.size)
          clear hR hB
          refine ⟨_, rfl, ?_⟩
          refine hK.out _ _ trivial (fun hHeld => ?_)
          clear hK K
          refine norm_ (a' := ?_) ?_ ?_
          rotate_left
          · show Act.put _ (some 16) _ = _
            simp only [Act.put, List.setIfInBounds_toArray, List.set_cons_zero, List.set_cons_succ, i64_w, i32_w]
            rfl
          exact norm_ (by first | (simp only [putAll, Act.put, List.setIfInBounds_toArray, List.set_cons_zero, List.set_cons_succ]; done) | (simp only [putAll, Act.put, List.setIfInBounds_toArray, List.set_cons_zero, List.set_cons_succ]; rfl)) (hJ3_8_13 (b3, A13, c13) _ ⟨HB'.out, HRes'.out, HR1'.out⟩)
      · skip
        rintro ⟨b3, A13, c13, A17, c17⟩ W3_13_17 hF
        have HB : Aside0 (Below w.heap.size w W3_13_17) := ⟨hF.1⟩
        have HRes : Aside0 ((W3_13_17).heap[w.heap.size]? = some (.cells #[.int .i64 0, .string ⟨#[]⟩, .slice none 0 0, .slice none 0 0] 78 (0, 0))) := ⟨hF.2.1⟩
        have HRow : Aside0 ((W3_13_17).heap[b3]? = some (.cells strs8 9 (0, 0))) := ⟨hF.2.2.1⟩
        have HR1 : Aside0 (Kd.R (Kd.int .u8) 5 W3_13_17 w.heap.size (fun _ => True) (.slice A13 (idB x1).length c13) (idB x1)) := ⟨hF.2.2.2.1⟩
        have HR2 : Aside0 (Kd.R (Kd.int .u8) 5 W3_13_17 w.heap.size (fun _ => True) (.slice A17 (idB x2).length c17) (idB x2)) := ⟨hF.2.2.2.2⟩
        have hHeld : True := trivial
        clear hF
        refine norm_ (a' := ?_) ?_ ?_
        rotate_left
        · simp only [putAll, Act.put, List.setIfInBounds_toArray, List.set_cons_zero, List.set_cons_succ]
          rfl
        refine one_ (i := 8) (N := some 11) #[true, true, true, true, true, true, true, true, true, true, true, true, true, true, true, true, true, true, false, false] rfl rfl (by kernel_rfl) (by decide) (fun K hK => ?_)
        have hm_ := (blk_cell HRow.out m).trans (strs8_get m HM.out)
        refine value_ (w1 := ?_) (v := ?_) (by rfl) rfl ?_ ?_
        rotate_left 2
        · go_simp
          constructor
          · rfl
          · rfl
        have HB' := Aside0.mk (HB.out)
        have HRes' := Aside0.mk (HRes.out)
        have HR1' := Aside0.mk (HR1.out)
        have HR2' := Aside0.mk (HR2.out)
        refine hK.out _ _ trivial (fun hHeld => ?_)
        clear hK K
        refine norm_ (a' := ?_) ?_ ?_
        rotate_left
        · show Act.put _ (some 11) _ = _
          simp only [Act.put, List.setIfInBounds_toArray, List.set_cons_zero, List.set_cons_succ, i64_w, i32_w]
          rfl
        exact norm_ (by first | (simp only [putAll, Act.put, List.setIfInBounds_toArray, List.set_cons_zero, List.set_cons_succ]; done) | (simp only [putAll, Act.put, List.setIfInBounds_toArray, List.set_cons_zero, List.set_cons_succ]; rfl)) (hJ3_8_13_17 (b3, A13, c13, A17, c17) _ ⟨HB'.out, HRes'.out, HR1'.out, HR2'.out⟩)
    · skip
      rintro ⟨b3, A13, c13⟩ W3_8_13 hF
      have HB : Aside0 (Below w.heap.size w W3_8_13) := ⟨hF.1⟩
      have HRes : Aside0 ((W3_8_13).heap[w.heap.size]? = some (.cells #[.int .i64 0, .string ⟨#[]⟩, .slice none 0 0, .slice none 0 0] 78 (0, 0))) := ⟨hF.2.1⟩
      have HR1 : Aside0 (Kd.R (Kd.int .u8) 5 W3_8_13 w.heap.size (fun _ => True) (.slice A13 (idB x1).length c13) (idB x1)) := ⟨hF.2.2⟩
      have hHeld : True := trivial
      clear hF
      refine norm_ (a' := ?_) ?_ ?_
      rotate_left
      · simp only [putAll, Act.put, List.setIfInBounds_toArray, List.set_cons_zero, List.set_cons_succ]
        rfl
      refine one_ (i := 17) (N := some 20) #[true, true, true, true, true, true, true, true, true, true, true, true, true, true, true, true, true, true, false, false] rfl rfl (by kernel_rfl) (by decide) (fun K hK => ?_)
      refine goes_ Tryd.func113 (by kernel_rfl) rfl #[.int .u8 (x2 : Int)] (by rfl) rfl rfl (by simp only [List.map_toArray, List.map_cons, List.map_nil]; rfl) ?_
      with_reducible refine (identifier_calls x2 HX2.out _).mono ?_
      rintro e W2 ⟨v2, rfl, hR, hB⟩
      obtain ⟨A17, c17, rfl⟩ := Kd.R_slice hR
      have HB' := Aside0.mk (below_step HB.out hB)
      have HRes' := Aside0.mk ((hB.block _ (blk_lt HRes.out)).trans HRes.out)
      have HR1' := Aside0.mk (Kd.R_below HR1.out hB)
      have HR2' := Aside0.mk (Kd.R_lower hR HB.out.size)
      clear hR hB
      refine ⟨_, rfl, ?_⟩
      refine hK.out _ _ trivial (fun hHeld => ?_)
      clear hK K
      refine norm_ (a' := ?_) ?_ ?_
      rotate_left
      · show Act.put _ (some 20) _ = _
        simp only [Act.put, List.setIfInBounds_toArray, List.set_cons_zero, List.set_cons_succ, i64_w, i32_w]
        rfl
      exact norm_ (by first | (simp only [putAll, Act.put, List.setIfInBounds_toArray, List.set_cons_zero, List.set_cons_succ]; done) | (simp only [putAll, Act.put, List.setIfInBounds_toArray, List.set_cons_zero, List.set_cons_succ]; rfl)) (hJ3_8_13_17 (b3, A13, c13, A17, c17) _ ⟨HB'.out, HRes'.out, HR1'.out, HR2'.out⟩)
  rintro ⟨b3, A13, c13, A17, c17⟩ W3_8_13_17 hF
  have HB : Aside0 (Below w.heap.size w W3_8_13_17) := ⟨hF.1⟩
  have HRes : Aside0 ((W3_8_13_17).heap[w.heap.size]? = some (.cells #[.int .i64 0, .string ⟨#[]⟩, .slice none 0 0, .slice none 0 0] 78 (0, 0))) := ⟨hF.2.1⟩
  have HR1 : Aside0 (Kd.R (Kd.int .u8) 5 W3_8_13_17 w.heap.size (fun _ => True) (.slice A13 (idB x1).length c13) (idB x1)) := ⟨hF.2.2.1⟩
  have HR2 : Aside0 (Kd.R (Kd.int .u8) 5 W3_8_13_17 w.heap.size (fun _ => True) (.slice A17 (idB x2).length c17) (idB x2)) := ⟨hF.2.2.2⟩
  have hHeld : True := trivial
  clear hF
  have hq0 := (blk_cell HRes.out 0).trans rfl
  have hq1 := (blk_cell HRes.out 1).trans rfl
  have hq2 := (blk_cell HRes.out 2).trans rfl
  have hq3 := (blk_cell HRes.out 3).trans rfl
  have hqf := blk_frozen HRes.out
  refine norm_ (a' := ?_) ?_ ?_
  rotate_left
  · simp only [putAll, Act.put, List.setIfInBounds_toArray, List.set_cons_zero, List.set_cons_succ]
    rfl
  refine pure_ (i := 18) (N := some 21) (v := ?_) (a' := ?_) #[true, true, true, true, true, true, true, true, true, true, true, true, true, true, true, true, true, true, true, false] rfl rfl (by kernel_rfl) (fun _ _ _ h => h) (Or.inl ⟨by rfl, ?_⟩) ?_ ?_
  rotate_left
  · intro w'
    go_simp
    with_reducible rfl
  rotate_left
  · simp only [Act.put, List.setIfInBounds_toArray, List.set_cons_zero, List.set_cons_succ, i64_w, i32_w]
    rfl
  refine last_ (i := 19) (N := none) #[true, true, true, true, true, true, true, true, true, true, true, true, true, true, true, true, true, true, true, true] rfl rfl (by kernel_rfl) (by decide) (fun K hK => ?_)
  refine skip_ (w1 := ?_) (by rfl) rfl ?_ ?_
  rotate_left
  · go_simp
    rfl
  refine hK.out _ _ ?_
  clear hK K
  refine done_ (by kernel_rfl) ?_
  have hlt := blk_lt HRes.out
  have hb0 := set4_blk HRes.out (.int .i64 (t : Int)) (.string (pathB m)) (.slice A13 (idB x1).length c13) (.slice A17 (idB x2).length c17)
  rw [ftw]
  go_wp2_with fail
  refine bodyPost_ret (results_cell_row rfl _ _ w.heap.size 78 #[.int .i64 (t : Int), .string (pathB m), .slice A13 (idB x1).length c13, .slice A17 (idB x2).length c17] (0, 0) _ rfl hb0 Tryd.underlying78 rfl (by kernel_rfl)) rfl ?_
  exact ⟨_, _, rfl, Kd.R_set4 HR1.out HRes.out (by decide) _ _ _ _, Kd.R_set4 HR2.out HRes.out (by decide) _ _ _ _, set4_below HB.out (Nat.le_refl _) _ _ _ _⟩
end Go.Proofs.YtnhnlodmkbiiiaaDoor.HandDif
