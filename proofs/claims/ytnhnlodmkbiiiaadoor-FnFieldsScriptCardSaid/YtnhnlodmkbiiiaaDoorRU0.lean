/- The message that is filled as bytes are read, in memory; the rounds of a varint's reading. -/
import Derived.Test.YtnhnlodmkbiiiaaDoorRF0
namespace Go.Proofs.YtnhnlodmkbiiiaaDoor.HandFields
open Go Go.RowKit Go.Proofs.YtnhnlodmkbiiiaaDoorL Go.Proofs.YtnhnlodmkbiiiaaDoorW.PrintWords Go.Proofs.YtnhnlodmkbiiiaaDoorW.PrintLast Go.Proofs.YtnhnlodmkbiiiaaDoorW.PrintMore Go.Proofs.YtnhnlodmkbiiiaaDoor.PFieldsBase
attribute [local go_sem] max2_int min2_int max_two min_two max_three min_three max_four min_four
set_option linter.unusedVariables false
set_option linter.unusedSimpArgs false
theorem uvF_get : ∀ (k v j : Nat), v < 128 ^ (k + 1) → (j = 0 ∨ 128 ^ j ≤ v) → (uvF k v)[j]? = some ((v / 128 ^ j % 128 + (if v / 128 ^ j < 128 then 0 else 128) : Nat) : Int)
 | 0, v, j, hv, hj => by
  have h0 : j = 0 := by
   rcases hj with h | h
   ·exact h
   ·match j, h with
    | 0, _ => rfl
    | j + 1, h =>
     have : 128 ^ 1 ≤ 128 ^ (j + 1) := Nat.pow_le_pow_right (by decide) (by omega)
     omega
  subst h0
  simp only [Nat.pow_zero, Nat.div_one, Nat.zero_add, Nat.pow_one] at hv ⊢
  rw [if_pos hv, Nat.mod_eq_of_lt hv]
  rfl
 | k + 1, v, j, hv, hj => by
  unfold uvF
  by_cases h : v < 128
  ·have h0 : j = 0 := by
    rcases hj with h' | h'
    ·exact h'
    ·match j, h' with
     | 0, _ => rfl
     | j + 1, h' =>
      have : 128 ^ 1 ≤ 128 ^ (j + 1) := Nat.pow_le_pow_right (by decide) (by omega)
      omega
   subst h0
   rw [if_pos h, Nat.pow_zero, Nat.div_one, if_pos h, Nat.mod_eq_of_lt h]
   rfl
  ·rw [if_neg h]
   match j with
   | 0 => rw [Nat.pow_zero, Nat.div_one, if_neg h]; rfl
   | j + 1 =>
    have hj' : j = 0 ∨ 128 ^ j ≤ v / 128 := by
     rcases hj with h' | h'
     ·omega
     ·right
      rw [Nat.le_div_iff_mul_le (by decide), ← Nat.pow_succ]
      exact h'
    rw [List.getElem?_cons_succ, uvF_get k (v / 128) j (by rw [Nat.div_lt_iff_lt_mul (by decide), ← Nat.pow_succ]; exact hv) hj', Nat.div_div_eq_div_mul, ← Nat.pow_succ']
theorem uvF_end : ∀ (k v j : Nat), v < 128 ^ (k + 1) → (j = 0 ∨ 128 ^ j ≤ v) → v / 128 ^ j < 128 → (uvF k v).length = j + 1
 | 0, v, j, hv, hj, _ => by
  have h0 : j = 0 := by
   rcases hj with h | h
   ·exact h
   ·match j, h with
    | 0, _ => rfl
    | j + 1, h =>
     have : 128 ^ 1 ≤ 128 ^ (j + 1) := Nat.pow_le_pow_right (by decide) (by omega)
     omega
  subst h0; rfl
 | k + 1, v, j, hv, hj, hl => by
  unfold uvF
  by_cases h : v < 128
  ·have h0 : j = 0 := by
    rcases hj with h' | h'
    ·exact h'
    ·match j, h' with
     | 0, _ => rfl
     | j + 1, h' =>
      have : 128 ^ 1 ≤ 128 ^ (j + 1) := Nat.pow_le_pow_right (by decide) (by omega)
      omega
   subst h0
   rw [if_pos h]; rfl
  ·rw [if_neg h]
   match j with
   | 0 => rw [Nat.pow_zero, Nat.div_one] at hl; omega
   | j + 1 =>
    have hj' : j = 0 ∨ 128 ^ j ≤ v / 128 := by
     rcases hj with h' | h'
     ·omega
     ·right
      rw [Nat.le_div_iff_mul_le (by decide), ← Nat.pow_succ]
      exact h'
    rw [List.length_cons, uvF_end k (v / 128) j (by rw [Nat.div_lt_iff_lt_mul (by decide), ← Nat.pow_succ]; exact hv) hj' (by rw [Nat.div_div_eq_div_mul, ← Nat.pow_succ']; exact hl)]
/-- A byte of a number that stands at place i. -/
theorem var_byte {xs : List Int} {i v : Nat} {rest : List Int} (h : xs.drop i = uv v ++ rest) (hv : v < 2 ^ 64) {j : Nat} (hj : j = 0 ∨ 128 ^ j ≤ v) :
  i + j < xs.length ∧ rd xs ((i + j : Nat) : Int) = ((v / 128 ^ j % 128 + (if v / 128 ^ j < 128 then 0 else 128) : Nat) : Int) := by
 have h1 := uvF_get 10 v j (Nat.lt_of_lt_of_le hv (by decide)) hj
 have hl : j < (uv v).length := (List.getElem?_eq_some_iff.1 h1).1
 have h2 : xs[i + j]? = (uv v)[j]? := by
  rw [← List.getElem?_drop, h, List.getElem?_append_left hl]
 have h3 : xs[i + j]? = some ((v / 128 ^ j % 128 + (if v / 128 ^ j < 128 then 0 else 128) : Nat) : Int) := h2.trans h1
 refine ⟨(List.getElem?_eq_some_iff.1 h3).1, ?_⟩
 unfold rd
 rw [Int.toNat_natCast, List.getD_eq_getElem?_getD, h3]
 rfl
/-- The facts of one round: c the byte, a what stands already, b what stands then. -/
theorem var_round {v j : Nat} (hv : v < 2 ^ 64) (hj : j = 0 ∨ 128 ^ j ≤ v) : j ≤ 9 ∧ v % 128 ^ j < 2 ^ (7 * j) ∧ v / 128 ^ j % 128 * 2 ^ (7 * j) ≤ v ∧ v % 128 ^ (j + 1) = v % 128 ^ j + v / 128 ^ j % 128 * 2 ^ (7 * j) := by
 have h128 : 128 ^ j = 2 ^ (7 * j) := by rw [show (128 : Nat) = 2 ^ 7 from rfl, ← Nat.pow_mul]
 have hp : 0 < 128 ^ j := Nat.pow_pos (by decide)
 refine ⟨?_, ?_, ?_, ?_⟩
 ·rcases hj with h | h
  ·omega
  ·rcases Nat.lt_or_ge 9 j with h9 | h9
   ·have : 128 ^ 10 ≤ 128 ^ j := Nat.pow_le_pow_right (by decide) h9
    have h3 : (2 : Nat) ^ 64 ≤ 128 ^ 10 := by decide
    omega
   ·exact h9
 ·rw [← h128]; exact Nat.mod_lt _ hp
 ·rw [← h128]
  have h1 : v / 128 ^ j % 128 ≤ v / 128 ^ j := Nat.mod_le _ _
  exact Nat.le_trans (Nat.mul_le_mul_right _ h1) (Nat.div_mul_le_self _ _)
 ·rw [← h128, Nat.pow_succ, Nat.mod_mul, Nat.mul_comm (v / 128 ^ j % 128)]
theorem var_end {v j : Nat} (h : v / 128 ^ j < 128) : v % 128 ^ (j + 1) = v := by
 apply Nat.mod_eq_of_lt
 rw [Nat.div_lt_iff_lt_mul (Nat.pow_pos (by decide))] at h
 rw [Nat.pow_succ, Nat.mul_comm]
 exact h
theorem var_more {v j : Nat} (h : ¬ v / 128 ^ j < 128) : 128 ^ (j + 1) ≤ v := by
 rw [Nat.div_lt_iff_lt_mul (Nat.pow_pos (by decide))] at h
 rw [Nat.pow_succ, Nat.mul_comm]
 omega
/-- The words of one round of a number's reading, in a kind that holds it. -/
theorem var_words (K : IntKind) (b : Nat) (hb : b ≤ K.bits) (hb8 : 8 ≤ b) (hb64 : b ≤ 64) (hk : ∀ n : Int, 0 ≤ n → n < 2 ^ b → K.wrap n = n) {v j c : Nat} (hv : v < 2 ^ b) (hj : j = 0 ∨ 128 ^ j ≤ v) (hc : c = v / 128 ^ j % 128 + (if v / 128 ^ j < 128 then 0 else 128)) :
  Go.bits .and .u8 (c : Int) 127 = ((v / 128 ^ j % 128 : Nat) : Int) ∧ K.wrap ((v / 128 ^ j % 128 : Nat) : Int) = ((v / 128 ^ j % 128 : Nat) : Int) ∧
  K.wrap (((v / 128 ^ j % 128 : Nat) : Int) * 2 ^ (((7 * j : Nat) : Int)).toNat) = ((v / 128 ^ j % 128 * 2 ^ (7 * j) : Nat) : Int) ∧
  Go.bits .or K ((v % 128 ^ j : Nat) : Int) ((v / 128 ^ j % 128 * 2 ^ (7 * j) : Nat) : Int) = ((v % 128 ^ (j + 1) : Nat) : Int) := by
 have hp : (2 : Nat) ^ b ≤ 2 ^ 64 := Nat.pow_le_pow_right (by decide) hb64
 obtain ⟨_, r2, r3, r4⟩ := var_round (Nat.lt_of_lt_of_le hv hp) hj
 have hm : v / 128 ^ j % 128 < 128 := Nat.mod_lt _ (by decide)
 have hc8 : c < 256 := by rw [hc]; split <;> omega
 have h8 : (2 : Nat) ^ 8 ≤ 2 ^ b := Nat.pow_le_pow_right (by decide) hb8
 have hwn : ∀ x : Nat, x < 2 ^ b → K.wrap (x : Int) = (x : Int) := fun x hx => hk _ (by omega) (by exact_mod_cast hx)
 refine ⟨?_, hwn _ (by omega), ?_, ?_⟩
 ·have h1 := bits_mask .u8 8 (by decide) wraps_u8 7 (by decide) (c : Int) (by omega) (by exact_mod_cast hc8)
  have h2 : Go.bits .and .u8 (c : Int) 127 = (c : Int) % 128 := by simpa using h1
  rw [h2, hc]
  split <;> omega
 ·rw [Int.toNat_natCast]
  have h1 := hwn (v / 128 ^ j % 128 * 2 ^ (7 * j)) (by omega)
  rw [← h1]
  congr 1
 ·have h1 := (bits_nat K b hb hk (v % 128 ^ j) (v / 128 ^ j % 128 * 2 ^ (7 * j)) (by have := Nat.mod_le v (128 ^ j); omega) (by omega)).2
  rw [h1, r4]
  congr 1
  rw [Nat.or_comm, Nat.mul_comm, ← Nat.two_pow_add_eq_or_of_lt r2, Nat.mul_comm, Nat.add_comm]
theorem words_i32 (n : Int) (h0 : 0 ≤ n) (h1 : n < 2 ^ 31) : IntKind.i32.wrap n = n := by unfold IntKind.wrap; simp [IntKind.bits, IntKind.signed]; omega
theorem words_u64 (n : Int) (h0 : 0 ≤ n) (h1 : n < 2 ^ 64) : IntKind.u64.wrap n = n := by unfold IntKind.wrap; simp [IntKind.bits, IntKind.signed]; omega
theorem words_i64 (n : Int) (h0 : 0 ≤ n) (h1 : n < 2 ^ 63) : IntKind.i64.wrap n = n := by unfold IntKind.wrap; simp [IntKind.bits, IntKind.signed]; omega
/-- What is read, or what remains to be read. -/
structure Pd where
 ty : Option Nat
 data : Option (List Int)
 size : Option Nat
 blocks : List Int
def tyF : Option Nat → List Int
 | none => []
 | some v => 8 :: uv v
def encq (q : Pd) : List Int := tyF q.ty ++ (dataF q.data ++ (sizeF q.size ++ blkF q.blocks))
/-- The message that is filled, in memory. -/
structure Um (w0 W : World) (g b5 N : Nat) (t : TypeId) (e : Pd) (c0 c1 c2 c3 : Value) : Prop where
 blk : W.heap[g]? = some (.cells #[c0, c1, c2, c3, .pointer none, .pointer none, .slice none 0 0, .int .i32 0] t (0, 0))
 bit : W.heap[b5]? = some (.cells #[.int .u64 (if e.ty = none then 0 else 1)] 184 (0, 0))
 gge : w0.heap.size ≤ g
 bge : w0.heap.size ≤ b5
 gN : g < N
 bN : b5 < N
 gb : g ≠ b5
 NW : N ≤ W.heap.size
 below : Below w0.heap.size w0 W
 ty0 : e.ty = none → c0 = .pointer none
 ty1 : ∀ v, e.ty = some v → ∃ p : Nat, c0 = .pointer (some ⟨p, 0, none⟩) ∧ W.heap[p]? = some (.cells #[.int .i32 (v : Int)] 121 (0, 0)) ∧ w0.heap.size ≤ p ∧ p < N ∧ p ≠ g ∧ p ≠ b5
 data0 : e.data = none → c1 = .slice none 0 0
 data1 : ∀ xs, e.data = some xs → ∃ A c, c1 = .slice (some A) xs.length c ∧ xs.length ≤ c ∧ Kd.R (Kd.int .u8) 5 W w0.heap.size (fun k => k < N ∧ k ≠ g ∧ k ≠ b5) c1 xs
 size0 : e.size = none → c2 = .pointer none
 size1 : ∀ v, e.size = some v → ∃ p : Nat, c2 = .pointer (some ⟨p, 0, none⟩) ∧ W.heap[p]? = some (.cells #[.int .u64 (v : Int)] 24 (0, 0)) ∧ w0.heap.size ≤ p ∧ p < N ∧ p ≠ g ∧ p ≠ b5
 blks : Kd.R (Kd.int .u64) 24 W w0.heap.size (fun k => N ≤ k) c3 e.blocks
 blks0 : e.blocks = [] → c3 = .slice none 0 0
/-- What is read and what remains make the message. -/
structure Pair (d : Dat) (e q : Pd) : Prop where
 ty : (q.ty = none ∧ e.ty = some d.ty) ∨ (q.ty = some d.ty ∧ e.ty = none)
 data : (q.data = none ∧ e.data = d.data) ∨ (q.data = d.data ∧ e.data = none)
 size : (q.size = none ∧ e.size = d.size) ∨ (q.size = d.size ∧ e.size = none)
 blocks : d.blocks = e.blocks ++ q.blocks
 first : e.blocks = [] ∨ (q.ty = none ∧ q.data = none ∧ q.size = none)
theorem um_start (w0 w : World) (g : Nat) (t : TypeId) (hblk : w.heap[g]? = some (.cells #[.pointer none, .slice none 0 0, .pointer none, .slice none 0 0, .pointer none, .pointer none, .slice none 0 0, .int .i32 0] t (0, 0))) (hge : w0.heap.size ≤ g) (hb : Below w0.heap.size w0 w) :
  Um w0 (w.alloc (.cells #[.int .u64 0] 184)) g w.heap.size (w.heap.size + 1) t ⟨none, none, none, []⟩ (.pointer none) (.slice none 0 0) (.pointer none) (.slice none 0 0) := by
 have hg := blk_lt hblk
 refine ⟨blk_alloc hblk _, blk_new w _, hge, hb.size, by omega, by omega, by omega, by rw [show (w.alloc (.cells #[.int .u64 0] 184)).heap.size = w.heap.size + 1 from Array.size_push ..]; exact Nat.le_refl _, below_alloc hb _, fun _ => rfl, fun v h => (by cases h), fun _ => rfl, fun v h => (by cases h), fun _ => rfl, fun v h => (by cases h), ?_, ?_⟩
 ·exact ⟨fun k hk => by simp [Value.ownBlock] at hk, [], ⟨rfl, .inl ⟨rfl, rfl⟩⟩, by constructor <;> simp⟩
 ·exact fun _ => rfl
def q0 (d : Dat) : Pd := ⟨some d.ty, d.data, d.size, d.blocks⟩
theorem encq0 (d : Dat) : encq (q0 d) = marsh d := rfl
theorem pair0 (d : Dat) : Pair d ⟨none, none, none, []⟩ (q0 d) := ⟨.inr ⟨rfl, rfl⟩, .inr ⟨rfl, rfl⟩, .inr ⟨rfl, rfl⟩, rfl, .inl rfl⟩
def UR (w0 : World) (g b5 : Nat) (t : TypeId) (d : Dat) (kq : Nat) (i : Int) (w' : World) : Prop := ∃ (k : Nat) (e q : Pd) (N : Nat) (c0 c1 c2 c3 : Value), i = k ∧ (marsh d).drop k = encq q ∧ kq = (encq q).length ∧ k + kq = (marsh d).length ∧ Pair d e q ∧ Um w0 w' g b5 N t e c0 c1 c2 c3
theorem ur_start {w0 w' : World} {g b5 N : Nat} {t : TypeId} {d : Dat} {c0 c1 c2 c3 : Value} (h : Um w0 w' g b5 N t ⟨none, none, none, []⟩ c0 c1 c2 c3) : UR w0 g b5 t d (marsh d).length 0 w' :=
 ⟨0, _, q0 d, N, c0, c1, c2, c3, rfl, by rw [encq0, List.drop_zero], by rw [encq0], by omega, pair0 d, h⟩
/-- All is read: the message stands in memory. -/
theorem um_done {w0 W : World} {g b5 N : Nat} {t : TypeId} {d : Dat} {e q : Pd} {c0 c1 c2 c3 : Value} (h : Um w0 W g b5 N t e c0 c1 c2 c3) (hp : Pair d e q) (h0 : q.ty = none) (h1 : q.data = none) (h2 : q.size = none) (h3 : q.blocks = []) : ∃ p1, RdDat W g d p1 c1 c2 c3 t := by
 have e0 : e.ty = some d.ty := hp.ty.elim (fun h => h.2) (fun h => by have := h.1; rw [h0] at this; cases this)
 have e1 : e.data = d.data := hp.data.elim (fun h => h.2) (fun h => by rw [h.2, ← h.1, h1])
 have e2 : e.size = d.size := hp.size.elim (fun h => h.2) (fun h => by rw [h.2, ← h.1, h2])
 have e3 : e.blocks = d.blocks := by rw [hp.blocks, h3, List.append_nil]
 obtain ⟨p, hc0, hp1, _⟩ := h.ty1 _ e0
 refine ⟨p, ?_, blk_cell hp1 0, fun h4 => h.data0 (e1.trans h4), fun xs h4 => ?_, fun h4 => h.size0 (e2.trans h4), fun m h4 => ?_, ?_⟩
 ·rw [← hc0]; exact h.blk
 ·obtain ⟨A, c, hc, hl, hR⟩ := h.data1 xs (e1.trans h4)
  refine ⟨A, c, hc, hl, ?_⟩
  rw [hc] at hR
  exact (Kd.R_reads' hR).2.2
 ·obtain ⟨s, hs, hb, _⟩ := h.size1 m (e2.trans h4)
  exact ⟨s, hs, blk_cell hb 0⟩
 ·have hR := h.blks
  rw [e3] at hR
  obtain ⟨A, c, hc⟩ := Kd.R_slice hR
  rw [hc] at hR
  exact ⟨A, c, hc, (Kd.R_reads' hR).2.1, (Kd.R_reads' hR).2.2⟩
/-- What a step keeps: all but the blocks g and b5 of what lay below M. -/
structure Stp (w0 W W' : World) (g b5 M : Nat) : Prop where
 size : W.heap.size ≤ W'.heap.size
 keep : ∀ k, k < M → k ≠ g → k ≠ b5 → W'.heap[k]? = W.heap[k]?
 below : Below w0.heap.size w0 W'
section
variable {w0 W W' : World} {g b5 N N' : Nat} {t : TypeId} {e : Pd} {c0 c1 c2 c3 : Value}
theorem Um.sty (h : Um w0 W g b5 N t e c0 c1 c2 c3) {M : Nat} (hs : Stp w0 W W' g b5 M) (hM : N ≤ M) (hN : N ≤ N') : ∀ v, e.ty = some v → ∃ p : Nat, c0 = .pointer (some ⟨p, 0, none⟩) ∧ W'.heap[p]? = some (.cells #[.int .i32 (v : Int)] 121 (0, 0)) ∧ w0.heap.size ≤ p ∧ p < N' ∧ p ≠ g ∧ p ≠ b5 := by
 intro v hv
 obtain ⟨p, h1, h2, h3, h4, h5, h6⟩ := h.ty1 v hv
 exact ⟨p, h1, (hs.keep p (by omega) h5 h6).trans h2, h3, by omega, h5, h6⟩
theorem Um.ssize (h : Um w0 W g b5 N t e c0 c1 c2 c3) {M : Nat} (hs : Stp w0 W W' g b5 M) (hM : N ≤ M) (hN : N ≤ N') : ∀ v, e.size = some v → ∃ p : Nat, c2 = .pointer (some ⟨p, 0, none⟩) ∧ W'.heap[p]? = some (.cells #[.int .u64 (v : Int)] 24 (0, 0)) ∧ w0.heap.size ≤ p ∧ p < N' ∧ p ≠ g ∧ p ≠ b5 := by
 intro v hv
 obtain ⟨p, h1, h2, h3, h4, h5, h6⟩ := h.size1 v hv
 exact ⟨p, h1, (hs.keep p (by omega) h5 h6).trans h2, h3, by omega, h5, h6⟩
theorem Um.sdata (h : Um w0 W g b5 N t e c0 c1 c2 c3) {M : Nat} (hs : Stp w0 W W' g b5 M) (hM : N ≤ M) (hN : N ≤ N') : ∀ xs, e.data = some xs → ∃ A c, c1 = .slice (some A) xs.length c ∧ xs.length ≤ c ∧ Kd.R (Kd.int .u8) 5 W' w0.heap.size (fun k => k < N' ∧ k ≠ g ∧ k ≠ b5) c1 xs := by
 intro xs hx
 obtain ⟨A, c, h1, h2, h3⟩ := h.data1 xs hx
 refine ⟨A, c, h1, h2, ?_⟩
 have h4 := Kd.R_step h3 (fun k ho hk => hs.keep k (by have := ho.1; omega) ho.2.1 ho.2.2)
 exact ⟨fun k hk => by have := h4.1 k hk; exact ⟨by omega, this.2⟩, h4.2⟩
theorem nil_blks {W : World} {ok : Nat → Prop} {base : Nat} : Kd.R (Kd.int .u64) 24 W base ok (.slice none 0 0) [] := ⟨fun k hk => by simp [Value.ownBlock] at hk, [], ⟨rfl, .inl ⟨rfl, rfl⟩⟩, by constructor <;> simp⟩
/-- A step that made new blocks only. -/
theorem stp_new (hb : Below w0.heap.size w0 W) (h : Below W.heap.size W W') : Stp w0 W W' g b5 W.heap.size := ⟨h.size, fun k hk _ _ => h.block k hk, below_then hb hb.size h⟩
theorem Stp.setg {M : Nat} (h : Stp w0 W W' g b5 M) (hg : w0.heap.size ≤ g) (i : Nat) (u : Value) : Stp w0 W (W'.setCell ⟨g, i, none⟩ u) g b5 M :=
 ⟨by simpa [World.setCell] using h.size, fun k hk hg' hb => (Below.heap_setCell W' ⟨g, i, none⟩ u k (by simpa using hg')).trans (h.keep k hk hg' hb), below_set h.below hg⟩
theorem Stp.setb {M : Nat} (h : Stp w0 W W' g b5 M) (hg : w0.heap.size ≤ b5) (i : Nat) (u : Value) : Stp w0 W (W'.setCell ⟨b5, i, none⟩ u) g b5 M :=
 ⟨by simpa [World.setCell] using h.size, fun k hk hg' hb => (Below.heap_setCell W' ⟨b5, i, none⟩ u k (by simpa using hb)).trans (h.keep k hk hg' hb), below_set h.below hg⟩
/-- The type is read. -/
theorem Um.rty (h : Um w0 W g b5 N t e c0 c1 c2 c3) (he : e.blocks = []) (hB : Below W.heap.size W W') (v : Nat) (hp : W'.heap[W.heap.size]? = some (.cells #[.int .i32 (v : Int)] 121 (0, 0))) :
  Um w0 ((W'.setCell ⟨g, 0, none⟩ (.pointer (some ⟨W.heap.size, 0, none⟩))).setCell ⟨b5, 0, none⟩ (.int .u64 1)) g b5 (W.heap.size + 1) t { e with ty := some v } (.pointer (some ⟨W.heap.size, 0, none⟩)) c1 c2 c3 := by
 have hlt := blk_lt hp
 have hgN := h.gN; have hbN := h.bN; have hNW := h.NW
 have hs := ((stp_new h.below hB).setg (g := g) (b5 := b5) h.gge 0 (.pointer (some ⟨W.heap.size, 0, none⟩))).setb h.bge 0 (.int .u64 1)
 have hc3 := h.blks0 he
 have hg1 : W'.heap[g]? = _ := (hB.block g (blk_lt h.blk)).trans h.blk
 have hb1 : W'.heap[b5]? = _ := (hB.block b5 (blk_lt h.bit)).trans h.bit
 refine ⟨?_, ?_, h.gge, h.bge, by omega, by omega, h.gb, ?_, hs.below, fun h0 => (by cases h0), fun v' hv' => ?_, h.data0, h.sdata hs hNW (by omega), h.size0, h.ssize hs hNW (by omega), ?_, h.blks0⟩
 ·exact blk_far (blk_put hg1 0 _ rfl) h.gb _
 ·rw [if_neg (by simp)]
  exact blk_put (blk_far hb1 (p := ⟨g, 0, none⟩) (fun e => h.gb e.symm) _) 0 _ rfl
 ·simp [World.setCell]; omega
 ·cases hv'
  exact ⟨W.heap.size, rfl, blk_far (blk_far hp (p := ⟨g, 0, none⟩) (fun e => by simp at e; omega) _) (p := ⟨b5, 0, none⟩) (fun e => by simp at e; omega) _, h.below.size, by omega, by omega, by omega⟩
 ·show Kd.R _ _ _ _ _ c3 e.blocks
  rw [he, hc3]; exact nil_blks
/-- The size is read. -/
theorem Um.rsize (h : Um w0 W g b5 N t e c0 c1 c2 c3) (he : e.blocks = []) (hB : Below W.heap.size W W') (v : Nat) (hp : W'.heap[W.heap.size]? = some (.cells #[.int .u64 (v : Int)] 24 (0, 0))) :
  Um w0 (W'.setCell ⟨g, 2, none⟩ (.pointer (some ⟨W.heap.size, 0, none⟩))) g b5 (W.heap.size + 1) t { e with size := some v } c0 c1 (.pointer (some ⟨W.heap.size, 0, none⟩)) c3 := by
 have hlt := blk_lt hp
 have hgN := h.gN; have hbN := h.bN; have hNW := h.NW
 have hs := (stp_new h.below hB).setg (g := g) (b5 := b5) h.gge 2 (.pointer (some ⟨W.heap.size, 0, none⟩))
 have hc3 := h.blks0 he
 have hg1 : W'.heap[g]? = _ := (hB.block g (blk_lt h.blk)).trans h.blk
 have hb1 : W'.heap[b5]? = _ := (hB.block b5 (blk_lt h.bit)).trans h.bit
 refine ⟨?_, ?_, h.gge, h.bge, by omega, by omega, h.gb, ?_, hs.below, h.ty0, h.sty hs hNW (by omega), h.data0, h.sdata hs hNW (by omega), fun h0 => (by cases h0), fun v' hv' => ?_, ?_, h.blks0⟩
 ·exact blk_put hg1 2 _ rfl
 ·exact blk_far hb1 (p := ⟨g, 2, none⟩) (fun e => h.gb e.symm) _
 ·simp [World.setCell]; omega
 ·cases hv'
  exact ⟨W.heap.size, rfl, blk_far hp (p := ⟨g, 2, none⟩) (fun e => by simp at e; omega) _, h.below.size, by omega, by omega, by omega⟩
 ·show Kd.R _ _ _ _ _ c3 e.blocks
  rw [he, hc3]; exact nil_blks
theorem ne_own {h : Um w0 W g b5 N t e c0 c1 c2 c3} (k : Nat) (hk : k < N) : some k ≠ c3.ownBlock := fun e' => by
 have := h.blks.1 k e'.symm
 omega
/-- A size of a part is read. -/
theorem Um.rblk (h : Um w0 W g b5 N t e c0 c1 c2 c3) {w1 : World} {v1 : Value} (b : Int) (hg : W.grownBy w1 c3.ownBlock) (hb : Below w0.heap.size w0 w1) (hR : Kd.R (Kd.int .u64) 24 w1 w0.heap.size (fun k => N ≤ k) v1 (e.blocks ++ [b])) :
  Um w0 (w1.setCell ⟨g, 3, none⟩ v1) g b5 N t { e with blocks := e.blocks ++ [b] } c0 c1 c2 v1 := by
 have hgN := h.gN; have hbN := h.bN; have hNW := h.NW
 have hs0 : Stp w0 W w1 g b5 N := ⟨hg.size, fun k hk _ _ => hg.block k (by omega) (ne_own (h := h) k hk), hb⟩
 have hs := hs0.setg h.gge 3 v1
 have hg1 : w1.heap[g]? = _ := (hg.block g (blk_lt h.blk) (ne_own (h := h) g h.gN)).trans h.blk
 have hb1 : w1.heap[b5]? = _ := (hg.block b5 (blk_lt h.bit) (ne_own (h := h) b5 h.bN)).trans h.bit
 refine ⟨?_, ?_, h.gge, h.bge, h.gN, h.bN, h.gb, ?_, hs.below, h.ty0, h.sty hs (Nat.le_refl _) (Nat.le_refl _), h.data0, h.sdata hs (Nat.le_refl _) (Nat.le_refl _), h.size0, h.ssize hs (Nat.le_refl _) (Nat.le_refl _), ?_, fun h0 => by simp at h0⟩
 ·exact blk_put hg1 3 _ rfl
 ·exact blk_far hb1 (p := ⟨g, 3, none⟩) (fun e => h.gb e.symm) _
 ·have := hg.size; simp [World.setCell]; omega
 ·exact Kd.R_step hR (fun k ho hk => Below.heap_setCell w1 ⟨g, 3, none⟩ v1 k (by simp; omega))
end
theorem uv_end {v j : Nat} (hv : v < 2 ^ 64) (hj : j = 0 ∨ 128 ^ j ≤ v) (hl : v / 128 ^ j < 128) : (uv v).length = j + 1 := uvF_end 10 v j (Nat.lt_of_lt_of_le hv (by decide)) hj hl
/-- A field with a number is read (key byte x, then v). -/
theorem drop_num {xs r : List Int} {k v j : Nat} {x : Int} (h : xs.drop k = x :: (uv v ++ r)) (hv : v < 2 ^ 64) (hj : j = 0 ∨ 128 ^ j ≤ v) (hl : v / 128 ^ j < 128) : xs.drop (k + 1 + (j + 1)) = r := by
 have h1 : xs.drop (k + 1) = uv v ++ r := by rw [← List.drop_drop, h]; rfl
 rw [show k + 1 + (j + 1) = (k + 1) + (uv v).length by rw [uv_end hv hj hl], ← List.drop_drop, h1, List.drop_left]
section
variable {w0 W : World} {g b5 N : Nat} {t : TypeId} {d : Dat} {e q : Pd} {c0 c1 c2 c3 : Value} {k v j : Nat} {x : Int}
theorem ur_ty (hP : Pair d e q) (hq : q.ty = some v) (hdr : (marsh d).drop k = encq q) (hkn : k + (encq q).length = (marsh d).length) (hv : v < 2 ^ 64) (hj : j = 0 ∨ 128 ^ j ≤ v) (hl : v / 128 ^ j < 128)
  (hU : Um w0 W g b5 N t { e with ty := some v } c0 c1 c2 c3) (hx : x = ((k + 1 + (j + 1) : Nat) : Int)) : UR w0 g b5 t d (encq { q with ty := none }).length x W ∧ (encq { q with ty := none }).length < (encq q).length := by
 have e1 : encq q = 8 :: (uv v ++ encq { q with ty := none }) := by unfold encq; rw [hq]; rfl
 have h1 := uv_end hv hj hl
 have h2 : (encq q).length = 1 + ((j + 1) + (encq { q with ty := none }).length) := by rw [e1, List.length_cons, List.length_append, h1]; omega
 rw [e1] at hdr
 have hvd : v = d.ty := hP.ty.elim (fun h => by have := h.1; rw [hq] at this; cases this) (fun h => by have := h.1; rw [hq] at this; exact Option.some.inj this)
 have heb : e.blocks = [] := hP.first.elim id (fun h => by have := h.1; rw [hq] at this; cases this)
 exact ⟨⟨_, { e with ty := some v }, { q with ty := none }, _, _, _, _, _, hx, drop_num hdr hv hj hl, rfl, by omega, ⟨.inl ⟨rfl, congrArg some hvd⟩, hP.data, hP.size, hP.blocks, .inl heb⟩, hU⟩, by omega⟩
theorem ur_size (hP : Pair d e q) (h0 : q.ty = none) (h1 : q.data = none) (hq : q.size = some v) (hdr : (marsh d).drop k = encq q) (hkn : k + (encq q).length = (marsh d).length) (hv : v < 2 ^ 64) (hj : j = 0 ∨ 128 ^ j ≤ v) (hl : v / 128 ^ j < 128)
  (hU : Um w0 W g b5 N t { e with size := some v } c0 c1 c2 c3) (hx : x = ((k + 1 + (j + 1) : Nat) : Int)) : UR w0 g b5 t d (encq { q with size := none }).length x W ∧ (encq { q with size := none }).length < (encq q).length := by
 have e1 : encq q = 24 :: (uv v ++ encq { q with size := none }) := by unfold encq; rw [h0, h1, hq]; rfl
 have h1' := uv_end hv hj hl
 have h2 : (encq q).length = 1 + ((j + 1) + (encq { q with size := none }).length) := by rw [e1, List.length_cons, List.length_append, h1']; omega
 rw [e1] at hdr
 have hvd : some v = d.size := hP.size.elim (fun h => by have := h.1; rw [hq] at this; cases this) (fun h => by rw [← h.1, hq])
 have heb : e.blocks = [] := hP.first.elim id (fun h => by have := h.2.2; rw [hq] at this; cases this)
 exact ⟨⟨_, { e with size := some v }, { q with size := none }, _, _, _, _, _, hx, drop_num hdr hv hj hl, rfl, by omega, ⟨hP.ty, hP.data, .inl ⟨rfl, hvd⟩, hP.blocks, .inl heb⟩, hU⟩, by omega⟩
end
theorem grown_none {W W1 : World} (h : W.drew.grownBy W1 none) (k : Nat) (hk : k < W.heap.size) : W1.heap[k]? = W.heap[k]? := h.block k hk (by simp)
/-- A part of a row that came in. -/
theorem mid_row {W : World} {A : Option Addr} {n c i j : Nat} {l xs r : List Int} (hC : Kd.C (Kd.int .u8) W A n l) (hnc : n ≤ c) (hd : l.drop i = xs ++ r) (hi : i ≤ l.length) (hj : j = i + xs.length) : Kd.C (Kd.int .u8) W (if c = i then A else A.map (fun x => x.add (i * 1))) (j - i) xs := by
 have hn := Kd.C_len hC
 subst hn
 have h1 := congrArg List.length hd
 rw [List.length_drop, List.length_append] at h1
 have h2 := Kd.C_mid (lo := i) (hi := j) hC (by omega) (by omega) hnc
 have h3 : (l.take j).drop i = xs := by
  rw [List.drop_take, hd, show j - i = xs.length by omega, List.take_left]
 rw [h3, show xs.length = j - i by omega] at h2
 exact h2
section
variable {w0 W W' : World} {g b5 N : Nat} {t : TypeId} {e : Pd} {c0 c1 c2 c3 : Value}
/-- Data are read. -/
theorem Um.rdata (h : Um w0 W g b5 N t e c0 c1 c2 c3) (he : e.blocks = []) {u : Value} (hs : Stp w0 W W' g b5 W.heap.size) (hg1 : W'.heap[g]? = some (.cells #[c0, u, c2, c3, .pointer none, .pointer none, .slice none 0 0, .int .i32 0] t (0, 0))) (hb1 : W'.heap[b5]? = W.heap[b5]?)
  (A : Addr) (c : Nat) (xs : List Int) (hR : Kd.R (Kd.int .u8) 5 W' w0.heap.size (fun k => W.heap.size ≤ k) (.slice (some A) xs.length c) xs) :
  Um w0 (W'.setCell ⟨g, 1, none⟩ (.slice (some A) xs.length c)) g b5 W'.heap.size t { e with data := some xs } c0 (.slice (some A) xs.length c) c2 c3 := by
 have hgN := h.gN; have hbN := h.bN; have hNW := h.NW
 have hsz := hs.size
 have hs2 := hs.setg (g := g) (b5 := b5) h.gge 1 (.slice (some A) xs.length c)
 have hc3 := h.blks0 he
 refine ⟨?_, ?_, h.gge, h.bge, by omega, by omega, h.gb, ?_, hs2.below, h.ty0, h.sty hs2 hNW (by omega), fun h0 => (by cases h0), fun xs' hx' => ?_, h.size0, h.ssize hs2 hNW (by omega), ?_, h.blks0⟩
 ·exact blk_put hg1 1 _ rfl
 ·exact blk_far (hb1.trans h.bit) (p := ⟨g, 1, none⟩) (fun e => h.gb e.symm) _
 ·simp [World.setCell]
 ·cases hx'
  refine ⟨A, c, rfl, (Kd.R_reads' hR).2.1, ?_⟩
  have h1 := Kd.R_bound hR
  have h2 : Kd.R (Kd.int .u8) 5 W' w0.heap.size (fun k => k < W'.heap.size ∧ k ≠ g ∧ k ≠ b5) (.slice (some A) xs.length c) xs := Kd.R_mono h1 (fun k hk => ⟨hk.2.2.1, by have := hk.1; omega, by have := hk.1; omega⟩)
  exact Kd.R_step h2 (fun k ho hk => Below.heap_setCell W' ⟨g, 1, none⟩ _ k (by simpa using ho.2.1))
 ·show Kd.R _ _ _ _ _ c3 e.blocks
  rw [he, hc3]; exact nil_blks
variable {d : Dat} {q : Pd} {k v j : Nat} {x : Int}
theorem ur_data {xs : List Int} (hP : Pair d e q) (h0 : q.ty = none) (hq : q.data = some xs) (hdr : (marsh d).drop k = encq q) (hkn : k + (encq q).length = (marsh d).length) (hvx : v = xs.length) (hv : v < 2 ^ 64) (hj : j = 0 ∨ 128 ^ j ≤ v) (hl : v / 128 ^ j < 128)
  (hU : Um w0 W g b5 N t { e with data := some xs } c0 c1 c2 c3) (hx : x = ((k + 1 + (j + 1) + v : Nat) : Int)) : UR w0 g b5 t d (encq { q with data := none }).length x W ∧ (encq { q with data := none }).length < (encq q).length := by
 subst hvx
 have e1 : encq q = 18 :: (uv xs.length ++ (xs ++ encq { q with data := none })) := by unfold encq; rw [h0, hq]; simp [dataF, tyF]
 have h1' := uv_end hv hj hl
 have h2 : (encq q).length = 1 + ((j + 1) + (xs.length + (encq { q with data := none }).length)) := by rw [e1, List.length_cons, List.length_append, h1', List.length_append]; omega
 rw [e1] at hdr
 have hvd : some xs = d.data := hP.data.elim (fun h => by have := h.1; rw [hq] at this; cases this) (fun h => by rw [← h.1, hq])
 have heb : e.blocks = [] := hP.first.elim id (fun h => by have := h.2.1; rw [hq] at this; cases this)
 have h3 := drop_num hdr hv hj hl
 have h4 : (marsh d).drop (k + 1 + (j + 1) + xs.length) = encq { q with data := none } := by rw [← List.drop_drop, h3, List.drop_left]
 exact ⟨⟨_, { e with data := some xs }, { q with data := none }, _, _, _, _, _, hx, h4, rfl, by omega, ⟨hP.ty, .inl ⟨rfl, hvd⟩, hP.size, hP.blocks, .inl heb⟩, hU⟩, by omega⟩
theorem ur_blk {b : Int} {bs : List Int} (hP : Pair d e q) (h0 : q.ty = none) (h1 : q.data = none) (h2 : q.size = none) (hq : q.blocks = b :: bs) (hdr : (marsh d).drop k = encq q) (hkn : k + (encq q).length = (marsh d).length) (hvb : (v : Int) = b) (hv : v < 2 ^ 64) (hj : j = 0 ∨ 128 ^ j ≤ v) (hl : v / 128 ^ j < 128)
  (hU : Um w0 W g b5 N t { e with blocks := e.blocks ++ [b] } c0 c1 c2 c3) (hx : x = ((k + 1 + (j + 1) : Nat) : Int)) : UR w0 g b5 t d (encq { q with blocks := bs }).length x W ∧ (encq { q with blocks := bs }).length < (encq q).length := by
 have e1 : encq q = 32 :: (uv v ++ encq { q with blocks := bs }) := by
  unfold encq; rw [h0, h1, h2, hq, blkF_cons, ← hvb, Int.toNat_natCast]; rfl
 have h1' := uv_end hv hj hl
 have h3 : (encq q).length = 1 + ((j + 1) + (encq { q with blocks := bs }).length) := by rw [e1, List.length_cons, List.length_append, h1']; omega
 rw [e1] at hdr
 exact ⟨⟨_, { e with blocks := e.blocks ++ [b] }, { q with blocks := bs }, _, _, _, _, _, hx, drop_num hdr hv hj hl, rfl, by omega, ⟨hP.ty, hP.data, hP.size, by rw [hP.blocks, hq]; simp, .inr ⟨h0, h1, h2⟩⟩, hU⟩, by omega⟩
end
theorem own_some {W : World} {e base m : Nat} {ok : Nat → Prop} {v : Value} (h : Kd.R (Kd.int .u8) e W base ok v []) (hat : ∃ b, v.ownBlock = some b ∧ m ≤ b) : ∃ A c, v = .slice (some A) ([] : List Int).length c := by
 obtain ⟨A, c, rfl⟩ := Kd.R_slice h
 cases A with
 | some a => exact ⟨a, c, rfl⟩
 | none => obtain ⟨b, hb, _⟩ := hat; cases hb
/-- The i-th of some values. -/
def nthV : List Value → Nat → Value
 | [], _ => undef
 | v :: _, 0 => v
 | _ :: l, i + 1 => nthV l i
/-- A frame of which some slots (by the mask) hold what us says. -/
def ovl : List (Option Nat) → (Nat → Value) → List Value → List Value
 | [], _, l => l
 | _ :: _, _, [] => []
 | none :: m, us, v :: l => v :: ovl m us l
 | some i :: m, us, _ :: l => us i :: ovl m us l
/-- A loop in a large frame: the slots of the mask stand behind one letter. -/
theorem wp_loop_f {P : Program} {Q : Exit → Act → World → Prop} {c : Code} {l : List Value} {x : List Deferred} {w : World} (m : List (Option Nat)) (n0 : Nat) (rel : Nat → (Nat → Value) → World → Prop) (h0 : rel n0 (nthV l) w) (hm : ovl m (nthV l) l = l)
  (round : ∀ (gk : Nat) (us : Nat → Value) (w' : World), rel gk us w' → ∀ (J : Nat → Act → World → Prop) (K : Act → World → Prop), (∀ k l' w', rel k (nthV l') w' → ovl m (nthV l') l = l' → J k ⟨l'.toArray, x⟩ w') → (∀ a' w', Handed J gk a' w' → K a' w') → c.wp P (Exit.then K Q) ⟨(ovl m us l).toArray, x⟩ w') : (Code.loop c).wp P Q ⟨l.toArray, x⟩ w := by
 refine wp_loop_ghost (fun k a w => ∃ us, rel k us w ∧ a = ⟨(ovl m us l).toArray, x⟩) n0 ⟨nthV l, h0, by rw [hm]⟩ ?_
 rintro gk a w' ⟨us, hr, rfl⟩
 exact round gk us w' hr _ _ (fun k l' w' h h2 => ⟨nthV l', h, by rw [h2]⟩) (fun _ _ q => q)
end Go.Proofs.YtnhnlodmkbiiiaaDoor.HandFields
