/- Several texts of this claim, joined. -/
import Derived.Test.YtnhnlodmkbiiiaaDoorQU0
/- Bytes read as a link of merkledag: numbers, fields, and the link in memory while it is filled. -/
section
namespace Go.Proofs.YtnhnlodmkbiiiaaDoor.HandFields
open Go Go.RowKit Go.Proofs.YtnhnlodmkbiiiaaDoorL Go.Proofs.YtnhnlodmkbiiiaaDoorW.PrintWords Go.Proofs.YtnhnlodmkbiiiaaDoorW.PrintLast Go.Proofs.YtnhnlodmkbiiiaaDoorW.PrintMore Go.Proofs.YtnhnlodmkbiiiaaDoor.PFieldsBase
attribute [local go_sem] max2_int min2_int max_two min_two max_three min_three max_four min_four
set_option linter.unusedVariables false
set_option linter.unusedSimpArgs false
/-- The number at the head of some bytes (at most k of them), and what follows; none within: the bytes end. -/
def rdv : Nat → List Int → Option (Option (Nat × List Int))
 | 0, _ => none
 | _ + 1, [] => some none
 | k + 1, b :: l => if b < 128 then some (some (b.toNat, l)) else (rdv k l).map (Option.map (fun p => ((b - 128).toNat + 128 * p.1, p.2)))
/-- What the rounds so far have read (a, in j bytes from place i0 on) and what the rest gives. -/
structure VI (xs : List Int) (i0 k0 : Nat) (R : Option (Nat × List Int)) (j a : Nat) : Prop where
 lt : a < 2 ^ (7 * j)
 le : i0 + j ≤ xs.length
 jk : j < k0
 rest : (rdv (k0 - j) (xs.drop (i0 + j))).map (Option.map (fun p => (a + 2 ^ (7 * j) * p.1, p.2))) = some R
theorem VI.start {xs : List Int} {i0 k0 : Nat} {R : Option (Nat × List Int)} (h : rdv k0 (xs.drop i0) = some R) (hk : 0 < k0) (hi : i0 ≤ xs.length) : VI xs i0 k0 R 0 0 := by
 refine ⟨by decide, by omega, hk, ?_⟩
 rw [Nat.sub_zero, Nat.add_zero, h]
 cases R with
 | none => rfl
 | some p => simp
/-- One round more. -/
theorem VI.cases {xs : List Int} {i0 k0 : Nat} {R : Option (Nat × List Int)} {j a : Nat} (h : VI xs i0 k0 R j a) (hb : ∀ x ∈ xs, 0 ≤ x ∧ x ≤ 255) :
  (i0 + j = xs.length ∧ R = none) ∨
  (∃ c : Nat, rd xs ((i0 + j : Nat) : Int) = (c : Int) ∧ i0 + j < xs.length ∧ c < 128 ∧ R = some (a + c * 2 ^ (7 * j), xs.drop (i0 + j + 1))) ∨
  (∃ c : Nat, rd xs ((i0 + j : Nat) : Int) = (c : Int) ∧ i0 + j < xs.length ∧ 128 ≤ c ∧ c < 256 ∧ VI xs i0 k0 R (j + 1) (a + (c - 128) * 2 ^ (7 * j))) := by
 obtain ⟨k, hk⟩ : ∃ k, k0 - j = k + 1 := ⟨k0 - j - 1, by have := h.jk; omega⟩
 have hr := h.rest
 rw [hk] at hr
 have hp7 : 2 ^ (7 * (j + 1)) = 128 * 2 ^ (7 * j) := by rw [show 7 * (j + 1) = 7 + 7 * j by omega, Nat.pow_add]
 rcases Nat.lt_or_ge (i0 + j) xs.length with hl | hl
 ·have hd := List.drop_eq_getElem_cons hl
  have hx := hb _ (List.getElem_mem hl)
  have hrd : rd xs ((i0 + j : Nat) : Int) = xs[i0 + j] := by unfold rd; rw [Int.toNat_natCast, List.getD_eq_getElem?_getD, List.getElem?_eq_getElem hl]; rfl
  obtain ⟨c, hc⟩ : ∃ c : Nat, xs[i0 + j] = (c : Int) := ⟨xs[i0 + j].toNat, by omega⟩
  rw [hc] at hx hrd
  rw [hd, hc] at hr
  unfold rdv at hr
  by_cases h1 : c < 128
  ·rw [if_pos (by omega)] at hr
   refine .inr (.inl ⟨c, hrd, hl, h1, ?_⟩)
   have := Option.some.inj hr
   rw [← this]
   simp only [Option.map_some, Int.toNat_natCast, Nat.mul_comm]
  ·rw [if_neg (by omega)] at hr
   refine .inr (.inr ⟨c, hrd, hl, by omega, by omega, ?_⟩)
   have hk1 : k = k0 - (j + 1) := by omega
   have hkp : 0 < k := by
    rcases Nat.eq_zero_or_pos k with h0 | h0
    ·rw [h0] at hr; simp [rdv] at hr
    ·exact h0
   refine ⟨?_, by omega, by omega, ?_⟩
   ·rw [hp7]
    have h2 : (c - 128) * 2 ^ (7 * j) ≤ 127 * 2 ^ (7 * j) := Nat.mul_le_mul_right _ (by omega)
    have := h.lt
    omega
   ·rw [← hk1, show i0 + (j + 1) = i0 + j + 1 by omega]
    cases hv : rdv k (List.drop (i0 + j + 1) xs) with
    | none => rw [hv] at hr; simp at hr
    | some q =>
     rw [hv] at hr
     cases q with
     | none => simpa using hr
     | some p =>
      have := Option.some.inj hr
      rw [← this]
      simp only [Option.map_some, Option.some.injEq, Prod.mk.injEq, and_true]
      have e1 : ((c : Int) - 128).toNat = c - 128 := by omega
      rw [e1, hp7, Nat.mul_add, Nat.add_assoc, Nat.mul_comm (c - 128), ← Nat.mul_assoc, Nat.mul_comm 128]
 ·have he : i0 + j = xs.length := by have := h.le; omega
  rw [List.drop_of_length_le (by omega)] at hr
  unfold rdv at hr
  exact .inl ⟨he, (Option.some.inj hr).symm⟩
theorem rdv_lt : ∀ (k : Nat) (l : List Int) (v : Nat) (r : List Int), (∀ x ∈ l, 0 ≤ x ∧ x ≤ 255) → rdv k l = some (some (v, r)) → v < 2 ^ (7 * k)
 | 0, l, v, r, _, h => by simp [rdv] at h
 | k + 1, [], v, r, _, h => by simp [rdv] at h
 | k + 1, b :: l, v, r, hb, h => by
  have hp7 : 2 ^ (7 * (k + 1)) = 128 * 2 ^ (7 * k) := by rw [show 7 * (k + 1) = 7 + 7 * k by omega, Nat.pow_add]
  have hpos : 0 < 2 ^ (7 * k) := Nat.pow_pos (by decide)
  have hx := hb b (by simp)
  unfold rdv at h
  by_cases h1 : b < 128
  ·rw [if_pos h1] at h
   have := Option.some.inj (Option.some.inj h)
   injection this with h2 h3
   omega
  ·rw [if_neg h1] at h
   obtain ⟨q, hq, h2⟩ := Option.map_eq_some_iff.1 h
   obtain ⟨p, hp, h3⟩ := Option.map_eq_some_iff.1 h2
   subst hp
   obtain ⟨v', r'⟩ := p
   have ih := rdv_lt k l v' r' (fun x hx => hb x (by simp [hx])) hq
   injection h3 with h4 h5
   rw [hp7]
   have : 128 * v' + 128 ≤ 128 * 2 ^ (7 * k) := by omega
   simp only at h4
   omega
/-- One round more: the byte, what it adds, and what comes of it. -/
theorem VI.byte {xs : List Int} {i0 k0 : Nat} {R : Option (Nat × List Int)} {j a b : Nat} (h : VI xs i0 k0 R j a) (hb : ∀ x ∈ xs, 0 ≤ x ∧ x ≤ 255) (hk : 7 * (k0 - 1) ≤ b) (hv : ∀ v r, R = some (v, r) → v < 2 ^ b) :
  (i0 + j = xs.length ∧ R = none) ∨
  (∃ c m : Nat, rd xs ((i0 + j : Nat) : Int) = (c : Int) ∧ i0 + j < xs.length ∧ c < 256 ∧ m = c % 128 ∧ a + m * 2 ^ (7 * j) < 2 ^ b ∧ ((c < 128 ∧ R = some (a + m * 2 ^ (7 * j), xs.drop (i0 + j + 1))) ∨ (128 ≤ c ∧ VI xs i0 k0 R (j + 1) (a + m * 2 ^ (7 * j))))) := by
 rcases h.cases hb with h1 | ⟨c, h1, h2, h3, h4⟩ | ⟨c, h1, h2, h3, h4, h5⟩
 ·exact .inl h1
 ·have e : c % 128 = c := Nat.mod_eq_of_lt h3
  exact .inr ⟨c, c % 128, h1, h2, by omega, rfl, by rw [e]; exact hv _ _ h4, .inl ⟨h3, by rw [e]; exact h4⟩⟩
 ·have e : c % 128 = c - 128 := by omega
  refine .inr ⟨c, c % 128, h1, h2, h4, rfl, ?_, .inr ⟨h3, by rw [e]; exact h5⟩⟩
  rw [e]
  refine Nat.lt_of_lt_of_le h5.lt (Nat.pow_le_pow_right (by decide) ?_)
  have := h5.jk
  omega
/-- The words of one round. -/
theorem acc_words (K : IntKind) (b : Nat) (hb : b ≤ K.bits) (hb8 : 8 ≤ b) (hk : ∀ n : Int, 0 ≤ n → n < 2 ^ b → K.wrap n = n) {a m j c : Nat} (hc : c < 256) (hm : m = c % 128) (ha : a < 2 ^ (7 * j)) (hs : a + m * 2 ^ (7 * j) < 2 ^ b) :
  Go.bits .and .u8 (c : Int) 127 = (m : Int) ∧ K.wrap (m : Int) = (m : Int) ∧ K.wrap ((m : Int) * 2 ^ (((7 * j : Nat) : Int)).toNat) = ((m * 2 ^ (7 * j) : Nat) : Int) ∧ Go.bits .or K (a : Int) ((m * 2 ^ (7 * j) : Nat) : Int) = ((a + m * 2 ^ (7 * j) : Nat) : Int) := by
 have hm7 : m < 128 := by omega
 have h8 : (2 : Nat) ^ 8 ≤ 2 ^ b := Nat.pow_le_pow_right (by decide) hb8
 have hwn : ∀ x : Nat, x < 2 ^ b → K.wrap (x : Int) = (x : Int) := fun x hx => hk _ (by omega) (by exact_mod_cast hx)
 refine ⟨?_, hwn _ (by omega), ?_, ?_⟩
 ·have h1 := bits_mask .u8 8 (by decide) wraps_u8 7 (by decide) (c : Int) (by omega) (by exact_mod_cast hc)
  have h2 : Go.bits .and .u8 (c : Int) 127 = (c : Int) % 128 := by simpa using h1
  rw [h2, hm]; omega
 ·rw [Int.toNat_natCast]
  have h1 := hwn (m * 2 ^ (7 * j)) (by omega)
  rw [← h1]
  congr 1
 ·have h1 := (bits_nat K b hb hk a (m * 2 ^ (7 * j)) (by omega) (by omega)).2
  rw [h1]
  congr 1
  rw [Nat.or_comm, Nat.mul_comm, ← Nat.two_pow_add_eq_or_of_lt ha, Nat.mul_comm, Nat.add_comm]
/-- A link, as its fields are there. -/
structure Lnk where
 hash : Option (List Int)
 name : Option (List Int)
 ts : Option Nat
/-- What some bytes are as a link, on top of s: none within: an error; none: nothing is said. -/
def umL : Nat → List Int → Lnk → Option (Option Lnk)
 | 0, _, _ => none
 | k + 1, l, s => if l = [] then some (some s) else (rdv 10 l).bind fun r => match r with
  | none => some none
  | some (key, l1) =>
   if key = 10 then (rdv 9 l1).bind fun r => match r with
    | none => some none
    | some (n, l2) => if n ≤ l2.length then umL k (l2.drop n) { s with hash := some (l2.take n) } else some none
   else if key = 18 then (rdv 9 l1).bind fun r => match r with
    | none => some none
    | some (n, l2) => if n ≤ l2.length then umL k (l2.drop n) { s with name := some (l2.take n) } else some none
   else if key = 24 then (rdv 10 l1).bind fun r => match r with
    | none => some none
    | some (v, l2) => if v < 18446744073709551616 then umL k l2 { s with ts := some v } else none
   else if key = 8 ∨ key = 16 ∨ key = 26 then some none
   else none
/-- A field of bytes, behind its key. -/
def lenR (k : Nat) (l1 : List Int) (put : List Int → Lnk) : Option (Option Lnk) := (rdv 9 l1).bind fun r => match r with
 | none => some none
 | some (n, l2) => if n ≤ l2.length then umL k (l2.drop n) (put (l2.take n)) else some none
def numR (k : Nat) (l1 : List Int) (put : Nat → Lnk) : Option (Option Lnk) := (rdv 10 l1).bind fun r => match r with
 | none => some none
 | some (v, l2) => if v < 18446744073709551616 then umL k l2 (put v) else none
theorem umL_step {k : Nat} {l : List Int} {s : Lnk} {RT : Option Lnk} (h : umL (k + 1) l s = some RT) :
  (l = [] ∧ RT = some s) ∨ (l ≠ [] ∧ ∃ R, rdv 10 l = some R ∧ ((R = none ∧ RT = none) ∨ ∃ key l1, R = some (key, l1) ∧
   ((key = 10 ∧ lenR k l1 (fun x => { s with hash := some x }) = some RT) ∨ (key = 18 ∧ lenR k l1 (fun x => { s with name := some x }) = some RT) ∨ (key = 24 ∧ numR k l1 (fun x => { s with ts := some x }) = some RT) ∨ ((key = 8 ∨ key = 16 ∨ key = 26) ∧ RT = none)))) := by
 unfold umL at h
 by_cases h0 : l = []
 ·rw [if_pos h0] at h
  exact .inl ⟨h0, (Option.some.inj h).symm⟩
 rw [if_neg h0] at h
 refine .inr ⟨h0, ?_⟩
 obtain ⟨R, hR, h⟩ := Option.bind_eq_some_iff.1 h
 refine ⟨R, hR, ?_⟩
 cases R with
 | none => exact .inl ⟨rfl, (Option.some.inj h).symm⟩
 | some p =>
  obtain ⟨key, l1⟩ := p
  refine .inr ⟨key, l1, rfl, ?_⟩
  by_cases k1 : key = 10
  ·simp only [k1] at h; exact .inl ⟨k1, h⟩
  by_cases k2 : key = 18
  ·simp only [k2] at h; exact .inr (.inl ⟨k2, h⟩)
  by_cases k3 : key = 24
  ·simp only [k3] at h; exact .inr (.inr (.inl ⟨k3, h⟩))
  simp only [k1, k2, k3, if_false] at h
  by_cases k4 : key = 8 ∨ key = 16 ∨ key = 26
  ·rw [if_pos k4] at h
   exact .inr (.inr (.inr ⟨k4, (Option.some.inj h).symm⟩))
  ·rw [if_neg k4] at h; cases h
theorem lenR_step {k : Nat} {l1 : List Int} {put : List Int → Lnk} {RT : Option Lnk} (h : lenR k l1 put = some RT) :
  ∃ R, rdv 9 l1 = some R ∧ ((R = none ∧ RT = none) ∨ ∃ n l2, R = some (n, l2) ∧ ((n ≤ l2.length ∧ umL k (l2.drop n) (put (l2.take n)) = some RT) ∨ (l2.length < n ∧ RT = none))) := by
 unfold lenR at h
 obtain ⟨R, hR, h⟩ := Option.bind_eq_some_iff.1 h
 refine ⟨R, hR, ?_⟩
 cases R with
 | none => exact .inl ⟨rfl, (Option.some.inj h).symm⟩
 | some p =>
  obtain ⟨n, l2⟩ := p
  refine .inr ⟨n, l2, rfl, ?_⟩
  by_cases hn : n ≤ l2.length
  ·simp only [hn, if_true] at h; exact .inl ⟨hn, h⟩
  ·simp only [hn, if_false] at h; exact .inr ⟨by omega, (Option.some.inj h).symm⟩
theorem numR_step {k : Nat} {l1 : List Int} {put : Nat → Lnk} {RT : Option Lnk} (h : numR k l1 put = some RT) :
  ∃ R, rdv 10 l1 = some R ∧ ((R = none ∧ RT = none) ∨ ∃ v l2, R = some (v, l2) ∧ v < 18446744073709551616 ∧ umL k l2 (put v) = some RT) := by
 unfold numR at h
 obtain ⟨R, hR, h⟩ := Option.bind_eq_some_iff.1 h
 refine ⟨R, hR, ?_⟩
 cases R with
 | none => exact .inl ⟨rfl, (Option.some.inj h).symm⟩
 | some p =>
  obtain ⟨n, l2⟩ := p
  refine .inr ⟨n, l2, rfl, ?_⟩
  by_cases hn : n < 18446744073709551616
  ·simp only [hn, if_true] at h; exact ⟨hn, h⟩
  ·simp only [hn, if_false] at h; cases h
/-- The blocks that are neither the link's nor that of the bytes that are read. -/
class Prot where
 blk : Nat → Option Obj
def okz [Prot] (Ai : Option Addr) (ni g : Nat) : Nat → Prop := fun k => k ≠ g ∧ (∀ ad, Ai = some ad → 0 < ni → ad.block ≠ k) ∧ Prot.blk k = none
/-- A row whose block is as it was. -/
theorem C_blk {W W' : World} {A : Option Addr} {n : Nat} {xs : List Int} (h : Kd.C (Kd.int .u8) W A n xs) (hk : ∀ ad, A = some ad → 0 < n → W'.heap[ad.block]? = W.heap[ad.block]?) : Kd.C (Kd.int .u8) W' A n xs := by
 refine ⟨h.1, h.2.1, fun hn => ?_⟩
 obtain ⟨ad, he, hc⟩ := h.2.2 hn
 refine ⟨ad, he, fun j p hj => ?_⟩
 obtain ⟨cs, h1, h2, h3⟩ := hc j p hj
 exact ⟨cs, h1, h2, fun i u hu => by have h4 := h3 i u hu; have h5 := hk ad he hn; have h6 : ∀ m, W'.cell? (ad.add m) = W.cell? (ad.add m) := fun m => (by have e6 : (ad.add m).block = ad.block := add_block ad m; simp only [World.cell?, e6, h5]); exact (h6 _).trans h4⟩
/-- A link in memory, while it is filled out of the bytes xi at Ai. -/
structure Lm [Prot] (Ai : Option Addr) (ni : Nat) (xi : List Int) (w0 W : World) (g : Nat) (s : Lnk) (c0 c1 c2 : Value) : Prop where
 inp : Kd.C (Kd.int .u8) W Ai ni xi
 oth : ∀ k o, Prot.blk k = some o → k ≠ g ∧ W.heap[k]? = some o
 ing : ∀ ad, Ai = some ad → 0 < ni → ad.block ≠ g
 blk : W.heap[g]? = some (.cells #[c0, c1, c2, .slice none 0 0, .int .i32 0] 96 (0, 0))
 gge : w0.heap.size ≤ g
 below : Below w0.heap.size w0 W
 hash0 : s.hash = none → c0 = .slice none 0 0
 hash1 : ∀ xs, s.hash = some xs → ∃ A c, c0 = .slice (some A) xs.length c ∧ Kd.R (Kd.int .u8) 5 W w0.heap.size (okz Ai ni g) c0 xs
 name0 : s.name = none → c1 = .pointer none
 name1 : ∀ xs, s.name = some xs → ∃ p : Nat, c1 = .pointer (some ⟨p, 0, none⟩) ∧ W.heap[p]? = some (.cells #[.string (strOfNums xs)] 9 (0, 0)) ∧ p ≠ g
 ts0 : s.ts = none → c2 = .pointer none
 ts1 : ∀ n, s.ts = some n → ∃ p : Nat, c2 = .pointer (some ⟨p, 0, none⟩) ∧ W.heap[p]? = some (.cells #[.int .u64 (n : Int)] 24 (0, 0)) ∧ p ≠ g
section
variable [Prot] {Ai : Option Addr} {ni : Nat} {xi : List Int} {w0 W W' : World} {g : Nat} {s : Lnk} {c0 c1 c2 : Value}
/-- A row of bytes may have grown (its own, or a new one), and the hash is set. -/
theorem Lm.setHash (h : Lm Ai ni xi w0 W g s c0 c1 c2) {u u0 : Value} {l : List Int} (hu : Kd.R (Kd.int .u8) 5 W w0.heap.size (okz Ai ni g) u l) (hk : ∀ k, k < W.heap.size → k ≠ g → some k ≠ u.ownBlock → W'.heap[k]? = W.heap[k]?) (hg1 : W'.heap[g]? = some (.cells #[u0, c1, c2, .slice none 0 0, .int .i32 0] 96 (0, 0))) (hb : Below w0.heap.size w0 W') (A : Addr) (c : Nat) (xs : List Int) (hR : Kd.R (Kd.int .u8) 5 W' w0.heap.size (okz Ai ni g) (.slice (some A) xs.length c) xs) :
  Lm Ai ni xi w0 (W'.setCell ⟨g, 0, none⟩ (.slice (some A) xs.length c)) g { s with hash := some xs } (.slice (some A) xs.length c) c1 c2 := by
 refine ⟨C_blk h.inp (fun ad e hn => (Below.heap_setCell W' ⟨g, 0, none⟩ _ ad.block (by simpa using h.ing ad e hn)).trans (hk _ (Kd.C_lt (by rw [← e]; exact h.inp) hn (by decide)) (h.ing ad e hn) (fun e2 => (hu.1 _ e2.symm).2.1 ad e hn rfl))), (fun k o ho => ⟨(h.oth k o ho).1, (Below.heap_setCell W' ⟨g, 0, none⟩ _ k (by simpa using (h.oth k o ho).1)).trans ((hk k (blk_lt (h.oth k o ho).2) (h.oth k o ho).1 (fun e2 => by have := (hu.1 _ e2.symm).2.2; rw [ho] at this; cases this)).trans (h.oth k o ho).2)⟩), h.ing, blk_put hg1 0 _ rfl, h.gge, below_set hb h.gge, fun h0 => (by cases h0), fun ys hy => ?_, h.name0, fun ys hy => ?_, h.ts0, fun n hn => ?_⟩
 ·cases hy
  exact ⟨A, c, rfl, Kd.R_step hR (fun k ho hk => Below.heap_setCell W' ⟨g, 0, none⟩ _ k (by simpa using ho.1))⟩
 ·obtain ⟨p, e, hp, hpg⟩ := h.name1 ys hy
  exact ⟨p, e, blk_far ((hk p (blk_lt hp) hpg (Kd.R_ne hu hp (by decide))).trans hp) (p := ⟨g, 0, none⟩) hpg _, hpg⟩
 ·obtain ⟨p, e, hp, hpg⟩ := h.ts1 n hn
  exact ⟨p, e, blk_far ((hk p (blk_lt hp) hpg (Kd.R_ne hu hp (by decide))).trans hp) (p := ⟨g, 0, none⟩) hpg _, hpg⟩
theorem Lm.setName (h : Lm Ai ni xi w0 W g s c0 c1 c2) (hB : Below W.heap.size W W') (xs : List Int) {p : Nat} (hp : W'.heap[p]? = some (.cells #[.string (strOfNums xs)] 9 (0, 0))) (hpg : p ≠ g) :
  Lm Ai ni xi w0 (W'.setCell ⟨g, 1, none⟩ (.pointer (some ⟨p, 0, none⟩))) g { s with name := some xs } c0 (.pointer (some ⟨p, 0, none⟩)) c2 := by
 have hg1 : W'.heap[g]? = _ := (hB.block g (blk_lt h.blk)).trans h.blk
 refine ⟨C_blk (Kd.C_below h.inp hB) (fun ad e hn => Below.heap_setCell W' ⟨g, 1, none⟩ _ ad.block (by simpa using h.ing ad e hn)), (fun k o ho => ⟨(h.oth k o ho).1, (Below.heap_setCell W' ⟨g, 1, none⟩ _ k (by simpa using (h.oth k o ho).1)).trans ((hB.block k (blk_lt (h.oth k o ho).2)).trans (h.oth k o ho).2)⟩), h.ing, blk_put hg1 1 _ rfl, h.gge, below_set (below_then h.below h.below.size hB) h.gge, h.hash0, fun ys hy => ?_, fun h0 => (by cases h0), fun ys hy => ?_, h.ts0, fun n hn => ?_⟩
 ·obtain ⟨A, c, e, hR⟩ := h.hash1 ys hy
  exact ⟨A, c, e, Kd.R_step (Kd.R_below hR hB) (fun k ho hk => Below.heap_setCell W' ⟨g, 1, none⟩ _ k (by simpa using ho.1))⟩
 ·cases hy
  exact ⟨p, rfl, blk_far hp (p := ⟨g, 1, none⟩) hpg _, hpg⟩
 ·obtain ⟨q, e, hq, hqg⟩ := h.ts1 n hn
  exact ⟨q, e, blk_far ((hB.block q (blk_lt hq)).trans hq) (p := ⟨g, 1, none⟩) hqg _, hqg⟩
theorem Lm.setTs (h : Lm Ai ni xi w0 W g s c0 c1 c2) (hB : Below W.heap.size W W') (m : Nat) {p : Nat} (hp : W'.heap[p]? = some (.cells #[.int .u64 (m : Int)] 24 (0, 0))) (hpg : p ≠ g) :
  Lm Ai ni xi w0 (W'.setCell ⟨g, 2, none⟩ (.pointer (some ⟨p, 0, none⟩))) g { s with ts := some m } c0 c1 (.pointer (some ⟨p, 0, none⟩)) := by
 have hg1 : W'.heap[g]? = _ := (hB.block g (blk_lt h.blk)).trans h.blk
 refine ⟨C_blk (Kd.C_below h.inp hB) (fun ad e hn => Below.heap_setCell W' ⟨g, 2, none⟩ _ ad.block (by simpa using h.ing ad e hn)), (fun k o ho => ⟨(h.oth k o ho).1, (Below.heap_setCell W' ⟨g, 2, none⟩ _ k (by simpa using (h.oth k o ho).1)).trans ((hB.block k (blk_lt (h.oth k o ho).2)).trans (h.oth k o ho).2)⟩), h.ing, blk_put hg1 2 _ rfl, h.gge, below_set (below_then h.below h.below.size hB) h.gge, h.hash0, fun ys hy => ?_, h.name0, fun ys hy => ?_, fun h0 => (by cases h0), fun n hn => ?_⟩
 ·obtain ⟨A, c, e, hR⟩ := h.hash1 ys hy
  exact ⟨A, c, e, Kd.R_step (Kd.R_below hR hB) (fun k ho hk => Below.heap_setCell W' ⟨g, 2, none⟩ _ k (by simpa using ho.1))⟩
 ·obtain ⟨q, e, hq, hqg⟩ := h.name1 ys hy
  exact ⟨q, e, blk_far ((hB.block q (blk_lt hq)).trans hq) (p := ⟨g, 2, none⟩) hqg _, hqg⟩
 ·cases hn
  exact ⟨p, rfl, blk_far hp (p := ⟨g, 2, none⟩) hpg _, hpg⟩
end
/-- The row of which nothing is kept. -/
theorem R_cut0 {W : World} {base : Nat} {ok : Nat → Prop} {A : Option Addr} {n c : Nat} {xs : List Int} (h : Kd.R (Kd.int .u8) 5 W base ok (.slice A n c) xs) : Kd.R (Kd.int .u8) 5 W base ok (.slice A 0 c) [] := by
 obtain ⟨h0, inner, hown, hr⟩ := h
 refine ⟨fun k hk => h0 k (by cases A with | none => (simp [Value.ownBlock] at hk) | some a => exact hk), [], ⟨rfl, ?_⟩, by constructor <;> simp⟩
 rcases hown.2 with ⟨e, hn⟩ | ⟨g', c', cur, e, hge, hb, hnc, hcm, hcs, _⟩
 ·injection e with e1 e2 e3
  subst e1; subst e3
  exact .inl ⟨rfl, rfl⟩
 ·injection e with e1 e2 e3
  subst e1; subst e3
  exact .inr ⟨g', c, cur, rfl, hge, hb, Nat.zero_le _, hcm, hcs, by simp⟩
/-- The three variables of errors are errors. -/
def GE (W : World) : Prop := (∃ T X, W.cell? ⟨0, 0, none⟩ = some (.iface T X)) ∧ (∃ T X, W.cell? ⟨1, 0, none⟩ = some (.iface T X)) ∧ (∃ T X, W.cell? ⟨2, 0, none⟩ = some (.iface T X))
theorem GE.below {W W' : World} (h : GE W) (hb : Below W.heap.size W W') : GE W' := by
 obtain ⟨⟨T0, X0, h0⟩, ⟨T1, X1, h1⟩, ⟨T2, X2, h2⟩⟩ := h
 exact ⟨⟨T0, X0, (hb.cell (World.block_lt_of_cell? _ _ h0)).trans h0⟩, ⟨T1, X1, (hb.cell (World.block_lt_of_cell? _ _ h1)).trans h1⟩, ⟨T2, X2, (hb.cell (World.block_lt_of_cell? _ _ h2)).trans h2⟩⟩
/-- What Unmarshal hands back. -/
def UmPost [Prot] (w0 : World) (g : Nat) : Option Lnk → Ending → World → Prop
 | some s, e, w' => e = .returned .nilIface ∧ Below w0.heap.size w0 w' ∧ ∃ Ai ni xi c0 c1 c2, Lm Ai ni xi w0 w' g s c0 c1 c2
 | none, e, w' => (∃ T X, e = .returned (.iface T X)) ∧ Below w0.heap.size w0 w'
theorem UmPost.err [Prot] {w0 w' : World} {g : Nat} {R : Option Lnk} (hR : R = none) (T : TypeId) (X : Value) (hb : Below w0.heap.size w0 w') : UmPost w0 g R (.returned (.iface T X)) w' := by
 subst hR; exact ⟨⟨T, X, rfl⟩, hb⟩
theorem UmPost.good [Prot] {Ai : Option Addr} {ni : Nat} {xi : List Int} {w0 w' : World} {g : Nat} {R : Option Lnk} {s : Lnk} {c0 c1 c2 : Value} (hR : R = some s) (h : Lm Ai ni xi w0 w' g s c0 c1 c2) : UmPost w0 g R (.returned .nilIface) w' := by
 subst hR; exact ⟨rfl, h.below, _, _, _, c0, c1, c2, h⟩
theorem Lm.hashR [Prot] {Ai : Option Addr} {ni : Nat} {xi : List Int} {w0 W : World} {g : Nat} {s : Lnk} {c0 c1 c2 : Value} (h : Lm Ai ni xi w0 W g s c0 c1 c2) : ∃ A n c xs0, c0 = .slice A n c ∧ n ≤ c ∧ Kd.R (Kd.int .u8) 5 W w0.heap.size (okz Ai ni g) c0 xs0 := by
 cases hs : s.hash with
 | none => have e := h.hash0 hs; rw [e]; exact ⟨none, 0, 0, [], rfl, Nat.le_refl _, Kd.R_nil _ _ _ _ _⟩
 | some xs0 =>
  obtain ⟨A, c, e, hR⟩ := h.hash1 xs0 hs
  rw [e] at hR ⊢
  exact ⟨some A, xs0.length, c, xs0, rfl, (Kd.R_reads' hR).2.1, hR⟩
theorem own_cut (A : Option Addr) (n m c d : Nat) : (Value.slice A n c).ownBlock = (Value.slice A m d).ownBlock := by cases A <;> rfl
theorem info5s : (Tryd.prog.info? 5).map (·.size) = some 1 := by kernel_rfl
theorem info5e : (Tryd.prog.info? 5).map (fun i => (i.zero, i.size, i.bytes)) = some (some (.int .u8 0), 1, 1) := by kernel_rfl
theorem Lm.okNew [Prot] {Ai : Option Addr} {ni : Nat} {xi : List Int} {w0 W : World} {g : Nat} {s : Lnk} {c0 c1 c2 : Value} (h : Lm Ai ni xi w0 W g s c0 c1 c2) (k : Nat) (hk : W.heap.size ≤ k) : okz Ai ni g k :=
 ⟨fun e => by have := blk_lt h.blk; omega, fun ad e hn e2 => by have := Kd.C_lt (by rw [← e]; exact h.inp) hn (by decide); omega, by
  cases ho : Prot.blk k with
  | none => rfl
  | some o => have := blk_lt (h.oth k o ho).2; omega⟩
end Go.Proofs.YtnhnlodmkbiiiaaDoor.HandFields
end
/- Bytes are read as a link of merkledag: Unmarshal, walked on any bytes of which umL says something. -/
section
namespace Go.Proofs.YtnhnlodmkbiiiaaDoor.HandFields
open Go Go.RowKit Go.Proofs.YtnhnlodmkbiiiaaDoorL Go.Proofs.YtnhnlodmkbiiiaaDoorW.PrintWords Go.Proofs.YtnhnlodmkbiiiaaDoorW.PrintLast Go.Proofs.YtnhnlodmkbiiiaaDoorW.PrintMore Go.Proofs.YtnhnlodmkbiiiaaDoor.PFieldsBase
attribute [local go_sem] max2_int min2_int max_two min_two max_three min_three max_four min_four
set_option linter.unusedVariables false
set_option linter.unusedSimpArgs false
def m50_0 : List (Option Nat) := [none, none, none, none, some 4, none, some 6, some 7, some 8, some 9, some 10, some 11, some 12, some 13, some 14, some 15, some 16, some 17, some 18, some 19, some 20, some 21, some 22, some 23, some 24, some 25, some 26, some 27, none, none, some 30, some 31, some 32, some 33, some 34, some 35, some 36, some 37, some 38, some 39, some 40, some 41, some 42, some 43, some 44, some 45, some 46, some 47, some 48, some 49, some 50, some 51, some 52, some 53, some 54, some 55, some 56, some 57, some 58, some 59, some 60, some 61, some 62, some 63, some 64, some 65, some 66, some 67, some 68, some 69, some 70, some 71, some 72, some 73, some 74, some 75, some 76, some 77, some 78, some 79, some 80, some 81, some 82, some 83, some 84, some 85, some 86, some 87, some 88, some 89, some 90, some 91, some 92, some 93, some 94, some 95, some 96, some 97, some 98, some 99, some 100, some 101, some 102, some 103, some 104, some 105, some 106, some 107, some 108, some 109, some 110, some 111, some 112, some 113, some 114, some 115, some 116, some 117, some 118, some 119, some 120, some 121, some 122, some 123, some 124, some 125, some 126, some 127, some 128, some 129, some 130, some 131, some 132, some 133, some 134, some 135, some 136, some 137, some 138, some 139, some 140, some 141, some 142, some 143, some 144, some 145, some 146, some 147, some 148, some 149, some 150, some 151, some 152, some 153, some 154, some 155, some 156, some 157, some 158, some 159, some 160, some 161, some 162, some 163, some 164, some 165, some 166, some 167, some 168, some 169, some 170, some 171, some 172, some 173, some 174, some 175, some 176, some 177, some 178, some 179, some 180, some 181, some 182, some 183, some 184, some 185, some 186, some 187, some 188, some 189, some 190, some 191, some 192, some 193, some 194, some 195, some 196, some 197, some 198, some 199, some 200, some 201, some 202, some 203, some 204, some 205, some 206, some 207, some 208, some 209, some 210, some 211, some 212, some 213, some 214, some 215, some 216, some 217, some 218, some 219, some 220, some 221, some 222, some 223, some 224, some 225, some 226, some 227, some 228, some 229, some 230, some 231, some 232, some 233, some 234, some 235, some 236, some 237, some 238, some 239, some 240, some 241, some 242, some 243, some 244, some 245, some 246, some 247, some 248, some 249, some 250, some 251, some 252, some 253, some 254, some 255, some 256, some 257, some 258, some 259, some 260, some 261, some 262, none, none, none, none]
def m50_1 : List (Option Nat) := [none, none, none, none, some 4, none, some 6, none, some 8, some 9, some 10, none, none, none, none, none, none, none, none, none, none, none, none, none, none, none, none, none, none, none, none, none, none, none, some 34, some 35, some 36, some 37, some 38, some 39, some 40, some 41, some 42, some 43, some 44, some 45, some 46, some 47, some 48, some 49, some 50, some 51, some 52, some 53, some 54, some 55, some 56, some 57, none, none, none, none, none, none, none, none, none, none, none, none, none, none, none, none, none, none, none, none, none, none, none, none, none, none, none, none, none, none, none, none, none, none, none, none, none, none, none, none, none, none, none, none, none, none, none, none, none, none, none, none, none, none, none, none, none, none, none, none, none, none, none, none, none, none, none, none, none, none, none, none, none, none, none, none, none, none, none, none, none, none, none, none, none, none, none, none, none, none, none, none, none, none, none, none, none, none, none, none, none, none, none, none, none, none, none, none, none, none, none, none, none, none, none, none, none, none, none, none, none, none, none, none, none, none, none, none, none, none, none, none, none, none, none, none, none, none, none, none, none, none, none, none, none, none, none, none, none, none, none, none, none, none, none, none, none, none, none, none, none, none, none, none, none, none, none, none, none, none, none, none, none, none, none, none, none, none, none, none, none, none, none, none, none, none, none, none, none, none, none, none, none, none, none, none, none, none, none, none, none, none, none, none, none, none, none, none, none]
def m50_2 : List (Option Nat) := [none, none, none, none, some 4, none, some 6, none, none, none, none, none, none, some 13, some 14, some 15, none, none, none, none, none, none, none, none, none, none, none, none, none, none, none, none, none, none, none, none, none, none, none, none, none, none, none, none, none, none, none, none, none, none, none, none, none, none, none, none, none, none, none, none, none, none, none, none, none, none, none, none, none, none, none, none, none, none, none, none, none, none, none, none, none, none, none, none, none, none, none, none, none, none, none, none, none, none, none, none, none, none, none, none, none, none, none, none, none, none, none, none, none, none, none, none, none, none, none, none, none, none, some 118, some 119, some 120, some 121, some 122, some 123, some 124, some 125, some 126, some 127, some 128, some 129, some 130, some 131, some 132, some 133, some 134, some 135, some 136, some 137, some 138, some 139, some 140, some 141, none, none, none, none, none, none, none, none, none, none, none, none, none, none, none, none, none, none, none, none, none, none, none, none, none, none, none, none, none, none, none, none, none, none, none, none, none, none, none, none, none, none, none, none, none, none, none, none, none, none, none, none, none, none, none, none, none, none, none, none, none, none, none, none, none, none, none, none, none, none, none, none, none, none, none, none, none, none, none, none, none, none, none, none, none, none, none, none, none, none, none, none, none, none, none, none, none, none, none, none, none, none, none, none, none, none, none, none, none, none, none, none, none, none, none, none, none, none, none, none, none, none, none, none, none]
def m50_3 : List (Option Nat) := [none, none, none, none, some 4, none, some 6, none, none, none, none, none, none, none, none, none, none, some 17, some 18, some 19, none, none, none, none, none, none, none, none, none, none, none, none, none, none, none, none, none, none, none, none, none, none, none, none, none, none, none, none, none, none, none, none, none, none, none, none, none, none, none, none, none, none, none, none, none, none, none, none, none, none, none, none, none, none, none, none, none, none, none, none, none, none, none, none, none, none, none, none, none, none, none, none, none, none, none, none, none, none, none, none, none, none, none, none, none, none, none, none, none, none, none, none, none, none, none, none, none, none, none, none, none, none, none, none, none, none, none, none, none, none, none, none, none, none, none, none, none, none, none, none, none, none, none, none, none, none, none, none, none, none, none, none, none, none, none, none, none, none, none, none, none, none, none, none, none, none, none, none, none, none, none, none, none, none, none, none, none, none, none, none, none, none, none, some 183, some 184, some 185, some 186, some 187, some 188, some 189, some 190, some 191, some 192, some 193, some 194, some 195, some 196, some 197, some 198, some 199, some 200, some 201, some 202, some 203, some 204, some 205, some 206, none, none, none, none, none, none, none, none, none, none, none, none, none, none, none, none, none, none, none, none, none, none, none, none, none, none, none, none, none, none, none, none, none, none, none, none, none, none, none, none, none, none, none, none, none, none, none, none, none, none, none, none, none, none, none, none, none, none, none, none]
def m50_4 : List (Option Nat) := [none, none, none, none, some 4, none, some 6, none, none, none, none, none, none, none, none, none, none, none, none, none, none, none, none, none, some 24, some 25, none, none, none, none, none, none, none, none, none, none, none, none, none, none, none, none, none, none, none, none, none, none, none, none, none, none, none, none, none, none, none, none, none, none, none, none, none, none, none, none, none, none, none, none, none, none, none, none, none, none, none, none, none, none, none, none, none, none, none, none, none, none, none, none, none, none, none, none, none, none, none, none, none, none, none, none, none, none, none, none, none, none, none, none, none, none, none, none, none, none, none, none, none, none, none, none, none, none, none, none, none, none, none, none, none, none, none, none, none, none, none, none, none, none, none, none, none, none, none, none, none, none, none, none, none, none, none, none, none, none, none, none, none, none, none, none, none, none, none, none, none, none, none, none, none, none, none, none, none, none, none, none, none, none, none, none, none, none, none, none, none, none, none, none, none, none, none, none, none, none, none, none, none, none, none, none, none, none, none, none, none, none, none, none, none, none, none, none, none, none, none, none, none, none, none, none, none, none, none, none, none, none, none, none, none, none, none, none, none, none, some 236, some 237, some 238, some 239, some 240, some 241, some 242, some 243, some 244, some 245, some 246, some 247, some 248, some 249, some 250, some 251, some 252, some 253, some 254, some 255, some 256, some 257, some 258, some 259, none, none, none, none, none, none, none]
set_option maxHeartbeats 80000000 in
set_option maxRecDepth 100000 in
theorem UmLink [Prot] (w0 w : World) (g : Nat) (xs : List Int) (hbx : ∀ x ∈ xs, 0 ≤ x ∧ x ≤ 255) (A : Option Addr) (n c : Nat) (hLm : Lm A n xs w0 w g ⟨none, none, none⟩ (.slice none 0 0) (.pointer none) (.pointer none)) (hGE : GE w0) (hn : n = xs.length) (hnc : n ≤ c) (hn2 : n ≤ 40000000) (kf : Nat) (RT : Option Lnk) (hR : umL kf xs ⟨none, none, none⟩ = some RT) :
  Calls Tryd.prog 50 #[.pointer (some ⟨g, 0, none⟩), .slice A n c] w (UmPost w0 g RT) := by
 have HBX := Aside0.mk hbx
 have HL0 := Aside0.mk hLm
 have HGE := Aside0.mk hGE
 have HN := Aside0.mk hn
 have HNC := Aside0.mk hnc
 have HN2 := Aside0.mk hn2
 have HR0 := Aside0.mk hR
 clear hbx hLm hGE hn hnc hn2 hR
 go_enter Tryd.func50, Tryd.ntmps50
 go_wp2_with fail
 refine wp_loop_f m50_0 kf (fun kq us w' => ∃ i : Int, us 6 = .int .i64 i ∧ Aside0 (∃ (k : Nat) (s : Lnk) (c0 c1 c2 : Value), i = (k : Int) ∧ k ≤ xs.length ∧ umL kq (xs.drop k) s = some RT ∧ Lm A n xs w0 w' g s c0 c1 c2)) ?atS1 (by kernel_rfl) ?rnd1
 case atS1 => exact ⟨0, rfl, ⟨0, _, _, _, _, rfl, Nat.zero_le _, HR0.out, HL0.out⟩⟩
 case rnd1 =>
  intro gk1 us1 W1 hrel J1 K1 hJ1 hK1
  dsimp only [ovl, m50_0]
  obtain ⟨i, h6, HU⟩ := hrel
  rw [h6]
  clear h6
  obtain ⟨k, sl, c0, c1, c2, rfl, hkl, hum, hL⟩ := HU.out
  have HLM := Aside0.mk hL
  clear HU hL
  obtain ⟨k', hk'⟩ : ∃ k', gk1 = k' + 1 := ⟨gk1 - 1, by cases gk1 with | zero => (unfold umL at hum; cases hum) | succ q => rfl⟩
  rw [hk'] at hum
  have HK' := Aside0.mk hk'
  clear hk'
  rcases umL_step hum with ⟨hend, hRT⟩ | ⟨hne, RK, hRK, hrest⟩
  ·have hkn : k = xs.length := by have := congrArg List.length hend; rw [List.length_drop, List.length_nil] at this; omega
   have q0 : decide ((k : Int) < (n : Int)) = false := decide_eq_false (by have := HN.out; omega)
   have q0n : decide (k < n) = false := decide_eq_false (by have := HN.out; omega)
   have q1 : decide ((n : Int) < (k : Int)) = false := decide_eq_false (by have := HN.out; omega)
   have q1n : decide (n < k) = false := decide_eq_false (by have := HN.out; omega)
   have HRT := Aside0.mk hRT
   clear hkn hend hRT hum hkl
   go_wp2_with fail
   go_ret
   exact UmPost.good HRT.out HLM.out
  ·have hkn : k < xs.length := by rcases Nat.lt_or_ge k xs.length with h | h; (exact h); exact absurd (List.drop_of_length_le h) hne
   have j1 : decide ((k : Int) < (n : Int)) = true := decide_eq_true (by have := HN.out; omega)
   have j1n : decide (k < n) = true := decide_eq_true (by have := HN.out; omega)
   have HRK := Aside0.mk hRK
   have HIK := Aside0.mk hkl
   have HNK : Aside0 (RK = none → RT = none) := ⟨fun h => by rcases hrest with ⟨_, h2⟩ | ⟨key, l1, h2, _⟩; (exact h2); (rw [h] at h2; cases h2)⟩
   have HVK : Aside0 (∀ v r, RK = some (v, r) → v < 2 ^ 64) := ⟨fun v r h => by rcases hrest with ⟨h2, _⟩ | ⟨key, l1, h2, h3⟩; (rw [h] at h2; cases h2); (rw [h] at h2; cases h2; rcases h3 with ⟨h4, _⟩ | ⟨h4, _⟩ | ⟨h4, _⟩ | ⟨h4, _⟩ <;> omega)⟩
   have HREST := Aside0.mk hrest
   obtain ⟨ad, eA, _⟩ := Kd.at_int HLM.out.inp (k : Int) (by omega) (by have := HN.out; omega)
   subst eA
   clear hkn hne hRK hrest hum hkl
   go_wp2_with fail
   refine wp_loop_f m50_1 10 (fun kq us w' => ∃ (x y z : Int), us 6 = .int .i64 x ∧ us 9 = .int .u64 y ∧ us 8 = .int .u64 z ∧ Aside0 (w' = W1) ∧ Aside0 (∃ j a : Nat, x = ((k + j : Nat) : Int) ∧ y = ((7 * j : Nat) : Int) ∧ z = (a : Int) ∧ j + kq = 10 ∧ VI xs k 10 RK j a)) ?atSK (by kernel_rfl) ?rndK
   case atSK => exact ⟨_, 0, 0, rfl, rfl, rfl, ⟨rfl⟩, ⟨0, 0, rfl, rfl, rfl, rfl, VI.start HRK.out (by decide) HIK.out⟩⟩
   case rndK =>
    intro gkK usK WK hrel JK KK hJK hKK
    dsimp only [ovl, m50_1]
    obtain ⟨x, y, z, h6, hsh, hz, HW, HJ⟩ := hrel
    rw [h6, hsh, hz]
    clear h6 hsh hz
    have ew := HW.out
    subst ew
    obtain ⟨j, a, hxj, hyj, hza, hjk, hVI⟩ := HJ.out
    subst hza
    have hj9 : j ≤ 9 := by have := hVI.jk; omega
    have m1 : decide ((64 : Int) ≤ y) = false := decide_eq_false (by omega)
    have HJ0 := Aside0.mk (show j + gkK = 10 ∧ j ≤ 9 from ⟨hjk, hj9⟩)
    rcases hVI.byte (b := 64) HBX.out (by decide) HVK.out with ⟨hA, hRn⟩ | ⟨cc, m, hc, hlt, hc256, hm, hsb, hBC⟩
    ·have m2 : decide ((n : Int) ≤ x) = true := decide_eq_true (by have := HN.out; omega)
     have HRT := Aside0.mk (HNK.out hRn)
     obtain ⟨T1, X1, hg1⟩ := (HGE.out.below HLM.out.below).2.1
     clear hA hRn hxj hyj hjk hVI HJ hj9
     go_wp2_with fail
     go_ret
     exact UmPost.err HRT.out _ _ HLM.out.below
    ·obtain ⟨v1, v2, v3, v4⟩ := acc_words .u64 64 (by decide) (by decide) words_u64 hc256 hm hVI.lt hsb
     obtain ⟨s, hs⟩ : ∃ s : Nat, s = m * 2 ^ (7 * j) := ⟨_, rfl⟩
     rw [← hs] at v3 v4 hsb hBC
     obtain ⟨a1, ha1⟩ : ∃ q : Nat, q = a + s := ⟨_, rfl⟩
     rw [← ha1] at v4 hBC hsb
     rw [← hyj] at v3
     rw [← hxj] at hc
     obtain ⟨ad', eA, hx⟩ := Kd.at_int HLM.out.inp x (by omega) (by have := HN.out; omega)
     injection eA with eA
     subst eA
     rw [hc] at hx
     obtain ⟨x1, hx1⟩ : ∃ z : Int, wrap64 (x + 1) = z := ⟨_, rfl⟩
     have hx1w : IntKind.i64.wrap (x + 1) = x1 := (i64_w _).trans hx1
     have XK1 := Aside0.mk (show x1 = ((k + j + 1 : Nat) : Int) by have := HN2.out; have := HN.out; rw [← hx1]; unfold wrap64; omega)
     have HLK := Aside0.mk (show k + j + 1 ≤ xs.length by omega)
     obtain ⟨y1, hy1⟩ : ∃ z : Int, IntKind.u64.wrap (y + 7) = z := ⟨_, rfl⟩
     have Y1 := Aside0.mk (show y1 = ((7 * (j + 1) : Nat) : Int) by rw [← hy1, words_u64 _ (by omega) (by omega)]; omega)
     have m2 : decide ((n : Int) ≤ x) = false := decide_eq_false (by have := HN.out; omega)
     have m3 : (x < (n : Int)) = True := eq_true (by have := HN.out; omega)
     have m4 : ((0 : Int) ≤ x) = True := eq_true (by omega)
     have m6 : (0 : Int) ≤ y := by omega
     have m7 : min y.toNat 64 = y.toNat := Nat.min_eq_left (by omega)
     have m8 : min y.toNat IntKind.u64.bits = y.toNat := m7
     have HBC := Aside0.mk hBC
     have HSB := Aside0.mk hsb
     by_cases hl : cc < 128
     ·have m5 : decide ((cc : Int) < 128) = true := decide_eq_true (by omega)
      have m5n : decide (cc < 128) = true := decide_eq_true hl
      have HDK : Aside0 (RK = some (a1, xs.drop (k + j + 1))) := ⟨by rcases HBC.out with ⟨_, h⟩ | ⟨h, _⟩; (exact h); omega⟩
      clear hl HBC
      clear hxj hyj hjk hVI HJ hj9 hlt hc256 hm hs ha1 hsb hBC hc HW
      obtain ⟨l1, hl1, hkey⟩ : ∃ l1, l1 = xs.drop (k + j + 1) ∧ ((a1 = 10 ∧ lenR k' l1 (fun x => { sl with hash := some x }) = some RT) ∨ (a1 = 18 ∧ lenR k' l1 (fun x => { sl with name := some x }) = some RT) ∨ (a1 = 24 ∧ numR k' l1 (fun x => { sl with ts := some x }) = some RT) ∨ ((a1 = 8 ∨ a1 = 16 ∨ a1 = 26) ∧ RT = none)) := by
       rcases HREST.out with ⟨h2, _⟩ | ⟨key, l1, h2, h3⟩
       ·have := HDK.out; rw [h2] at this; cases this
       ·have := HDK.out; rw [h2] at this; cases this; exact ⟨_, rfl, h3⟩
      have HL1 := Aside0.mk hl1
      clear hl1
      rcases hkey with ⟨hk0, hrest⟩ | ⟨hk0, hrest⟩ | ⟨hk0, hrest⟩ | ⟨hk0 | hk0 | hk0, hRT⟩
      ·have v4k : Go.bits .or .u64 (a : Int) (s : Int) = 10 := by rw [v4, hk0]; rfl
       clear v4
       have kb4 : Go.bits .and .u64 10 7 = 2 := by decide +kernel
       have kb5 : wrap32 1 = 1 := by decide +kernel
       have kb6 : wrap64 2 = 2 := by decide +kernel
       clear hk0
       obtain ⟨RH, hR, hrest2⟩ := lenR_step hrest
       rw [HL1.out] at hR
       have HRH := Aside0.mk hR
       have HIH := Aside0.mk HLK.out
       have HNH : Aside0 (RH = none → RT = none) := ⟨fun h => by rcases hrest2 with ⟨_, h2⟩ | ⟨key, l1, h2, _⟩; (exact h2); (rw [h] at h2; cases h2)⟩
       have HVH : Aside0 (∀ v r, RH = some (v, r) → v < 2 ^ 63) := ⟨fun v r h => rdv_lt 9 _ v r (fun x hx => HBX.out x (List.mem_of_mem_drop hx)) (by rw [HRH.out, h])⟩
       have HREST2 := Aside0.mk hrest2
       have XK := XK1
       obtain ⟨i1, hi1⟩ : ∃ i1, i1 = k + j + 1 := ⟨_, rfl⟩
       rw [← hi1] at HRH HIH XK
       clear hrest hR hrest2 hi1
       go_wp2_with fail
       refine wp_loop_f m50_2 10 (fun kq us w' => ∃ (x y z : Int), us 6 = .int .i64 x ∧ us 14 = .int .u64 y ∧ us 13 = .int .i64 z ∧ Aside0 (w' = WK) ∧ Aside0 (∃ j a : Nat, x = ((i1 + j : Nat) : Int) ∧ y = ((7 * j : Nat) : Int) ∧ z = (a : Int) ∧ j + kq = 10 ∧ VI xs i1 9 RH j a)) ?atSH (by kernel_rfl) ?rndH
       case atSH => exact ⟨_, 0, 0, rfl, rfl, rfl, ⟨rfl⟩, ⟨0, 0, XK.out, rfl, rfl, rfl, VI.start HRH.out (by decide) HIH.out⟩⟩
       case rndH =>
        intro gkH usH WH hrel JH KH hJH hKH
        dsimp only [ovl, m50_2]
        obtain ⟨x, y, z, h6, hsh, hz, HW, HJ⟩ := hrel
        rw [h6, hsh, hz]
        clear h6 hsh hz
        have ew := HW.out
        subst ew
        obtain ⟨j, a, hxj, hyj, hza, hjk, hVI⟩ := HJ.out
        subst hza
        have hj9 : j ≤ 9 := by have := hVI.jk; omega
        have m1 : decide ((64 : Int) ≤ y) = false := decide_eq_false (by omega)
        have HJ0 := Aside0.mk (show j + gkH = 10 ∧ j ≤ 9 from ⟨hjk, hj9⟩)
        rcases hVI.byte (b := 63) HBX.out (by decide) HVH.out with ⟨hA, hRn⟩ | ⟨cc, m, hc, hlt, hc256, hm, hsb, hBC⟩
        ·have m2 : decide ((n : Int) ≤ x) = true := decide_eq_true (by have := HN.out; omega)
         have HRT := Aside0.mk (HNH.out hRn)
         obtain ⟨T1, X1, hg1⟩ := (HGE.out.below HLM.out.below).2.1
         clear hA hRn hxj hyj hjk hVI HJ hj9
         go_wp2_with fail
         go_ret
         exact UmPost.err HRT.out _ _ HLM.out.below
        ·obtain ⟨v1, v2, v3, v4⟩ := acc_words .i64 63 (by decide) (by decide) words_i64 hc256 hm hVI.lt hsb
         obtain ⟨s, hs⟩ : ∃ s : Nat, s = m * 2 ^ (7 * j) := ⟨_, rfl⟩
         rw [← hs] at v3 v4 hsb hBC
         obtain ⟨a1, ha1⟩ : ∃ q : Nat, q = a + s := ⟨_, rfl⟩
         rw [← ha1] at v4 hBC hsb
         rw [← hyj] at v3
         rw [← hxj] at hc
         obtain ⟨ad', eA, hx⟩ := Kd.at_int HLM.out.inp x (by omega) (by have := HN.out; omega)
         injection eA with eA
         subst eA
         rw [hc] at hx
         obtain ⟨x1, hx1⟩ : ∃ z : Int, wrap64 (x + 1) = z := ⟨_, rfl⟩
         have hx1w : IntKind.i64.wrap (x + 1) = x1 := (i64_w _).trans hx1
         have XH1 := Aside0.mk (show x1 = ((i1 + j + 1 : Nat) : Int) by have := HN2.out; have := HN.out; rw [← hx1]; unfold wrap64; omega)
         have HLH := Aside0.mk (show i1 + j + 1 ≤ xs.length by omega)
         obtain ⟨y1, hy1⟩ : ∃ z : Int, IntKind.u64.wrap (y + 7) = z := ⟨_, rfl⟩
         have Y1 := Aside0.mk (show y1 = ((7 * (j + 1) : Nat) : Int) by rw [← hy1, words_u64 _ (by omega) (by omega)]; omega)
         have m2 : decide ((n : Int) ≤ x) = false := decide_eq_false (by have := HN.out; omega)
         have m3 : (x < (n : Int)) = True := eq_true (by have := HN.out; omega)
         have m4 : ((0 : Int) ≤ x) = True := eq_true (by omega)
         have m6 : (0 : Int) ≤ y := by omega
         have m7 : min y.toNat 64 = y.toNat := Nat.min_eq_left (by omega)
         have m8 : min y.toNat IntKind.i64.bits = y.toNat := m7
         have HBC := Aside0.mk hBC
         have HSB := Aside0.mk hsb
         by_cases hl : cc < 128
         ·have m5 : decide ((cc : Int) < 128) = true := decide_eq_true (by omega)
          have m5n : decide (cc < 128) = true := decide_eq_true hl
          have HDH : Aside0 (RH = some (a1, xs.drop (i1 + j + 1))) := ⟨by rcases HBC.out with ⟨_, h⟩ | ⟨h, _⟩; (exact h); omega⟩
          clear hl HBC
          have v2w : wrap64 (m : Int) = (m : Int) := (i64_w _).symm.trans v2
          have v3w : wrap64 ((m : Int) * 2 ^ y.toNat) = (s : Int) := (i64_w _).symm.trans v3
          clear hxj hyj hjk hVI HJ hj9 hlt hc256 hm hs ha1 hsb hBC hc HW
          have a63 : a1 < 2 ^ 63 := HSB.out
          have HA63 := Aside0.mk a63
          obtain ⟨l2, hl2, hlen⟩ : ∃ l2, l2 = xs.drop (i1 + j + 1) ∧ ((a1 ≤ l2.length ∧ umL k' (l2.drop a1) { sl with hash := some (l2.take a1) } = some RT) ∨ (l2.length < a1 ∧ RT = none)) := by
           rcases HREST2.out with ⟨h2, _⟩ | ⟨key, l1, h2, h3⟩
           ·have := HDH.out; rw [h2] at this; cases this
           ·have := HDH.out; rw [h2] at this; cases this; exact ⟨_, rfl, h3⟩
          have hl2n : l2.length + (i1 + j + 1) = xs.length := by rw [hl2, List.length_drop]; have := HLH.out; omega
          have HL2 := Aside0.mk hl2
          have HL2N := Aside0.mk hl2n
          clear hl2
          obtain ⟨p, hp⟩ : ∃ z : Int, wrap64 (x1 + (a1 : Int)) = z := ⟨_, rfl⟩
          have hpw : IntKind.i64.wrap (x1 + (a1 : Int)) = p := (i64_w _).trans hp
          have q1 : decide ((a1 : Int) < 0) = false := decide_eq_false (by omega)
          rcases hlen with ⟨hle, hum⟩ | ⟨hgt, hRT⟩
          ·have hpv : p = ((i1 + j + 1 + a1 : Nat) : Int) ∧ i1 + j + 1 + a1 ≤ n := by have h1 := XH1.out; have h2 := HN2.out; have h3 := HN.out; refine ⟨?_, by omega⟩; rw [← hp]; unfold wrap64; omega
           have HPV := Aside0.mk hpv
           have HPX := Aside0.mk (show i1 + j + 1 + a1 ≤ xs.length by have h1 := hpv.2; have h2 := HN.out; omega)
           have HUM := Aside0.mk hum
           have HLE := Aside0.mk hle
           have q2 : decide (p < 0) = false := decide_eq_false (by omega)
           have q3 : decide ((n : Int) < p) = false := decide_eq_false (by omega)
           obtain ⟨i05, hi05, hsz5⟩ : ∃ i, Tryd.prog.info? 5 = some i ∧ i.size = 1 := Option.map_eq_some_iff.1 info5s
           have hx1p : (x1 ≤ p) = True := eq_true (by have := XH1.out; omega)
           have hx10 : ((0 : Int) ≤ x1) = True := eq_true (by have := XH1.out; omega)
           have hcutB := cut_mid (P := Tryd.prog) 22 5 .i64 .i64 Tryd.underlying22 hi05 1 hsz5 (some ad) n c x1 p (of_eq_true hx10) (of_eq_true hx1p) (by omega) HNC.out
           obtain ⟨DD, hDD⟩ : ∃ D_, D_ = (if c = x1.toNat then some ad else Option.map (fun x : Addr => x.add (x1.toNat * 1)) (some ad)) := ⟨_, rfl⟩
           rw [← hDD] at hcutB
           obtain ⟨pl, hpl⟩ : ∃ m : Nat, m = p.toNat - x1.toNat := ⟨_, rfl⟩
           rw [← hpl] at hcutB
           obtain ⟨cD, hcD⟩ : ∃ m : Nat, m = c - x1.toNat := ⟨_, rfl⟩
           rw [← hcD] at hcutB
           have HPL := Aside0.mk (show pl = a1 by have := XH1.out; omega)
           obtain ⟨hs, hhs⟩ : ∃ q, q = l2.take a1 := ⟨_, rfl⟩
           have hsl : hs.length = a1 := by rw [hhs, List.length_take]; omega
           have HHS := Aside0.mk hhs
           have HSL := Aside0.mk hsl
           have hd2 : xs.drop (i1 + j + 1) = hs ++ l2.drop a1 := by rw [← HL2.out, hhs, List.take_append_drop]
           have HCX : Aside0 (Kd.C (Kd.int .u8) WH DD pl hs) := ⟨by rw [hDD, hpl]; have h1 := XH1.out; have h2 : p.toNat = x1.toNat + hs.length := (by omega); exact mid_row (j := p.toNat) HLM.out.inp HNC.out (by rw [h1, Int.toNat_natCast]; exact hd2) (by rw [h1, Int.toNat_natCast]; exact HLH.out) h2⟩
           have HUM2 : Aside0 (umL k' (xs.drop (i1 + j + 1 + a1)) { sl with hash := some hs } = some RT) := ⟨by rw [hhs, ← List.drop_drop, ← HL2.out]; exact HUM.out⟩
           obtain ⟨A0, n0, cap0, xs0, rfl, hn0, hRu⟩ := HLM.out.hashR
           have HRU := Aside0.mk hRu
           have hg1 : WH.cell? ⟨g, 0, none⟩ = some (.slice A0 n0 cap0) := (blk_cell HLM.out.blk 0).trans rfl
           have hcutA := cut_to (P := Tryd.prog) 22 5 .i64 Tryd.underlying22 hi05 A0 n0 cap0 (0 : Int) (Int.le_refl _) (by omega) hn0
           have hN1 : some g ≠ (Value.slice A0 0 cap0).ownBlock := by rw [own_cut A0 0 n0 cap0 cap0]; exact Kd.R_ne hRu HLM.out.blk (by decide)
           have HN1 := Aside0.mk hN1
           clear hi05 hsz5 hDD hpl hcD hhs hsl hd2 hn0 hRu hN1 hpv hum hle hl2n hp a63
           go_wp2_with fail
           refine start_ (n := 14) (S := fun w' => w'.cell? ⟨g, 0, none⟩ = some (.slice A0 n0 cap0)) (ds := [13]) #[false, false, false, false, false, false, false, false, false, false, false, false, false, false] (by kernel_rfl) rfl rfl (hg1) (fun hHeld => ?_)
           refine pure_ (i := 0) (N := some 155) (v := ?_) (a' := ?_) #[true, false, false, false, false, false, false, false, false, false, false, false, false, false] rfl rfl (by kernel_rfl) (fun _ _ _ h => h) (Or.inl ⟨by rfl, ?_⟩) ?_ ?_
           rotate_left
           ·intro w'
            go_simp
            with_reducible rfl
           rotate_left
           ·simp only [Act.put, List.setIfInBounds_toArray, List.set_cons_zero, List.set_cons_succ, i64_w, i32_w]
            rfl
           refine pure_ (i := 1) (N := some 156) (v := ?_) (a' := ?_) #[true, true, false, false, false, false, false, false, false, false, false, false, false, false] rfl rfl (by kernel_rfl) (fun _ _ _ h => h) (Or.inl ⟨by rfl, ?_⟩) ?_ ?_
           rotate_left
           ·intro w'
            go_simp
            with_reducible rfl
           rotate_left
           ·simp only [Act.put, List.setIfInBounds_toArray, List.set_cons_zero, List.set_cons_succ, i64_w, i32_w]
            rfl
           refine pure_ (i := 2) (N := some 157) (v := ?_) (a' := ?_) #[true, true, true, false, false, false, false, false, false, false, false, false, false, false] rfl rfl (by kernel_rfl) (fun _ _ _ h => h) (Or.inl ⟨by rfl, ?_⟩) ?_ ?_
           rotate_left
           ·intro w'
            go_simp
            with_reducible rfl
           rotate_left
           ·simp only [Act.put, List.setIfInBounds_toArray, List.set_cons_zero, List.set_cons_succ, i64_w, i32_w]
            rfl
           refine pure_ (i := 3) (N := some 158) (v := ?_) (a' := ?_) #[true, true, true, true, false, false, false, false, false, false, false, false, false, false] rfl rfl (by kernel_rfl) (fun _ _ _ h => h) (Or.inl ⟨by rfl, ?_⟩) ?_ ?_
           rotate_left
           ·intro w'
            go_simp
            with_reducible rfl
           rotate_left
           ·simp only [Act.put, List.setIfInBounds_toArray, List.set_cons_zero, List.set_cons_succ, i64_w, i32_w]
            rfl
           refine pure_ (i := 6) (N := some 161) (v := ?_) (a' := ?_) #[true, true, true, true, false, false, true, false, false, false, false, false, false, false] rfl rfl (by kernel_rfl) (fun _ _ _ h => h) (Or.inl ⟨by rfl, ?_⟩) ?_ ?_
           rotate_left
           ·intro w'
            go_simp
            with_reducible rfl
           rotate_left
           ·simp only [Act.put, List.setIfInBounds_toArray, List.set_cons_zero, List.set_cons_succ, i64_w, i32_w]
            rfl
           refine pure_ (i := 7) (N := some 162) (v := ?_) (a' := ?_) #[true, true, true, true, false, false, true, true, false, false, false, false, false, false] rfl rfl (by kernel_rfl) (fun _ _ _ h => h) (Or.inl ⟨by rfl, ?_⟩) ?_ ?_
           rotate_left
           ·intro w'
            go_simp
            with_reducible rfl
           rotate_left
           ·simp only [Act.put, List.setIfInBounds_toArray, List.set_cons_zero, List.set_cons_succ, i64_w, i32_w]
            rfl
           refine pure_ (i := 8) (N := some 163) (v := ?_) (a' := ?_) #[true, true, true, true, false, false, true, true, true, false, false, false, false, false] rfl rfl (by kernel_rfl) (fun _ _ _ h => h) (Or.inl ⟨by rfl, ?_⟩) ?_ ?_
           rotate_left
           ·intro w'
            go_simp
            with_reducible rfl
           rotate_left
           ·simp only [Act.put, List.setIfInBounds_toArray, List.set_cons_zero, List.set_cons_succ, i64_w, i32_w]
            rfl
           refine pure_ (i := 9) (N := some 164) (v := ?_) (a' := ?_) #[true, true, true, true, false, false, true, true, true, true, false, false, false, false] rfl rfl (by kernel_rfl) (fun _ _ _ h => h) (Or.inl ⟨by rfl, ?_⟩) ?_ ?_
           rotate_left
           ·intro w'
            go_simp
            with_reducible rfl
           rotate_left
           ·simp only [Act.put, List.setIfInBounds_toArray, List.set_cons_zero, List.set_cons_succ, i64_w, i32_w]
            rfl
           refine take_ (i := 4) (N := some 159) (v := ?_) (a' := ?_) #[true, true, true, true, true, false, true, true, true, true, false, false, false, false] rfl rfl (by kernel_rfl) (fun _ _ _ h => h) (Or.inl ⟨by rfl, ?_⟩) hHeld ?_ ?_
           rotate_left
           ·intro w' s0
            go_simp
            with_reducible rfl
           rotate_left
           ·simp only [Act.put, List.setIfInBounds_toArray, List.set_cons_zero, List.set_cons_succ, i64_w, i32_w]
            rfl
           refine pure_ (i := 5) (N := some 160) (v := ?_) (a' := ?_) #[true, true, true, true, true, true, true, true, true, true, false, false, false, false] rfl rfl (by kernel_rfl) (fun _ _ _ h => h) (Or.inl ⟨by rfl, ?_⟩) ?_ ?_
           rotate_left
           ·intro w'
            go_simp
            with_reducible rfl
           rotate_left
           ·simp only [Act.put, List.setIfInBounds_toArray, List.set_cons_zero, List.set_cons_succ, i64_w, i32_w]
            rfl
           refine one_ (i := 10) (N := some 165) #[true, true, true, true, true, true, true, true, true, true, true, false, false, false] rfl rfl (by kernel_rfl) (by decide) (fun K hK => ?_)
           refine Kd.R_append_rows_step (Kd.int .u8) (Rr := fun x cs => cs = [Value.int .u8 x]) (w0 := w0) w0.heap.size (by rfl) (.tmp 160) (.tmp 164) 22 5 (.int .u8 0) 1 rfl Tryd.underlying22 info5e rfl (by decide) (by decide) (.slice A0 0 cap0) [] hs DD pl _ (okz (some ad) n g) (fun _ => False) rfl rfl (R_cut0 (Kd.R_drew HRU.out)) (Kd.C_drew HCX.out) (fun x cs hx => hx) (fun _ hk => hk.elim) (fun k hk => HLM.out.okNew k hk) (below_drew HLM.out.below) (below_size (below_drew HLM.out.below)) (by have h1 := HPL.out; have h2 := HLE.out; have h3 := HL2N.out; have h4 := HN2.out; have h5 := HN.out; simp only [List.length_nil]; omega) ?_
           intro va wa hR hB hg hat
           rw [List.nil_append] at hR
           obtain ⟨AA, cA, rfl⟩ := Kd.R_slice hR
           have HRa := Aside0.mk hR
           have HBa := Aside0.mk hB
           have HGa := Aside0.mk hg
           have hga_ := (hg.block g (blk_lt HLM.out.blk) HN1.out).trans HLM.out.blk
           have HGAB := Aside0.mk hga_
           have hga := (blk_cell hga_ 0).trans rfl
           have hgaf := blk_frozen hga_ 0
           clear hR hB hg hat hg1 hga_
           refine hK.out _ _ (hga) (fun hHeld => ?_)
           clear hK K
           refine norm_ (a' := ?_) ?_ ?_
           rotate_left
           ·show Act.put _ (some 165) _ = _
            simp only [Act.put, List.setIfInBounds_toArray, List.set_cons_zero, List.set_cons_succ, i64_w, i32_w]
            rfl
           refine pure_ (i := 11) (N := some 166) (v := ?_) (a' := ?_) #[true, true, true, true, true, true, true, true, true, true, true, true, false, false] rfl rfl (by kernel_rfl) (fun _ _ _ h => h) (Or.inl ⟨by rfl, ?_⟩) ?_ ?_
           rotate_left
           ·intro w'
            go_simp
            with_reducible rfl
           rotate_left
           ·simp only [Act.put, List.setIfInBounds_toArray, List.set_cons_zero, List.set_cons_succ, i64_w, i32_w]
            rfl
           refine pure_ (i := 12) (N := some 167) (v := ?_) (a' := ?_) #[true, true, true, true, true, true, true, true, true, true, true, true, true, false] rfl rfl (by kernel_rfl) (fun _ _ _ h => h) (Or.inl ⟨by rfl, ?_⟩) ?_ ?_
           rotate_left
           ·intro w'
            go_simp
            with_reducible rfl
           rotate_left
           ·simp only [Act.put, List.setIfInBounds_toArray, List.set_cons_zero, List.set_cons_succ, i64_w, i32_w]
            rfl
           refine last_ (i := 13) (N := none) #[true, true, true, true, true, true, true, true, true, true, true, true, true, true] rfl rfl (by kernel_rfl) (by decide) (fun K hK => ?_)
           refine skip_ (w1 := ?_) (by rfl) rfl ?_ ?_
           rotate_left
           ·go_simp
            rfl
           refine hK.out _ _ ?_
           clear hK K
           refine done_ (by kernel_rfl) ?_

           obtain ⟨wb, hwb⟩ : ∃ w_, w_ = wa.setCell ⟨g, 0, none⟩ (.slice AA hs.length cA) := ⟨_, rfl⟩
           rw [← hwb]
           have HWB := Aside0.mk hwb
           have hgb_ : wb.heap[g]? = some (.cells #[.slice AA hs.length cA, c1, c2, .slice none 0 0, .int .i32 0] 96 (0, 0)) := by rw [hwb]; exact blk_put HGAB.out 0 _ rfl
           have HGB := Aside0.mk hgb_
           have hgb := (blk_cell hgb_ 0).trans rfl
           have hgbf := blk_frozen hgb_ 0
           have HGD : Aside0 (WH.grownBy wa (Value.slice A0 n0 cap0).ownBlock) := ⟨⟨HGa.out.os, HGa.out.tape, HGa.out.output, HGa.out.size, fun k hk hne => HGa.out.block k hk (by rw [own_cut A0 0 n0 cap0 cap0]; exact hne)⟩⟩
           clear hwb hga hgaf hgb_
           cases AA with
           | some ad9 =>
            have heq9 : ∀ W : World, (binOp .eql 22 (.slice (some ad9) hs.length cA) (.slice none 0 0)).run Tryd.prog W = .ok (.bool false) W := fun W => Lib.run_eql_slice_nil W 22 5 (some ad9) hs.length cA 0 0 Tryd.underlying22
            go_wp2_with fail
            have HU2 : Aside0 (Lm (some ad) n xs w0 wb g { sl with hash := some hs } (.slice (some ad9) hs.length cA) c1 c2) := ⟨by rw [HWB.out]; exact HLM.out.setHash HRU.out (fun k hk _ hne => HGD.out.block k hk hne) HGAB.out HBa.out ad9 cA hs HRa.out⟩
            refine Handed.intro k' ?msH1 (hJ1 _ _ _ ?rlH1 ?frH1)
            case frH1 => kernel_rfl
            case msH1 => have := HK'.out; omega
            case rlH1 => exact ⟨p, rfl, ⟨i1 + j + 1 + a1, _, _, _, _, HPV.out.1, HPX.out, HUM2.out, HU2.out⟩⟩
           | none =>
            have heq9 : ∀ W : World, (binOp .eql 22 (.slice none hs.length cA) (.slice none 0 0)).run Tryd.prog W = .ok (.bool true) W := fun W => Lib.run_eql_slice_nil W 22 5 none hs.length cA 0 0 Tryd.underlying22
            have HBW : Aside0 (Below w0.heap.size w0 wb) := ⟨by rw [HWB.out]; exact below_set HBa.out HLM.out.gge⟩
            go_wp2_with (first | ((with_reducible refine gate_dst (N := 174) rfl ?_); refine Kd.R_lit (Kd.int .u8) (w0 := w0) (W := wb) w0.heap.size 5 rfl (N := 174) rfl (xs := ([] : List Int)) (inner := []) (ok := okz (some ad) n g) (okp := fun _ => False) ?hr22 (by constructor <;> simp) (fun _ hk => hk.elim) (HLM.out.okNew _ (Nat.le_trans HGD.out.size (by rw [HWB.out]; simp [World.setCell]))) HBW.out HBW.out.size (by simp) ?_; (case hr22 => first | (go_simp; done) | (go_simp; rfl)); intro v9 we hR9 hB9 hG9 hat9; obtain ⟨ad9, c9, rfl⟩ := own_some hR9 hat9; have HR9 := Aside0.mk hR9; have HB9 := Aside0.mk hB9; have HG9 := Aside0.mk hG9; have hgc_ := (hG9.block g (blk_lt HGB.out) (by simp)).trans HGB.out; have hgc := (blk_cell hgc_ 0).trans rfl; have hgcf := blk_frozen hgc_ 0; clear hR9 hB9 hG9 hat9 hgc_ hgb hgbf) | ((with_reducible refine gate_store (t := 22) (p := 176) rfl ?_); refine store_event (t := 22) (p := 176) (v := ?vo_H2) (w1 := (we.setCell ⟨g, 0, none⟩ (.slice (some ad9) 0 c9))) ?hg ?ho ?hn ?hr ?_; (case ho => rfl); (case hg => rfl); (case hn => rfl); (case hr => first | (go_simp; done) | (go_simp; rfl)); intro wc hw; have HWC := Aside0.mk hw; clear hw hgc hgcf))
            have hx0 : hs = [] := by
             rcases Nat.eq_zero_or_pos hs.length with h | h
             ·exact List.eq_nil_of_length_eq_zero h
             ·obtain ⟨g9, c9, e9, _⟩ := Kd.R_form HRa.out h
              cases e9
            have HU2 : Aside0 (Lm (some ad) n xs w0 wc g { sl with hash := some hs } (.slice (some ad9) 0 c9) c1 c2) := ⟨by
             rw [HWC.out, hx0]
             exact HLM.out.setHash HRU.out (fun k hk hkg hne => by
              refine (HG9.out.block k (Nat.lt_of_lt_of_le hk (Nat.le_trans HGD.out.size (by rw [HWB.out]; simp [World.setCell]))) (by simp)).trans ?_
              rw [HWB.out]
              exact (Below.heap_setCell wa ⟨g, 0, none⟩ _ k (by simpa using hkg)).trans (HGD.out.block k hk hne)) ((HG9.out.block g (blk_lt HGB.out) (by simp)).trans HGB.out) HB9.out ad9 c9 [] HR9.out⟩
            refine Handed.intro k' ?msH3 (hJ1 _ _ _ ?rlH3 ?frH3)
            case frH3 => kernel_rfl
            case msH3 => have := HK'.out; omega
            case rlH3 => exact ⟨p, rfl, ⟨i1 + j + 1 + a1, _, _, _, _, HPV.out.1, HPX.out, HUM2.out, HU2.out⟩⟩
          ·have HRT := Aside0.mk hRT
           have hxx := XH1.out
           have hnn := HN.out
           by_cases hov : i1 + j + 1 + a1 < 2 ^ 63
           ·have hpv : p = ((i1 + j + 1 + a1 : Nat) : Int) := by rw [← hp]; unfold wrap64; omega
            have q2 : decide (p < 0) = false := decide_eq_false (by omega)
            have q3 : decide ((n : Int) < p) = true := decide_eq_true (by omega)
            obtain ⟨T1, X1, hg1⟩ := (HGE.out.below HLM.out.below).2.1
            clear hpv hov hp hRT hgt hl2n hxx hnn a63
            go_wp2_with fail
            go_ret
            exact UmPost.err HRT.out _ _ HLM.out.below
           ·have hn2 := HN2.out
            have q2 : decide (p < 0) = true := decide_eq_true (by rw [← hp]; unfold wrap64; omega)
            obtain ⟨T1, X1, hg1⟩ := (HGE.out.below HLM.out.below).2.2
            clear hov hp hRT hgt hl2n hxx hnn a63 hn2
            go_wp2_with fail
            go_ret
            exact UmPost.err HRT.out _ _ HLM.out.below
         ·have m5 : decide ((cc : Int) < 128) = false := decide_eq_false (by omega)
          have m5n : decide (cc < 128) = false := decide_eq_false hl
          have HVN : Aside0 (VI xs i1 9 RH (j + 1) a1) := ⟨by rcases HBC.out with ⟨h, _⟩ | ⟨_, h⟩; (exact absurd h hl); exact h⟩
          clear hl HBC
          have v2w : wrap64 (m : Int) = (m : Int) := (i64_w _).symm.trans v2
          have v3w : wrap64 ((m : Int) * 2 ^ y.toNat) = (s : Int) := (i64_w _).symm.trans v3
          clear hxj hyj hjk hVI HJ hj9 hlt hc256 hm hs ha1 hsb hBC hc HW
          go_wp2_with fail
          refine Handed.intro (gkH - 1) ?msHb (hJH _ _ _ ?rlHb ?frHb)
          case frHb => kernel_rfl
          case msHb => have := HJ0.out; omega
          case rlHb => exact ⟨x1, y1, (a1 : Int), rfl, rfl, rfl, ⟨rfl⟩, ⟨j + 1, a1, XH1.out, Y1.out, rfl, by have := HJ0.out; omega, HVN.out⟩⟩
      ·have v4k : Go.bits .or .u64 (a : Int) (s : Int) = 18 := by rw [v4, hk0]; rfl
       clear v4
       have kb4 : Go.bits .and .u64 18 7 = 2 := by decide +kernel
       have kb5 : wrap32 2 = 2 := by decide +kernel
       have kb6 : wrap64 2 = 2 := by decide +kernel
       clear hk0
       obtain ⟨RN, hR, hrest2⟩ := lenR_step hrest
       rw [HL1.out] at hR
       have HRN := Aside0.mk hR
       have HIN := Aside0.mk HLK.out
       have HNN : Aside0 (RN = none → RT = none) := ⟨fun h => by rcases hrest2 with ⟨_, h2⟩ | ⟨key, l1, h2, _⟩; (exact h2); (rw [h] at h2; cases h2)⟩
       have HVN : Aside0 (∀ v r, RN = some (v, r) → v < 2 ^ 64) := ⟨fun v r h => Nat.lt_trans (rdv_lt 9 _ v r (fun x hx => HBX.out x (List.mem_of_mem_drop hx)) (by rw [HRN.out, h])) (by decide)⟩
       have HREST2 := Aside0.mk hrest2
       have XK := XK1
       obtain ⟨i1, hi1⟩ : ∃ i1, i1 = k + j + 1 := ⟨_, rfl⟩
       rw [← hi1] at HRN HIN XK
       clear hrest hR hrest2 hi1
       go_wp2_with fail
       refine wp_loop_f m50_3 10 (fun kq us w' => ∃ (x y z : Int), us 6 = .int .i64 x ∧ us 18 = .int .u64 y ∧ us 17 = .int .u64 z ∧ Aside0 (w' = WK) ∧ Aside0 (∃ j a : Nat, x = ((i1 + j : Nat) : Int) ∧ y = ((7 * j : Nat) : Int) ∧ z = (a : Int) ∧ j + kq = 10 ∧ VI xs i1 9 RN j a)) ?atSN (by kernel_rfl) ?rndN
       case atSN => exact ⟨_, 0, 0, rfl, rfl, rfl, ⟨rfl⟩, ⟨0, 0, XK.out, rfl, rfl, rfl, VI.start HRN.out (by decide) HIN.out⟩⟩
       case rndN =>
        intro gkN usN WN hrel JN KN hJN hKN
        dsimp only [ovl, m50_3]
        obtain ⟨x, y, z, h6, hsh, hz, HW, HJ⟩ := hrel
        rw [h6, hsh, hz]
        clear h6 hsh hz
        have ew := HW.out
        subst ew
        obtain ⟨j, a, hxj, hyj, hza, hjk, hVI⟩ := HJ.out
        subst hza
        have hj9 : j ≤ 9 := by have := hVI.jk; omega
        have m1 : decide ((64 : Int) ≤ y) = false := decide_eq_false (by omega)
        have HJ0 := Aside0.mk (show j + gkN = 10 ∧ j ≤ 9 from ⟨hjk, hj9⟩)
        rcases hVI.byte (b := 64) HBX.out (by decide) HVN.out with ⟨hA, hRn⟩ | ⟨cc, m, hc, hlt, hc256, hm, hsb, hBC⟩
        ·have m2 : decide ((n : Int) ≤ x) = true := decide_eq_true (by have := HN.out; omega)
         have HRT := Aside0.mk (HNN.out hRn)
         obtain ⟨T1, X1, hg1⟩ := (HGE.out.below HLM.out.below).2.1
         clear hA hRn hxj hyj hjk hVI HJ hj9
         go_wp2_with fail
         go_ret
         exact UmPost.err HRT.out _ _ HLM.out.below
        ·obtain ⟨v1, v2, v3, v4⟩ := acc_words .u64 64 (by decide) (by decide) words_u64 hc256 hm hVI.lt hsb
         obtain ⟨s, hs⟩ : ∃ s : Nat, s = m * 2 ^ (7 * j) := ⟨_, rfl⟩
         rw [← hs] at v3 v4 hsb hBC
         obtain ⟨a1, ha1⟩ : ∃ q : Nat, q = a + s := ⟨_, rfl⟩
         rw [← ha1] at v4 hBC hsb
         rw [← hyj] at v3
         rw [← hxj] at hc
         obtain ⟨ad', eA, hx⟩ := Kd.at_int HLM.out.inp x (by omega) (by have := HN.out; omega)
         injection eA with eA
         subst eA
         rw [hc] at hx
         obtain ⟨x1, hx1⟩ : ∃ z : Int, wrap64 (x + 1) = z := ⟨_, rfl⟩
         have hx1w : IntKind.i64.wrap (x + 1) = x1 := (i64_w _).trans hx1
         have XN1 := Aside0.mk (show x1 = ((i1 + j + 1 : Nat) : Int) by have := HN2.out; have := HN.out; rw [← hx1]; unfold wrap64; omega)
         have HLN := Aside0.mk (show i1 + j + 1 ≤ xs.length by omega)
         obtain ⟨y1, hy1⟩ : ∃ z : Int, IntKind.u64.wrap (y + 7) = z := ⟨_, rfl⟩
         have Y1 := Aside0.mk (show y1 = ((7 * (j + 1) : Nat) : Int) by rw [← hy1, words_u64 _ (by omega) (by omega)]; omega)
         have m2 : decide ((n : Int) ≤ x) = false := decide_eq_false (by have := HN.out; omega)
         have m3 : (x < (n : Int)) = True := eq_true (by have := HN.out; omega)
         have m4 : ((0 : Int) ≤ x) = True := eq_true (by omega)
         have m6 : (0 : Int) ≤ y := by omega
         have m7 : min y.toNat 64 = y.toNat := Nat.min_eq_left (by omega)
         have m8 : min y.toNat IntKind.u64.bits = y.toNat := m7
         have HBC := Aside0.mk hBC
         have HSB := Aside0.mk hsb
         by_cases hl : cc < 128
         ·have m5 : decide ((cc : Int) < 128) = true := decide_eq_true (by omega)
          have m5n : decide (cc < 128) = true := decide_eq_true hl
          have HDN : Aside0 (RN = some (a1, xs.drop (i1 + j + 1))) := ⟨by rcases HBC.out with ⟨_, h⟩ | ⟨h, _⟩; (exact h); omega⟩
          clear hl HBC
          clear hxj hyj hjk hVI HJ hj9 hlt hc256 hm hs ha1 hsb hBC hc HW
          have a63 : a1 < 2 ^ 63 := rdv_lt 9 _ a1 _ (fun x hx => HBX.out x (List.mem_of_mem_drop hx)) (HRN.out.trans (congrArg some HDN.out))
          have HA63 := Aside0.mk a63
          obtain ⟨l2, hl2, hlen⟩ : ∃ l2, l2 = xs.drop (i1 + j + 1) ∧ ((a1 ≤ l2.length ∧ umL k' (l2.drop a1) { sl with name := some (l2.take a1) } = some RT) ∨ (l2.length < a1 ∧ RT = none)) := by
           rcases HREST2.out with ⟨h2, _⟩ | ⟨key, l1, h2, h3⟩
           ·have := HDN.out; rw [h2] at this; cases this
           ·have := HDN.out; rw [h2] at this; cases this; exact ⟨_, rfl, h3⟩
          have hl2n : l2.length + (i1 + j + 1) = xs.length := by rw [hl2, List.length_drop]; have := HLN.out; omega
          have HL2 := Aside0.mk hl2
          have HL2N := Aside0.mk hl2n
          clear hl2
          obtain ⟨p, hp⟩ : ∃ z : Int, wrap64 (x1 + (a1 : Int)) = z := ⟨_, rfl⟩
          have hpw : IntKind.i64.wrap (x1 + (a1 : Int)) = p := (i64_w _).trans hp
          have q1 : decide ((a1 : Int) < 0) = false := decide_eq_false (by omega)
          have A1W : Aside0 (wrap64 (a1 : Int) = (a1 : Int)) := ⟨by unfold wrap64; omega⟩
          rcases hlen with ⟨hle, hum⟩ | ⟨hgt, hRT⟩
          ·have hpv : p = ((i1 + j + 1 + a1 : Nat) : Int) ∧ i1 + j + 1 + a1 ≤ n := by have h1 := XN1.out; have h2 := HN2.out; have h3 := HN.out; refine ⟨?_, by omega⟩; rw [← hp]; unfold wrap64; omega
           have HPV := Aside0.mk hpv
           have HPX := Aside0.mk (show i1 + j + 1 + a1 ≤ xs.length by have h1 := hpv.2; have h2 := HN.out; omega)
           have HUM := Aside0.mk hum
           have HLE := Aside0.mk hle
           have q2 : decide (p < 0) = false := decide_eq_false (by omega)
           have q3 : decide ((n : Int) < p) = false := decide_eq_false (by omega)
           obtain ⟨i05, hi05, hsz5⟩ : ∃ i, Tryd.prog.info? 5 = some i ∧ i.size = 1 := Option.map_eq_some_iff.1 info5s
           have hx1p : (x1 ≤ p) = True := eq_true (by have := XN1.out; omega)
           have hx10 : ((0 : Int) ≤ x1) = True := eq_true (by have := XN1.out; omega)
           have hcutB := cut_mid (P := Tryd.prog) 22 5 .i64 .i64 Tryd.underlying22 hi05 1 hsz5 (some ad) n c x1 p (of_eq_true hx10) (of_eq_true hx1p) (by omega) HNC.out
           obtain ⟨DD, hDD⟩ : ∃ D_, D_ = (if c = x1.toNat then some ad else Option.map (fun x : Addr => x.add (x1.toNat * 1)) (some ad)) := ⟨_, rfl⟩
           rw [← hDD] at hcutB
           obtain ⟨pl, hpl⟩ : ∃ m : Nat, m = p.toNat - x1.toNat := ⟨_, rfl⟩
           rw [← hpl] at hcutB
           obtain ⟨cD, hcD⟩ : ∃ m : Nat, m = c - x1.toNat := ⟨_, rfl⟩
           rw [← hcD] at hcutB
           have HPL := Aside0.mk (show pl = a1 by have := XN1.out; omega)
           obtain ⟨hs, hhs⟩ : ∃ q, q = l2.take a1 := ⟨_, rfl⟩
           have hsl : hs.length = a1 := by rw [hhs, List.length_take]; omega
           have HHS := Aside0.mk hhs
           have HSL := Aside0.mk hsl
           have hd2 : xs.drop (i1 + j + 1) = hs ++ l2.drop a1 := by rw [← HL2.out, hhs, List.take_append_drop]
           have HCX : Aside0 (Kd.C (Kd.int .u8) WN DD pl hs) := ⟨by rw [hDD, hpl]; have h1 := XN1.out; have h2 : p.toNat = x1.toNat + hs.length := (by omega); exact mid_row (j := p.toNat) HLM.out.inp HNC.out (by rw [h1, Int.toNat_natCast]; exact hd2) (by rw [h1, Int.toNat_natCast]; exact HLN.out) h2⟩
           have HUM2 : Aside0 (umL k' (xs.drop (i1 + j + 1 + a1)) { sl with name := some hs } = some RT) := ⟨by rw [hhs, ← List.drop_drop, ← HL2.out]; exact HUM.out⟩
           have hconv : ∀ w1 : World, Below WN.heap.size WN w1 → (convert 22 9 (.slice DD pl cD)).run Tryd.prog w1 = .ok (.string (strOfNums hs)) w1 := fun w1 hb => Kd.C_string Tryd.underlying22 Tryd.underlying5 Tryd.underlying9 (Kd.C_below HCX.out hb)
           obtain ⟨str, hstr⟩ : ∃ q, q = strOfNums hs := ⟨_, rfl⟩
           have hc1_ := hconv WN (Below.refl _ _)
           rw [← hstr] at hc1_
           have HSTR := Aside0.mk hstr
           clear hstr hi05 hsz5 hDD hpl hcD hhs hsl hd2 hpv hum hle hl2n hp a63 hconv
           have a1w := A1W.out
           have hbl := below_alloc (Below.refl WN.heap.size WN) (.cells #[.string str] 9)
           have hgx := (hbl.block g (blk_lt HLM.out.blk)).trans HLM.out.blk
           have hga := (blk_cell hgx 1).trans rfl
           have hgaf := blk_frozen hgx 1
           have HBL := Aside0.mk hbl
           clear hbl hgx
           go_wp2_with fail
           have HU2 : Aside0 (Lm (some ad) n xs w0 ((WN.alloc (.cells #[.string str] 9)).setCell ⟨g, 1, none⟩ (.pointer (some ⟨WN.heap.size, 0, none⟩))) g { sl with name := some hs } c0 (.pointer (some ⟨WN.heap.size, 0, none⟩)) c2) := ⟨HLM.out.setName HBL.out hs (by rw [HSTR.out]; exact blk_new WN _) (fun e => by have := blk_lt HLM.out.blk; omega)⟩
           refine Handed.intro k' ?msN1 (hJ1 _ _ _ ?rlN1 ?frN1)
           case frN1 => kernel_rfl
           case msN1 => have := HK'.out; omega
           case rlN1 => exact ⟨p, rfl, ⟨i1 + j + 1 + a1, _, _, _, _, HPV.out.1, HPX.out, HUM2.out, HU2.out⟩⟩
          ·have HRT := Aside0.mk hRT
           have hxx := XN1.out
           have hnn := HN.out
           by_cases hov : i1 + j + 1 + a1 < 2 ^ 63
           ·have hpv : p = ((i1 + j + 1 + a1 : Nat) : Int) := by rw [← hp]; unfold wrap64; omega
            have q2 : decide (p < 0) = false := decide_eq_false (by omega)
            have q3 : decide ((n : Int) < p) = true := decide_eq_true (by omega)
            obtain ⟨T1, X1, hg1⟩ := (HGE.out.below HLM.out.below).2.1
            clear hpv hov hp hRT hgt hl2n hxx hnn a63
            have a1w := A1W.out
            go_wp2_with fail
            go_ret
            exact UmPost.err HRT.out _ _ HLM.out.below
           ·have hn2 := HN2.out
            have q2 : decide (p < 0) = true := decide_eq_true (by rw [← hp]; unfold wrap64; omega)
            obtain ⟨T1, X1, hg1⟩ := (HGE.out.below HLM.out.below).2.2
            clear hov hp hRT hgt hl2n hxx hnn a63 hn2
            have a1w := A1W.out
            go_wp2_with fail
            go_ret
            exact UmPost.err HRT.out _ _ HLM.out.below
         ·have m5 : decide ((cc : Int) < 128) = false := decide_eq_false (by omega)
          have m5n : decide (cc < 128) = false := decide_eq_false hl
          have HVN : Aside0 (VI xs i1 9 RN (j + 1) a1) := ⟨by rcases HBC.out with ⟨h, _⟩ | ⟨_, h⟩; (exact absurd h hl); exact h⟩
          clear hl HBC
          clear hxj hyj hjk hVI HJ hj9 hlt hc256 hm hs ha1 hsb hBC hc HW
          go_wp2_with fail
          refine Handed.intro (gkN - 1) ?msNb (hJN _ _ _ ?rlNb ?frNb)
          case frNb => kernel_rfl
          case msNb => have := HJ0.out; omega
          case rlNb => exact ⟨x1, y1, (a1 : Int), rfl, rfl, rfl, ⟨rfl⟩, ⟨j + 1, a1, XN1.out, Y1.out, rfl, by have := HJ0.out; omega, HVN.out⟩⟩
      ·have v4k : Go.bits .or .u64 (a : Int) (s : Int) = 24 := by rw [v4, hk0]; rfl
       clear v4
       have kb4 : Go.bits .and .u64 24 7 = 0 := by decide +kernel
       have kb5 : wrap32 3 = 3 := by decide +kernel
       have kb6 : wrap64 0 = 0 := by decide +kernel
       clear hk0
       obtain ⟨RT_, hR, hrest2⟩ := numR_step hrest
       rw [HL1.out] at hR
       obtain ⟨RT2, hRT2⟩ : ∃ q, q = RT_ := ⟨_, rfl⟩
       subst hRT2
       have HRT := Aside0.mk hR
       have HIT := Aside0.mk HLK.out
       have HNT : Aside0 (RT2 = none → RT = none) := ⟨fun h => by rcases hrest2 with ⟨_, h2⟩ | ⟨key, l1, h2, _⟩; (exact h2); (rw [h] at h2; cases h2)⟩
       have HVT : Aside0 (∀ v r, RT2 = some (v, r) → v < 2 ^ 64) := ⟨fun v r h => by rcases hrest2 with ⟨h2, _⟩ | ⟨key, l1, h2, h3, _⟩; (rw [h] at h2; cases h2); (rw [h] at h2; cases h2; exact h3)⟩
       have HREST2 := Aside0.mk hrest2
       have XK := XK1
       obtain ⟨i1, hi1⟩ : ∃ i1, i1 = k + j + 1 := ⟨_, rfl⟩
       rw [← hi1] at HRT HIT XK
       have hga : WK.cell? ⟨g, 2, none⟩ = some c2 := (blk_cell HLM.out.blk 2).trans rfl
       clear hrest hR hrest2 hi1 hga
       go_wp2_with fail
       refine wp_loop_f m50_4 10 (fun kq us w' => ∃ (x y : Int), us 6 = .int .i64 x ∧ us 24 = .int .u64 y ∧ Aside0 (∃ j a : Nat, x = ((i1 + j : Nat) : Int) ∧ y = ((7 * j : Nat) : Int) ∧ j + kq = 10 ∧ VI xs i1 10 RT2 j a ∧ Below WK.heap.size WK w' ∧ w'.heap[WK.heap.size]? = some (.cells #[.int .u64 (a : Int)] 24 (0, 0)))) ?atST (by kernel_rfl) ?rndT
       case atST => exact ⟨_, 0, rfl, rfl, ⟨0, 0, XK.out, rfl, rfl, VI.start HRT.out (by decide) HIT.out, below_alloc (Below.refl _ _) _, blk_new WK (.cells #[.int .u64 0] 24)⟩⟩
       case rndT =>
        intro gkT usT WT hrel JT KT hJT hKT
        dsimp only [ovl, m50_4]
        obtain ⟨x, y, h6, hsh, HJ⟩ := hrel
        rw [h6, hsh]
        clear h6 hsh
        obtain ⟨j, a, hxj, hyj, hjk, hVI, hB, hbk⟩ := HJ.out
        have HB := Aside0.mk hB
        have HBK := Aside0.mk hbk
        have hcell : WT.cell? ⟨WK.heap.size, 0, none⟩ = some (.int .u64 (a : Int)) := (blk_cell hbk 0).trans rfl
        have hfro := blk_frozen hbk 0
        clear hB hbk
        have hj9 : j ≤ 9 := by have := hVI.jk; omega
        have m1 : decide ((64 : Int) ≤ y) = false := decide_eq_false (by omega)
        have HJ0 := Aside0.mk (show j + gkT = 10 ∧ j ≤ 9 from ⟨hjk, hj9⟩)
        rcases hVI.byte (b := 64) HBX.out (by decide) HVT.out with ⟨hA, hRn⟩ | ⟨cc, m, hc, hlt, hc256, hm, hsb, hBC⟩
        ·have m2 : decide ((n : Int) ≤ x) = true := decide_eq_true (by have := HN.out; omega)
         have HRT := Aside0.mk (HNT.out hRn)
         obtain ⟨T1, X1, hg1⟩ := (HGE.out.below (below_then HLM.out.below HLM.out.below.size HB.out)).2.1
         clear hA hRn hxj hyj hjk hVI HJ hj9
         go_wp2_with fail
         go_ret
         exact UmPost.err HRT.out _ _ (below_then HLM.out.below HLM.out.below.size HB.out)
        ·obtain ⟨v1, v2, v3, v4⟩ := acc_words .u64 64 (by decide) (by decide) words_u64 hc256 hm hVI.lt hsb
         obtain ⟨s, hs⟩ : ∃ s : Nat, s = m * 2 ^ (7 * j) := ⟨_, rfl⟩
         rw [← hs] at v3 v4 hsb hBC
         obtain ⟨a1, ha1⟩ : ∃ q : Nat, q = a + s := ⟨_, rfl⟩
         rw [← ha1] at v4 hBC hsb
         rw [← hyj] at v3
         rw [← hxj] at hc
         obtain ⟨ad', eA, hx⟩ := Kd.at_int (Kd.C_below HLM.out.inp HB.out) x (by omega) (by have := HN.out; omega)
         injection eA with eA
         subst eA
         rw [hc] at hx
         obtain ⟨x1, hx1⟩ : ∃ z : Int, wrap64 (x + 1) = z := ⟨_, rfl⟩
         have hx1w : IntKind.i64.wrap (x + 1) = x1 := (i64_w _).trans hx1
         have XT1 := Aside0.mk (show x1 = ((i1 + j + 1 : Nat) : Int) by have := HN2.out; have := HN.out; rw [← hx1]; unfold wrap64; omega)
         have HLT := Aside0.mk (show i1 + j + 1 ≤ xs.length by omega)
         obtain ⟨y1, hy1⟩ : ∃ z : Int, IntKind.u64.wrap (y + 7) = z := ⟨_, rfl⟩
         have Y1 := Aside0.mk (show y1 = ((7 * (j + 1) : Nat) : Int) by rw [← hy1, words_u64 _ (by omega) (by omega)]; omega)
         have m2 : decide ((n : Int) ≤ x) = false := decide_eq_false (by have := HN.out; omega)
         have m3 : (x < (n : Int)) = True := eq_true (by have := HN.out; omega)
         have m4 : ((0 : Int) ≤ x) = True := eq_true (by omega)
         have m6 : (0 : Int) ≤ y := by omega
         have m7 : min y.toNat 64 = y.toNat := Nat.min_eq_left (by omega)
         have m8 : min y.toNat IntKind.u64.bits = y.toNat := m7
         have HBC := Aside0.mk hBC
         have HSB := Aside0.mk hsb
         by_cases hl : cc < 128
         ·have m5 : decide ((cc : Int) < 128) = true := decide_eq_true (by omega)
          have m5n : decide (cc < 128) = true := decide_eq_true hl
          have HDT : Aside0 (RT2 = some (a1, xs.drop (i1 + j + 1))) := ⟨by rcases HBC.out with ⟨_, h⟩ | ⟨h, _⟩; (exact h); omega⟩
          clear hl HBC
          clear hxj hyj hjk hVI HJ hj9 hlt hc256 hm hs ha1 hsb hBC hc
          obtain ⟨l2, hl2, hv64, hum⟩ : ∃ l2, l2 = xs.drop (i1 + j + 1) ∧ a1 < 18446744073709551616 ∧ umL k' l2 { sl with ts := some a1 } = some RT := by
           rcases HREST2.out with ⟨h2, _⟩ | ⟨key, l1, h2, h3, h4⟩
           ·have := HDT.out; rw [h2] at this; cases this
           ·have := HDT.out; rw [h2] at this; cases this; exact ⟨_, rfl, h3, h4⟩
          have HUM := Aside0.mk hum
          have HL2 := Aside0.mk hl2
          clear hum hl2 hv64
          go_wp2_with (first | ((with_reducible refine gate_store (t := 24) (p := 23) rfl ?_); refine store_event (t := 24) (p := 23) (v := ?vo_Tl) (w1 := (WT.setCell ⟨WK.heap.size, 0, none⟩ (.int .u64 (a1 : Int)))) ?hg ?ho ?hn ?hr ?_; (case ho => rfl); (case hg => rfl); (case hn => rfl); (case hr => first | (go_simp; done) | (go_simp; rfl)); intro wa hw; have HBa : Aside0 (Below WK.heap.size WK wa) := ⟨by rw [hw]; exact below_set HB.out (Nat.le_refl _)⟩; have HKa : Aside0 (wa.heap[WK.heap.size]? = some (.cells #[.int .u64 (a1 : Int)] 24 (0, 0))) := ⟨by rw [hw]; exact blk_put HBK.out 0 _ rfl⟩; clear hw; have hg_ := (HBa.out.block g (blk_lt HLM.out.blk)).trans HLM.out.blk; have hga := (blk_cell hg_ 2).trans rfl; have hgaf := blk_frozen hg_ 2; clear hg_) | ((with_reducible refine gate_store (t := 93) (p := 262) rfl ?_); refine store_event (t := 93) (p := 262) (v := ?vo_T2) (w1 := (wa.setCell ⟨g, 2, none⟩ (.pointer (some ⟨WK.heap.size, 0, none⟩)))) ?hg ?ho ?hn ?hr ?_; (case ho => rfl); (case hg => rfl); (case hn => rfl); (case hr => first | (go_simp; done) | (go_simp; rfl)); intro wb hw; have HWB := Aside0.mk hw; clear hw hga hgaf))
          have HU2 : Aside0 (Lm (some ad) n xs w0 wb g { sl with ts := some a1 } c0 c1 (.pointer (some ⟨WK.heap.size, 0, none⟩))) := ⟨by rw [HWB.out]; exact HLM.out.setTs HBa.out a1 HKa.out (fun e => by have := blk_lt HLM.out.blk; omega)⟩
          refine Handed.intro k' ?msT1 (hJ1 _ _ _ ?rlT1 ?frT1)
          case frT1 => kernel_rfl
          case msT1 => have := HK'.out; omega
          case rlT1 => exact ⟨x1, rfl, ⟨i1 + j + 1, _, _, _, _, XT1.out, HLT.out, by rw [← HL2.out]; exact HUM.out, HU2.out⟩⟩
         ·have m5 : decide ((cc : Int) < 128) = false := decide_eq_false (by omega)
          have m5n : decide (cc < 128) = false := decide_eq_false hl
          have HVN : Aside0 (VI xs i1 10 RT2 (j + 1) a1) := ⟨by rcases HBC.out with ⟨h, _⟩ | ⟨_, h⟩; (exact absurd h hl); exact h⟩
          clear hl HBC
          clear hxj hyj hjk hVI HJ hj9 hlt hc256 hm hs ha1 hsb hBC hc
          go_wp2_with ((with_reducible refine gate_store (t := 24) (p := 23) rfl ?_); refine store_event (t := 24) (p := 23) (v := ?vo_Tm) (w1 := (WT.setCell ⟨WK.heap.size, 0, none⟩ (.int .u64 (a1 : Int)))) ?hg ?ho ?hn ?hr ?_; (case ho => rfl); (case hg => rfl); (case hn => rfl); (case hr => first | (go_simp; done) | (go_simp; rfl)); intro wa hw; have HBa : Aside0 (Below WK.heap.size WK wa) := ⟨by rw [hw]; exact below_set HB.out (Nat.le_refl _)⟩; have HKa : Aside0 (wa.heap[WK.heap.size]? = some (.cells #[.int .u64 (a1 : Int)] 24 (0, 0))) := ⟨by rw [hw]; exact blk_put HBK.out 0 _ rfl⟩; clear hw; have hg_ := (HBa.out.block g (blk_lt HLM.out.blk)).trans HLM.out.blk; have hga := (blk_cell hg_ 2).trans rfl; have hgaf := blk_frozen hg_ 2; clear hg_)
          refine Handed.intro (gkT - 1) ?msTb (hJT _ _ _ ?rlTb ?frTb)
          case frTb => kernel_rfl
          case msTb => have := HJ0.out; omega
          case rlTb => exact ⟨x1, y1, rfl, rfl, ⟨j + 1, a1, XT1.out, Y1.out, by have := HJ0.out; omega, HVN.out, HBa.out, HKa.out⟩⟩
      ·have v4k : Go.bits .or .u64 (a : Int) (s : Int) = 8 := by rw [v4, hk0]; rfl
       clear v4
       have kb4 : Go.bits .and .u64 8 7 = 0 := by decide +kernel
       have kb5 : wrap32 1 = 1 := by decide +kernel
       have kb6 : wrap64 0 = 0 := by decide +kernel
       clear hk0
       have HRT := Aside0.mk hRT
       clear hRT
       go_wp2_with (go_at_call 91; refine (errors_New.calls _ _ _ rfl).mono ?_; rintro e w9 ⟨T9, X9, rfl, hb9⟩; have HB9 := Aside0.mk hb9; clear hb9; (try simp only [errV_some]))
       go_ret
       exact UmPost.err HRT.out _ _ (below_then HLM.out.below HLM.out.below.size HB9.out)
      ·have v4k : Go.bits .or .u64 (a : Int) (s : Int) = 16 := by rw [v4, hk0]; rfl
       clear v4
       have kb4 : Go.bits .and .u64 16 7 = 0 := by decide +kernel
       have kb5 : wrap32 2 = 2 := by decide +kernel
       have kb6 : wrap64 0 = 0 := by decide +kernel
       clear hk0
       have HRT := Aside0.mk hRT
       clear hRT
       go_wp2_with (go_at_call 91; refine (errors_New.calls _ _ _ rfl).mono ?_; rintro e w9 ⟨T9, X9, rfl, hb9⟩; have HB9 := Aside0.mk hb9; clear hb9; (try simp only [errV_some]))
       go_ret
       exact UmPost.err HRT.out _ _ (below_then HLM.out.below HLM.out.below.size HB9.out)
      ·have v4k : Go.bits .or .u64 (a : Int) (s : Int) = 26 := by rw [v4, hk0]; rfl
       clear v4
       have kb4 : Go.bits .and .u64 26 7 = 2 := by decide +kernel
       have kb5 : wrap32 3 = 3 := by decide +kernel
       have kb6 : wrap64 2 = 2 := by decide +kernel
       clear hk0
       have HRT := Aside0.mk hRT
       clear hRT
       go_wp2_with (go_at_call 91; refine (errors_New.calls _ _ _ rfl).mono ?_; rintro e w9 ⟨T9, X9, rfl, hb9⟩; have HB9 := Aside0.mk hb9; clear hb9; (try simp only [errV_some]))
       go_ret
       exact UmPost.err HRT.out _ _ (below_then HLM.out.below HLM.out.below.size HB9.out)
     ·have m5 : decide ((cc : Int) < 128) = false := decide_eq_false (by omega)
      have m5n : decide (cc < 128) = false := decide_eq_false hl
      have HVN : Aside0 (VI xs k 10 RK (j + 1) a1) := ⟨by rcases HBC.out with ⟨h, _⟩ | ⟨_, h⟩; (exact absurd h hl); exact h⟩
      clear hl HBC
      clear hxj hyj hjk hVI HJ hj9 hlt hc256 hm hs ha1 hsb hBC hc HW
      go_wp2_with fail
      refine Handed.intro (gkK - 1) ?msKb (hJK _ _ _ ?rlKb ?frKb)
      case frKb => kernel_rfl
      case msKb => have := HJ0.out; omega
      case rlKb => exact ⟨x1, y1, (a1 : Int), rfl, rfl, rfl, ⟨rfl⟩, ⟨j + 1, a1, XK1.out, Y1.out, rfl, by have := HJ0.out; omega, HVN.out⟩⟩
end Go.Proofs.YtnhnlodmkbiiiaaDoor.HandFields
end
/- What a link of merkledag tells: its hash, its name and its size, each if it is there. -/
section
namespace Go.Proofs.YtnhnlodmkbiiiaaDoor.HandFields
open Go Go.RowKit Go.Proofs.YtnhnlodmkbiiiaaDoorL Go.Proofs.YtnhnlodmkbiiiaaDoorW.PrintWords Go.Proofs.YtnhnlodmkbiiiaaDoorW.PrintLast Go.Proofs.YtnhnlodmkbiiiaaDoorW.PrintMore Go.Proofs.YtnhnlodmkbiiiaaDoor.PFieldsBase
attribute [local go_sem] max2_int min2_int max_two min_two max_three min_three max_four min_four
set_option linter.unusedVariables false
set_option linter.unusedSimpArgs false
/-- A link in memory, to be read. -/
structure RdL (w : World) (g : Nat) (s : Lnk) (c0 c1 c2 : Value) : Prop where
 blk : w.heap[g]? = some (.cells #[c0, c1, c2, .slice none 0 0, .int .i32 0] 96 (0, 0))
 hash0 : s.hash = none → c0 = .slice none 0 0
 hash1 : ∀ xs, s.hash = some xs → ∃ A c, c0 = .slice (some A) xs.length c ∧ xs.length ≤ c ∧ Kd.C (Kd.int .u8) w (some A) xs.length xs
 name0 : s.name = none → c1 = .pointer none
 name1 : ∀ xs, s.name = some xs → ∃ p : Nat, c1 = .pointer (some ⟨p, 0, none⟩) ∧ w.heap[p]? = some (.cells #[.string (strOfNums xs)] 9 (0, 0))
 ts0 : s.ts = none → c2 = .pointer none
 ts1 : ∀ n, s.ts = some n → ∃ p : Nat, c2 = .pointer (some ⟨p, 0, none⟩) ∧ w.heap[p]? = some (.cells #[.int .u64 (n : Int)] 24 (0, 0))
theorem Lm.rd [Prot] {Ai : Option Addr} {ni : Nat} {xi : List Int} {w0 W : World} {g : Nat} {s : Lnk} {c0 c1 c2 : Value} (h : Lm Ai ni xi w0 W g s c0 c1 c2) : RdL W g s c0 c1 c2 := by
 refine ⟨h.blk, h.hash0, fun xs hx => ?_, h.name0, fun xs hx => ?_, h.ts0, fun n hn => ?_⟩
 ·obtain ⟨A, c, e, hR⟩ := h.hash1 xs hx
  rw [e] at hR
  have hr := Kd.R_reads' hR
  exact ⟨A, c, e, hr.2.1, hr.2.2⟩
 ·obtain ⟨p, e, hp, _⟩ := h.name1 xs hx
  exact ⟨p, e, hp⟩
 ·obtain ⟨p, e, hp, _⟩ := h.ts1 n hn
  exact ⟨p, e, hp⟩
theorem RdL.below {w w' : World} {g : Nat} {s : Lnk} {c0 c1 c2 : Value} (h : RdL w g s c0 c1 c2) (hB : Below w.heap.size w w') : RdL w' g s c0 c1 c2 := by
 refine ⟨(hB.block _ (blk_lt h.blk)).trans h.blk, h.hash0, fun xs hx => ?_, h.name0, fun xs hx => ?_, h.ts0, fun n hn => ?_⟩
 ·obtain ⟨A, c, e, hn, hC⟩ := h.hash1 xs hx
  exact ⟨A, c, e, hn, Kd.C_below hC hB⟩
 ·obtain ⟨p, e, hp⟩ := h.name1 xs hx
  exact ⟨p, e, (hB.block _ (blk_lt hp)).trans hp⟩
 ·obtain ⟨p, e, hp⟩ := h.ts1 n hn
  exact ⟨p, e, (hB.block _ (blk_lt hp)).trans hp⟩
section
variable {w : World} {g : Nat} {s : Lnk} {c0 c1 c2 : Value}
set_option maxHeartbeats 4000000 in
theorem GetName_calls (h : RdL w g s c0 c1 c2) : Calls Tryd.prog 93 #[.pointer (some ⟨g, 0, none⟩)] w fun e w' => e = .returned (.string (strOfNums (s.name.getD []))) ∧ w' = w := by
 have hc1 := (blk_cell h.blk 1).trans rfl
 cases hs : s.name with
 | none =>
  obtain rfl := h.name0 hs
  clear h
  go_enter Tryd.func93, Tryd.ntmps93
  go_wp2_with fail
  go_ret
  exact ⟨rfl, rfl⟩
 | some xs =>
  obtain ⟨p, rfl, hp⟩ := h.name1 xs hs
  have hcp := (blk_cell hp 0).trans rfl
  clear h
  go_enter Tryd.func93, Tryd.ntmps93
  go_wp2_with fail
  go_ret
  exact ⟨rfl, rfl⟩
set_option maxHeartbeats 4000000 in
theorem GetTsize_calls (h : RdL w g s c0 c1 c2) : Calls Tryd.prog 94 #[.pointer (some ⟨g, 0, none⟩)] w fun e w' => e = .returned (.int .u64 ((s.ts.getD 0 : Nat) : Int)) ∧ w' = w := by
 have hc1 := (blk_cell h.blk 2).trans rfl
 cases hs : s.ts with
 | none =>
  obtain rfl := h.ts0 hs
  clear h
  go_enter Tryd.func94, Tryd.ntmps94
  go_wp2_with fail
  go_ret
  exact ⟨rfl, rfl⟩
 | some n =>
  obtain ⟨p, rfl, hp⟩ := h.ts1 n hs
  have hcp := (blk_cell hp 0).trans rfl
  clear h
  go_enter Tryd.func94, Tryd.ntmps94
  go_wp2_with fail
  go_ret
  exact ⟨rfl, rfl⟩
end
theorem run_neq_slice_nil' {P : Program} (w : World) (t e : TypeId) (a : Option Addr) (n c n' c' : Nat) (h : P.underlying t = some (.slice e)) : (binOp .neq t (.slice a n c) (.slice none n' c')).run P w = .ok (.bool a.isSome) w := by
 have h1 := Lib.run_equalIn_slice_nil w 9999 t e a n c n' c' h
 cases a <;> simp [binOp, Op.equal, Op.maxDepth, h1]
theorem RdL.drew {w : World} {g : Nat} {s : Lnk} {c0 c1 c2 : Value} (h : RdL w g s c0 c1 c2) : RdL w.drew g s c0 c1 c2 := by
 refine ⟨h.blk, h.hash0, fun xs hx => ?_, h.name0, h.name1, h.ts0, h.ts1⟩
 obtain ⟨A, c, e, hn, hC⟩ := h.hash1 xs hx
 exact ⟨A, c, e, hn, Kd.C_drew hC⟩
theorem size_drew' (w : World) : w.drew.heap.size = w.heap.size := rfl
theorem heap_drew {w : World} {g : Nat} {o : Obj} (h : w.heap[g]? = some o) : w.drew.heap[g]? = some o := h
set_option maxRecDepth 100000 in
set_option maxHeartbeats 8000000 in
theorem plainPb_calls {w : World} {g : Nat} {s : Lnk} {c0 c1 c2 : Value} (h : RdL w g s c0 c1 c2) (hf : ∀ xs, s.hash = some xs → xs.length ≤ 1000000) : Calls Tryd.prog 52 #[.pointer (some ⟨g, 0, none⟩)] w fun e w' => ∃ v3, e = .returned (.agg #[.bool s.hash.isSome, .bool s.name.isSome, .bool s.ts.isSome, v3, .string (strOfNums (s.name.getD [])), .int .u64 ((s.ts.getD 0 : Nat) : Int)]) ∧ Kd.R (Kd.int .u8) 5 w' w.heap.size (fun _ => True) v3 (s.hash.getD []) ∧ Below w.heap.size w w' := by
 have RD := Aside0.mk h
 obtain ⟨A, n, c, e0, hn, hnc, hC, he⟩ : ∃ A n c, c0 = .slice A n c ∧ n = (s.hash.getD []).length ∧ n ≤ c ∧ Kd.C (Kd.int .u8) w A n (s.hash.getD []) ∧ A.isSome = s.hash.isSome := by
  cases hs : s.hash with
  | none => exact ⟨none, 0, 0, h.hash0 hs, rfl, Nat.le_refl _, by constructor <;> simp, rfl⟩
  | some xs => obtain ⟨A, c, e, hn, hC⟩ := h.hash1 xs hs; exact ⟨some A, xs.length, c, e, rfl, hn, hC, rfl⟩
 have hcl : bytes_Clone.f (s.hash.getD []) = some (s.hash.getD []) := by
  unfold bytes_Clone.f; rw [if_pos]
  cases hd : s.hash with
  | none => exact Nat.zero_le _
  | some xs => have := hf xs hd; simp; omega
 have HCL := Aside0.mk hcl
 have HNC := Aside0.mk hnc
 have HC := Aside0.mk hC
 have HE := Aside0.mk he
 obtain ⟨p1, e1, hp1⟩ : ∃ p, c1 = .pointer p ∧ p.isSome = s.name.isSome := by
  cases hs : s.name with
  | none => exact ⟨none, h.name0 hs, rfl⟩
  | some xs => obtain ⟨p, e, _⟩ := h.name1 xs hs; exact ⟨_, e, rfl⟩
 obtain ⟨p2, e2, hp2⟩ : ∃ p, c2 = .pointer p ∧ p.isSome = s.ts.isSome := by
  cases hs : s.ts with
  | none => exact ⟨none, h.ts0 hs, rfl⟩
  | some xs => obtain ⟨p, e, _⟩ := h.ts1 xs hs; exact ⟨_, e, rfl⟩
 subst e0 e1 e2 hn
 have HP1 := Aside0.mk hp1
 have HP2 := Aside0.mk hp2
 clear hnc hC he hcl h hf hp1 hp2
 have n0 : ∀ W : World, (binOp .neq 22 (.slice A (s.hash.getD []).length c) (.slice none 0 0)).run Tryd.prog W = .ok (.bool A.isSome) W := fun W => run_neq_slice_nil' W 22 5 A (s.hash.getD []).length c 0 0 Tryd.underlying22
 have n1 : ∀ W : World, (binOp .neq 92 (.pointer p1) (.pointer none)).run Tryd.prog W = .ok (.bool p1.isSome) W := fun W => by cases p1 <;> kernel_rfl
 have n2 : ∀ W : World, (binOp .neq 93 (.pointer p2) (.pointer none)).run Tryd.prog W = .ok (.bool p2.isSome) W := fun W => by cases p2 <;> kernel_rfl
 have hb0 := below_alloc (Below.refl w.heap.size w) (.cells #[.bool false, .bool false, .bool false, .slice none 0 0, .string ⟨#[]⟩, .int .u64 0] 27)
 have RD0 := Aside0.mk (RD.out.below hb0)
 have HB0 := Aside0.mk hb0
 have HG0 := Aside0.mk (blk_new w (.cells #[.bool false, .bool false, .bool false, .slice none 0 0, .string ⟨#[]⟩, .int .u64 0] 27))
 have hk0 := (blk_cell RD0.out.blk 0).trans rfl
 have hk1 := (blk_cell RD0.out.blk 1).trans rfl
 have hk2 := (blk_cell RD0.out.blk 2).trans rfl
 clear hb0
 go_enter Tryd.func52, Tryd.ntmps52
 go_wp2_with fail
 refine start_ (n := 26) (S := fun w' => w'.cell? ⟨g, 0, none⟩ = some (.slice A (s.hash.getD []).length c) ∧ w'.cell? ⟨g, 1, none⟩ = some (.pointer p1) ∧ w'.cell? ⟨g, 2, none⟩ = some (.pointer p2)) (ds := [25]) #[false, false, false, false, false, false, false, false, false, false, false, false, false, false, false, false, false, false, false, false, false, false, false, false, false, false] (by kernel_rfl) rfl rfl ⟨hk0, hk1, hk2⟩ (fun hHeld => ?_)
 refine pure_ (i := 0) (N := some 3) (v := ?_) (a' := ?_) #[true, false, false, false, false, false, false, false, false, false, false, false, false, false, false, false, false, false, false, false, false, false, false, false, false, false] rfl rfl (by kernel_rfl) (fun _ _ _ h => h) (Or.inl ⟨by rfl, ?_⟩) ?_ ?_
 rotate_left
 ·intro w'
  go_simp
  with_reducible rfl
 rotate_left
 ·simp only [Act.put, List.setIfInBounds_toArray, List.set_cons_zero, List.set_cons_succ, i64_w, i32_w]
  rfl
 refine pure_ (i := 1) (N := some 4) (v := ?_) (a' := ?_) #[true, true, false, false, false, false, false, false, false, false, false, false, false, false, false, false, false, false, false, false, false, false, false, false, false, false] rfl rfl (by kernel_rfl) (fun _ _ _ h => h) (Or.inl ⟨by rfl, ?_⟩) ?_ ?_
 rotate_left
 ·intro w'
  go_simp
  with_reducible rfl
 rotate_left
 ·simp only [Act.put, List.setIfInBounds_toArray, List.set_cons_zero, List.set_cons_succ, i64_w, i32_w]
  rfl
 refine pure_ (i := 2) (N := some 5) (v := ?_) (a' := ?_) #[true, true, true, false, false, false, false, false, false, false, false, false, false, false, false, false, false, false, false, false, false, false, false, false, false, false] rfl rfl (by kernel_rfl) (fun _ _ _ h => h) (Or.inl ⟨by rfl, ?_⟩) ?_ ?_
 rotate_left
 ·intro w'
  go_simp
  with_reducible rfl
 rotate_left
 ·simp only [Act.put, List.setIfInBounds_toArray, List.set_cons_zero, List.set_cons_succ, i64_w, i32_w]
  rfl
 refine pure_ (i := 5) (N := some 8) (v := ?_) (a' := ?_) #[true, true, true, false, false, true, false, false, false, false, false, false, false, false, false, false, false, false, false, false, false, false, false, false, false, false] rfl rfl (by kernel_rfl) (fun _ _ _ h => h) (Or.inl ⟨by rfl, ?_⟩) ?_ ?_
 rotate_left
 ·intro w'
  go_simp
  with_reducible rfl
 rotate_left
 ·simp only [Act.put, List.setIfInBounds_toArray, List.set_cons_zero, List.set_cons_succ, i64_w, i32_w]
  rfl
 refine pure_ (i := 6) (N := some 9) (v := ?_) (a' := ?_) #[true, true, true, false, false, true, true, false, false, false, false, false, false, false, false, false, false, false, false, false, false, false, false, false, false, false] rfl rfl (by kernel_rfl) (fun _ _ _ h => h) (Or.inl ⟨by rfl, ?_⟩) ?_ ?_
 rotate_left
 ·intro w'
  go_simp
  with_reducible rfl
 rotate_left
 ·simp only [Act.put, List.setIfInBounds_toArray, List.set_cons_zero, List.set_cons_succ, i64_w, i32_w]
  rfl
 refine pure_ (i := 7) (N := some 10) (v := ?_) (a' := ?_) #[true, true, true, false, false, true, true, true, false, false, false, false, false, false, false, false, false, false, false, false, false, false, false, false, false, false] rfl rfl (by kernel_rfl) (fun _ _ _ h => h) (Or.inl ⟨by rfl, ?_⟩) ?_ ?_
 rotate_left
 ·intro w'
  go_simp
  with_reducible rfl
 rotate_left
 ·simp only [Act.put, List.setIfInBounds_toArray, List.set_cons_zero, List.set_cons_succ, i64_w, i32_w]
  rfl
 refine pure_ (i := 10) (N := some 13) (v := ?_) (a' := ?_) #[true, true, true, false, false, true, true, true, false, false, true, false, false, false, false, false, false, false, false, false, false, false, false, false, false, false] rfl rfl (by kernel_rfl) (fun _ _ _ h => h) (Or.inl ⟨by rfl, ?_⟩) ?_ ?_
 rotate_left
 ·intro w'
  go_simp
  with_reducible rfl
 rotate_left
 ·simp only [Act.put, List.setIfInBounds_toArray, List.set_cons_zero, List.set_cons_succ, i64_w, i32_w]
  rfl
 refine pure_ (i := 11) (N := some 14) (v := ?_) (a' := ?_) #[true, true, true, false, false, true, true, true, false, false, true, true, false, false, false, false, false, false, false, false, false, false, false, false, false, false] rfl rfl (by kernel_rfl) (fun _ _ _ h => h) (Or.inl ⟨by rfl, ?_⟩) ?_ ?_
 rotate_left
 ·intro w'
  go_simp
  with_reducible rfl
 rotate_left
 ·simp only [Act.put, List.setIfInBounds_toArray, List.set_cons_zero, List.set_cons_succ, i64_w, i32_w]
  rfl
 refine pure_ (i := 12) (N := some 15) (v := ?_) (a' := ?_) #[true, true, true, false, false, true, true, true, false, false, true, true, true, false, false, false, false, false, false, false, false, false, false, false, false, false] rfl rfl (by kernel_rfl) (fun _ _ _ h => h) (Or.inl ⟨by rfl, ?_⟩) ?_ ?_
 rotate_left
 ·intro w'
  go_simp
  with_reducible rfl
 rotate_left
 ·simp only [Act.put, List.setIfInBounds_toArray, List.set_cons_zero, List.set_cons_succ, i64_w, i32_w]
  rfl
 refine pure_ (i := 15) (N := some 18) (v := ?_) (a' := ?_) #[true, true, true, false, false, true, true, true, false, false, true, true, true, false, false, true, false, false, false, false, false, false, false, false, false, false] rfl rfl (by kernel_rfl) (fun _ _ _ h => h) (Or.inl ⟨by rfl, ?_⟩) ?_ ?_
 rotate_left
 ·intro w'
  go_simp
  with_reducible rfl
 rotate_left
 ·simp only [Act.put, List.setIfInBounds_toArray, List.set_cons_zero, List.set_cons_succ, i64_w, i32_w]
  rfl
 refine pure_ (i := 16) (N := some 19) (v := ?_) (a' := ?_) #[true, true, true, false, false, true, true, true, false, false, true, true, true, false, false, true, true, false, false, false, false, false, false, false, false, false] rfl rfl (by kernel_rfl) (fun _ _ _ h => h) (Or.inl ⟨by rfl, ?_⟩) ?_ ?_
 rotate_left
 ·intro w'
  go_simp
  with_reducible rfl
 rotate_left
 ·simp only [Act.put, List.setIfInBounds_toArray, List.set_cons_zero, List.set_cons_succ, i64_w, i32_w]
  rfl
 refine pure_ (i := 17) (N := some 20) (v := ?_) (a' := ?_) #[true, true, true, false, false, true, true, true, false, false, true, true, true, false, false, true, true, true, false, false, false, false, false, false, false, false] rfl rfl (by kernel_rfl) (fun _ _ _ h => h) (Or.inl ⟨by rfl, ?_⟩) ?_ ?_
 rotate_left
 ·intro w'
  go_simp
  with_reducible rfl
 rotate_left
 ·simp only [Act.put, List.setIfInBounds_toArray, List.set_cons_zero, List.set_cons_succ, i64_w, i32_w]
  rfl
 refine pure_ (i := 20) (N := some 23) (v := ?_) (a' := ?_) #[true, true, true, false, false, true, true, true, false, false, true, true, true, false, false, true, true, true, false, false, true, false, false, false, false, false] rfl rfl (by kernel_rfl) (fun _ _ _ h => h) (Or.inl ⟨by rfl, ?_⟩) ?_ ?_
 rotate_left
 ·intro w'
  go_simp
  with_reducible rfl
 rotate_left
 ·simp only [Act.put, List.setIfInBounds_toArray, List.set_cons_zero, List.set_cons_succ, i64_w, i32_w]
  rfl
 refine pure_ (i := 22) (N := some 25) (v := ?_) (a' := ?_) #[true, true, true, false, false, true, true, true, false, false, true, true, true, false, false, true, true, true, false, false, true, false, true, false, false, false] rfl rfl (by kernel_rfl) (fun _ _ _ h => h) (Or.inl ⟨by rfl, ?_⟩) ?_ ?_
 rotate_left
 ·intro w'
  go_simp
  with_reducible rfl
 rotate_left
 ·simp only [Act.put, List.setIfInBounds_toArray, List.set_cons_zero, List.set_cons_succ, i64_w, i32_w]
  rfl
 refine take_ (i := 3) (N := some 6) (v := ?_) (a' := ?_) #[true, true, true, true, false, true, true, true, false, false, true, true, true, false, false, true, true, true, false, false, true, false, true, false, false, false] rfl rfl (by kernel_rfl) (fun _ _ _ h => h) (Or.inl ⟨by rfl, ?_⟩) hHeld ?_ ?_
 rotate_left
 ·rintro w' ⟨s0, s1, s2⟩
  go_simp
  with_reducible rfl
 rotate_left
 ·simp only [Act.put, List.setIfInBounds_toArray, List.set_cons_zero, List.set_cons_succ, i64_w, i32_w]
  rfl
 refine pure_ (i := 4) (N := some 7) (v := ?_) (a' := ?_) #[true, true, true, true, true, true, true, true, false, false, true, true, true, false, false, true, true, true, false, false, true, false, true, false, false, false] rfl rfl (by kernel_rfl) (fun _ _ _ h => h) (Or.inl ⟨by rfl, ?_⟩) ?_ ?_
 rotate_left
 ·intro w'
  go_simp
  with_reducible rfl
 rotate_left
 ·simp only [Act.put, List.setIfInBounds_toArray, List.set_cons_zero, List.set_cons_succ, i64_w, i32_w]
  rfl
 refine take_ (i := 8) (N := some 11) (v := ?_) (a' := ?_) #[true, true, true, true, true, true, true, true, true, false, true, true, true, false, false, true, true, true, false, false, true, false, true, false, false, false] rfl rfl (by kernel_rfl) (fun _ _ _ h => h) (Or.inl ⟨by rfl, ?_⟩) hHeld ?_ ?_
 rotate_left
 ·rintro w' ⟨s0, s1, s2⟩
  go_simp
  with_reducible rfl
 rotate_left
 ·simp only [Act.put, List.setIfInBounds_toArray, List.set_cons_zero, List.set_cons_succ, i64_w, i32_w]
  rfl
 refine pure_ (i := 9) (N := some 12) (v := ?_) (a' := ?_) #[true, true, true, true, true, true, true, true, true, true, true, true, true, false, false, true, true, true, false, false, true, false, true, false, false, false] rfl rfl (by kernel_rfl) (fun _ _ _ h => h) (Or.inl ⟨by rfl, ?_⟩) ?_ ?_
 rotate_left
 ·intro w'
  go_simp
  with_reducible rfl
 rotate_left
 ·simp only [Act.put, List.setIfInBounds_toArray, List.set_cons_zero, List.set_cons_succ, i64_w, i32_w]
  rfl
 refine take_ (i := 13) (N := some 16) (v := ?_) (a' := ?_) #[true, true, true, true, true, true, true, true, true, true, true, true, true, true, false, true, true, true, false, false, true, false, true, false, false, false] rfl rfl (by kernel_rfl) (fun _ _ _ h => h) (Or.inl ⟨by rfl, ?_⟩) hHeld ?_ ?_
 rotate_left
 ·rintro w' ⟨s0, s1, s2⟩
  go_simp
  with_reducible rfl
 rotate_left
 ·simp only [Act.put, List.setIfInBounds_toArray, List.set_cons_zero, List.set_cons_succ, i64_w, i32_w]
  rfl
 refine pure_ (i := 14) (N := some 17) (v := ?_) (a' := ?_) #[true, true, true, true, true, true, true, true, true, true, true, true, true, true, true, true, true, true, false, false, true, false, true, false, false, false] rfl rfl (by kernel_rfl) (fun _ _ _ h => h) (Or.inl ⟨by rfl, ?_⟩) ?_ ?_
 rotate_left
 ·intro w'
  go_simp
  with_reducible rfl
 rotate_left
 ·simp only [Act.put, List.setIfInBounds_toArray, List.set_cons_zero, List.set_cons_succ, i64_w, i32_w]
  rfl
 refine take_ (i := 18) (N := some 21) (v := ?_) (a' := ?_) #[true, true, true, true, true, true, true, true, true, true, true, true, true, true, true, true, true, true, true, false, true, false, true, false, false, false] rfl rfl (by kernel_rfl) (fun _ _ _ h => h) (Or.inl ⟨by rfl, ?_⟩) hHeld ?_ ?_
 rotate_left
 ·rintro w' ⟨s0, s1, s2⟩
  go_simp
  with_reducible rfl
 rotate_left
 ·simp only [Act.put, List.setIfInBounds_toArray, List.set_cons_zero, List.set_cons_succ, i64_w, i32_w]
  rfl
 refine one_ (i := 19) (N := some 22) #[true, true, true, true, true, true, true, true, true, true, true, true, true, true, true, true, true, true, true, true, true, false, true, false, false, false] rfl rfl (by kernel_rfl) (by decide) (fun K hK => ?_)
 refine goes_ Tryd.func51 (by kernel_rfl) rfl #[.slice A (s.hash.getD []).length c] (by rfl) rfl rfl (by simp only [List.map_toArray, List.map_cons, List.map_nil]; rfl) ?_
 with_reducible refine (bytes_Clone.calls A c (s.hash.getD []) (s.hash.getD []) _ (Kd.C_drew (Kd.C_below HC.out HB0.out)) HNC.out HCL.out).mono ?_
 rintro e w2 ⟨v2, rfl, hR, hB⟩
 obtain ⟨A2, c2, rfl⟩ := Kd.R_slice hR
 have HR2 := Aside0.mk hR
 have HB2 := Aside0.mk hB
 have RD2 := Aside0.mk ((RD0.out.drew).below hB)
 have hg2 := (hB.block _ (blk_lt (heap_drew HG0.out))).trans (heap_drew HG0.out)
 have HG2 := Aside0.mk hg2
 have hq0 := (blk_cell hg2 0).trans rfl
 have hq1 := (blk_cell hg2 1).trans rfl
 have hq2 := (blk_cell hg2 2).trans rfl
 have hq3 := (blk_cell hg2 3).trans rfl
 have hq4 := (blk_cell hg2 4).trans rfl
 have hq5 := (blk_cell hg2 5).trans rfl
 have hqf := blk_frozen hg2
 have hj0 := (blk_cell RD2.out.blk 0).trans rfl
 have hj1 := (blk_cell RD2.out.blk 1).trans rfl
 have hj2 := (blk_cell RD2.out.blk 2).trans rfl
 clear hR hB hg2
 refine ⟨_, rfl, ?_⟩
 refine hK.out _ _ ⟨hj0, hj1, hj2⟩ (fun hHeld => ?_)
 clear hK K
 refine norm_ (a' := ?_) ?_ ?_
 rotate_left
 ·show Act.put _ (some 22) _ = _
  simp only [Act.put, List.setIfInBounds_toArray, List.set_cons_zero, List.set_cons_succ, i64_w, i32_w]
  rfl
 refine one_ (i := 21) (N := some 24) #[true, true, true, true, true, true, true, true, true, true, true, true, true, true, true, true, true, true, true, true, true, true, true, false, false, false] rfl rfl (by kernel_rfl) (by decide) (fun K hK => ?_)
 refine goes_ Tryd.func93 (by kernel_rfl) rfl #[.pointer (some ⟨g, 0, none⟩)] (by rfl) rfl rfl (by simp only [List.map_toArray, List.map_cons, List.map_nil]; rfl) ?_
 with_reducible refine (GetName_calls RD2.out).mono ?_
 rintro e w3 ⟨rfl, hw⟩
 rw [hw]
 clear hw
 refine ⟨_, rfl, ?_⟩
 refine hK.out _ _ ⟨hj0, hj1, hj2⟩ (fun hHeld => ?_)
 clear hK K
 refine norm_ (a' := ?_) ?_ ?_
 rotate_left
 ·show Act.put _ (some 24) _ = _
  simp only [Act.put, List.setIfInBounds_toArray, List.set_cons_zero, List.set_cons_succ, i64_w, i32_w]
  rfl
 refine one_ (i := 23) (N := some 26) #[true, true, true, true, true, true, true, true, true, true, true, true, true, true, true, true, true, true, true, true, true, true, true, true, false, false] rfl rfl (by kernel_rfl) (by decide) (fun K hK => ?_)
 refine goes_ Tryd.func94 (by kernel_rfl) rfl #[.pointer (some ⟨g, 0, none⟩)] (by rfl) rfl rfl (by simp only [List.map_toArray, List.map_cons, List.map_nil]; rfl) ?_
 with_reducible refine (GetTsize_calls RD2.out).mono ?_
 rintro e w3 ⟨rfl, hw⟩
 rw [hw]
 clear hw
 refine ⟨_, rfl, ?_⟩
 refine hK.out _ _ ⟨hj0, hj1, hj2⟩ (fun hHeld => ?_)
 clear hK K
 refine norm_ (a' := ?_) ?_ ?_
 rotate_left
 ·show Act.put _ (some 26) _ = _
  simp only [Act.put, List.setIfInBounds_toArray, List.set_cons_zero, List.set_cons_succ, i64_w, i32_w]
  rfl
 refine pure_ (i := 24) (N := some 27) (v := ?_) (a' := ?_) #[true, true, true, true, true, true, true, true, true, true, true, true, true, true, true, true, true, true, true, true, true, true, true, true, true, false] rfl rfl (by kernel_rfl) (fun _ _ _ h => h) (Or.inl ⟨by rfl, ?_⟩) ?_ ?_
 rotate_left
 ·intro w'
  go_simp
  with_reducible rfl
 rotate_left
 ·simp only [Act.put, List.setIfInBounds_toArray, List.set_cons_zero, List.set_cons_succ, i64_w, i32_w]
  rfl
 refine last_ (i := 25) (N := none) #[true, true, true, true, true, true, true, true, true, true, true, true, true, true, true, true, true, true, true, true, true, true, true, true, true, true] rfl rfl (by kernel_rfl) (by decide) (fun K hK => ?_)
 refine skip_ (w1 := ?_) (by rfl) rfl ?_ ?_
 rotate_left
 ·go_simp
  rfl
 refine hK.out _ _ ?_
 clear hK K
 refine done_ (by kernel_rfl) ?_

 have HB5 := below_step HB0.out (below_step (below_drew (Below.refl _ _)) HB2.out)
 have hb5 := set6_blk HG2.out (.bool A.isSome) (.bool p1.isSome) (.bool p2.isSome) (.slice A2 (s.hash.getD []).length c2) (.string (strOfNums (s.name.getD []))) (.int .u64 ((s.ts.getD 0 : Nat) : Int))
 go_wp2
 refine bodyPost_ret (results_cell_row rfl _ _ w.heap.size 27 #[.bool A.isSome, .bool p1.isSome, .bool p2.isSome, .slice A2 (s.hash.getD []).length c2, .string (strOfNums (s.name.getD [])), .int .u64 ((s.ts.getD 0 : Nat) : Int)] (0, 0) _ rfl hb5 Tryd.underlying27 rfl (by kernel_rfl)) rfl ?_
 rw [HE.out, HP1.out, HP2.out]
 exact ⟨_, rfl, R_lowI (set6_row HR2.out (by rw [size_drew', size_alloc]; omega) _ _ _ _ _ _) (by rw [size_drew', size_alloc]; omega), set6_below HB5 (Nat.le_refl _) _ _ _ _ _ _⟩
end Go.Proofs.YtnhnlodmkbiiiaaDoor.HandFields
end
/- What bytes tell as a link of merkledag: the function of the package impl, by what it hands back. -/
section
namespace Go.Proofs.YtnhnlodmkbiiiaaDoor.HandFields
open Go Go.RowKit Go.Proofs.YtnhnlodmkbiiiaaDoorL Go.Proofs.YtnhnlodmkbiiiaaDoorW.PrintWords Go.Proofs.YtnhnlodmkbiiiaaDoorW.PrintLast Go.Proofs.YtnhnlodmkbiiiaaDoorW.PrintMore Go.Proofs.YtnhnlodmkbiiiaaDoor.PFieldsBase
attribute [local go_sem] max2_int min2_int max_two min_two max_three min_three max_four min_four
set_option linter.unusedVariables false
set_option linter.unusedSimpArgs false
theorem R_far {W : World} {e base : Nat} {ok : Nat → Prop} {A : Option Addr} {n c : Nat} {xs : List Int} (h : Kd.R (Kd.int .u8) e W base ok (.slice A n c) xs) : ∀ ad, A = some ad → base ≤ ad.block := by
 intro ad he
 subst he
 obtain ⟨_, inner, hown, _⟩ := h
 rcases hown.2 with ⟨e, _⟩ | ⟨g', c', cur, e, hge, _⟩
 ·cases e
 ·injection e with e1 _ _
  injection e1 with e1
  subst e1
  exact hge
end Go.Proofs.YtnhnlodmkbiiiaaDoor.HandFields
end
/- A link without what does not count: the function of the package spec, by value. -/
section
namespace Go.Proofs.YtnhnlodmkbiiiaaDoor.HandFields
open Go Go.RowKit Go.Proofs.YtnhnlodmkbiiiaaDoorL Go.Proofs.YtnhnlodmkbiiiaaDoorW.PrintWords Go.Proofs.YtnhnlodmkbiiiaaDoorW.PrintLast Go.Proofs.YtnhnlodmkbiiiaaDoorW.PrintMore Go.Proofs.YtnhnlodmkbiiiaaDoor.PFieldsBase
attribute [local go_sem] max2_int min2_int max_two min_two max_three min_three max_four min_four
set_option linter.unusedVariables false
set_option linter.unusedSimpArgs false
set_option maxHeartbeats 4000000 in
theorem PbPlain_walk (w : World) (a b c : Bool) (v3 : Value) (s : ByteArray) (z : Int) (hv : ∃ A n cp, v3 = .slice A n cp) :
  Calls Tryd.prog 53 #[.agg #[.bool a, .bool b, .bool c, v3, .string s, .int .u64 z]] w fun e w' => e = .returned (.agg #[.bool a, .bool b, .bool c, if a then v3 else .slice none 0 0, .string (if b then s else ⟨#[]⟩), .int .u64 (if c then z else 0)]) ∧ Below w.heap.size w w' := by
 obtain ⟨A, n, cp, rfl⟩ := hv
 cases a <;> cases b <;> cases c
 all_goals
  go_enter Tryd.func53, Tryd.ntmps53
  go_wp2_with fail
  refine bodyPost_ret (results_cell_row rfl _ _ (w.heap.size + 1) 27 _ (0, 0) _ rfl (heap2_1 w _ _) Tryd.underlying27 rfl (by kernel_rfl)) rfl ?_
  exact ⟨rfl, below_alloc (below_alloc (Below.refl _ w) _) _⟩
end Go.Proofs.YtnhnlodmkbiiiaaDoor.HandFields
end
