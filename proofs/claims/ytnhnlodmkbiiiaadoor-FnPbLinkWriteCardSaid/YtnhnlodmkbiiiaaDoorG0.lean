/- Bytes read as a link of merkledag: numbers, fields, and the link in memory while it is filled. -/
import Derived.Test.YtnhnlodmkbiiiaaDoorU0
namespace Go.Proofs.YtnhnlodmkbiiiaaDoor.HandFields
open Go Go.RowKit Go.Proofs.YtnhnlodmkbiiiaaDoorL Go.Proofs.YtnhnlodmkbiiiaaDoorW.PrintWords Go.Proofs.YtnhnlodmkbiiiaaDoorW.PrintLast Go.Proofs.YtnhnlodmkbiiiaaDoorW.PrintMore Go.Proofs.YtnhnlodmkbiiiaaDoor.PFieldsBase
attribute [local go_sem] max2_int min2_int max_two min_two max_three min_three max_four min_four
set_option linter.unusedVariables false
set_option linter.unusedSimpArgs false
/-- The number at the head of some bytes (at most k of them), and what follows; none within: the bytes end. -/
def rdv : Nat → List Int → Option (Option (Nat × List Int))
  | 0, _ => none
  | _ + 1, [] => some none
  | k + 1, b :: l => if b < 128 then some (some (b.toNat, l)) else (rdv k l).map (Option.map (fun p => ((b - 128).toNat + 128 * p.1, p.2)))
/-- What the rounds so far have read (a, in j bytes from place i0 on) and what the rest gives. -/
structure VI (xs : List Int) (i0 k0 : Nat) (R : Option (Nat × List Int)) (j a : Nat) : Prop where
  lt : a < 2 ^ (7 * j)
  le : i0 + j ≤ xs.length
  jk : j < k0
  rest : (rdv (k0 - j) (xs.drop (i0 + j))).map (Option.map (fun p => (a + 2 ^ (7 * j) * p.1, p.2))) = some R
theorem VI.start {xs : List Int} {i0 k0 : Nat} {R : Option (Nat × List Int)} (h : rdv k0 (xs.drop i0) = some R) (hk : 0 < k0) (hi : i0 ≤ xs.length) : VI xs i0 k0 R 0 0 := by
  refine ⟨by decide, by omega, hk, ?_⟩
  rw [Nat.sub_zero, Nat.add_zero, h]
  cases R with
  | none => rfl
  | some p => simp
/-- One round more. -/
theorem VI.cases {xs : List Int} {i0 k0 : Nat} {R : Option (Nat × List Int)} {j a : Nat} (h : VI xs i0 k0 R j a) (hb : ∀ x ∈ xs, 0 ≤ x ∧ x ≤ 255) :
    (i0 + j = xs.length ∧ R = none) ∨
    (∃ c : Nat, rd xs ((i0 + j : Nat) : Int) = (c : Int) ∧ i0 + j < xs.length ∧ c < 128 ∧ R = some (a + c * 2 ^ (7 * j), xs.drop (i0 + j + 1))) ∨
    (∃ c : Nat, rd xs ((i0 + j : Nat) : Int) = (c : Int) ∧ i0 + j < xs.length ∧ 128 ≤ c ∧ c < 256 ∧ VI xs i0 k0 R (j + 1) (a + (c - 128) * 2 ^ (7 * j))) := by
  obtain ⟨k, hk⟩ : ∃ k, k0 - j = k + 1 := ⟨k0 - j - 1, by have := h.jk; omega⟩
  have hr := h.rest
  rw [hk] at hr
  have hp7 : 2 ^ (7 * (j + 1)) = 128 * 2 ^ (7 * j) := by rw [show 7 * (j + 1) = 7 + 7 * j by omega, Nat.pow_add]
  rcases Nat.lt_or_ge (i0 + j) xs.length with hl | hl
  · have hd := List.drop_eq_getElem_cons hl
    have hx := hb _ (List.getElem_mem hl)
    have hrd : rd xs ((i0 + j : Nat) : Int) = xs[i0 + j] := by unfold rd; rw [Int.toNat_natCast, List.getD_eq_getElem?_getD, List.getElem?_eq_getElem hl]; rfl
    obtain ⟨c, hc⟩ : ∃ c : Nat, xs[i0 + j] = (c : Int) := ⟨xs[i0 + j].toNat, by omega⟩
    rw [hc] at hx hrd
    rw [hd, hc] at hr
    unfold rdv at hr
    by_cases h1 : c < 128
    · rw [if_pos (by omega)] at hr
      refine .inr (.inl ⟨c, hrd, hl, h1, ?_⟩)
      have := Option.some.inj hr
      rw [← this]
      simp only [Option.map_some, Int.toNat_natCast, Nat.mul_comm]
    · rw [if_neg (by omega)] at hr
      refine .inr (.inr ⟨c, hrd, hl, by omega, by omega, ?_⟩)
      have hk1 : k = k0 - (j + 1) := by omega
      have hkp : 0 < k := by
        rcases Nat.eq_zero_or_pos k with h0 | h0
        · rw [h0] at hr; simp [rdv] at hr
        · exact h0
      refine ⟨?_, by omega, by omega, ?_⟩
      · rw [hp7]
        have h2 : (c - 128) * 2 ^ (7 * j) ≤ 127 * 2 ^ (7 * j) := Nat.mul_le_mul_right _ (by omega)
        have := h.lt
        omega
      · rw [← hk1, show i0 + (j + 1) = i0 + j + 1 by omega]
        cases hv : rdv k (List.drop (i0 + j + 1) xs) with
        | none => rw [hv] at hr; simp at hr
        | some q =>
          rw [hv] at hr
          cases q with
          | none => simpa using hr
          | some p =>
            have := Option.some.inj hr
            rw [← this]
            simp only [Option.map_some, Option.some.injEq, Prod.mk.injEq, and_true]
            have e1 : ((c : Int) - 128).toNat = c - 128 := by omega
            rw [e1, hp7, Nat.mul_add, Nat.add_assoc, Nat.mul_comm (c - 128), ← Nat.mul_assoc, Nat.mul_comm 128]
  · have he : i0 + j = xs.length := by have := h.le; omega
    rw [List.drop_of_length_le (by omega)] at hr
    unfold rdv at hr
    exact .inl ⟨he, (Option.some.inj hr).symm⟩
theorem rdv_lt : ∀ (k : Nat) (l : List Int) (v : Nat) (r : List Int), (∀ x ∈ l, 0 ≤ x ∧ x ≤ 255) → rdv k l = some (some (v, r)) → v < 2 ^ (7 * k)
  | 0, l, v, r, _, h => by simp [rdv] at h
  | k + 1, [], v, r, _, h => by simp [rdv] at h
  | k + 1, b :: l, v, r, hb, h => by
    have hp7 : 2 ^ (7 * (k + 1)) = 128 * 2 ^ (7 * k) := by rw [show 7 * (k + 1) = 7 + 7 * k by omega, Nat.pow_add]
    have hpos : 0 < 2 ^ (7 * k) := Nat.pow_pos (by decide)
    have hx := hb b (by simp)
    unfold rdv at h
    by_cases h1 : b < 128
    · rw [if_pos h1] at h
      have := Option.some.inj (Option.some.inj h)
      injection this with h2 h3
      omega
    · rw [if_neg h1] at h
      obtain ⟨q, hq, h2⟩ := Option.map_eq_some_iff.1 h
      obtain ⟨p, hp, h3⟩ := Option.map_eq_some_iff.1 h2
      subst hp
      obtain ⟨v', r'⟩ := p
      have ih := rdv_lt k l v' r' (fun x hx => hb x (by simp [hx])) hq
      injection h3 with h4 h5
      rw [hp7]
      have : 128 * v' + 128 ≤ 128 * 2 ^ (7 * k) := by omega
      simp only at h4
      omega
/-- One round more: the byte, what it adds, and what comes of it. -/
theorem VI.byte {xs : List Int} {i0 k0 : Nat} {R : Option (Nat × List Int)} {j a b : Nat} (h : VI xs i0 k0 R j a) (hb : ∀ x ∈ xs, 0 ≤ x ∧ x ≤ 255) (hk : 7 * (k0 - 1) ≤ b) (hv : ∀ v r, R = some (v, r) → v < 2 ^ b) :
    (i0 + j = xs.length ∧ R = none) ∨
    (∃ c m : Nat, rd xs ((i0 + j : Nat) : Int) = (c : Int) ∧ i0 + j < xs.length ∧ c < 256 ∧ m = c % 128 ∧ a + m * 2 ^ (7 * j) < 2 ^ b ∧ ((c < 128 ∧ R = some (a + m * 2 ^ (7 * j), xs.drop (i0 + j + 1))) ∨ (128 ≤ c ∧ VI xs i0 k0 R (j + 1) (a + m * 2 ^ (7 * j))))) := by
  rcases h.cases hb with h1 | ⟨c, h1, h2, h3, h4⟩ | ⟨c, h1, h2, h3, h4, h5⟩
  · exact .inl h1
  · have e : c % 128 = c := Nat.mod_eq_of_lt h3
    exact .inr ⟨c, c % 128, h1, h2, by omega, rfl, by rw [e]; exact hv _ _ h4, .inl ⟨h3, by rw [e]; exact h4⟩⟩
  · have e : c % 128 = c - 128 := by omega
    refine .inr ⟨c, c % 128, h1, h2, h4, rfl, ?_, .inr ⟨h3, by rw [e]; exact h5⟩⟩
    rw [e]
    refine Nat.lt_of_lt_of_le h5.lt (Nat.pow_le_pow_right (by decide) ?_)
    have := h5.jk
    omega
/-- The words of one round. -/
theorem acc_words (K : IntKind) (b : Nat) (hb : b ≤ K.bits) (hb8 : 8 ≤ b) (hk : ∀ n : Int, 0 ≤ n → n < 2 ^ b → K.wrap n = n) {a m j c : Nat} (hc : c < 256) (hm : m = c % 128) (ha : a < 2 ^ (7 * j)) (hs : a + m * 2 ^ (7 * j) < 2 ^ b) :
    Go.bits .and .u8 (c : Int) 127 = (m : Int) ∧ K.wrap (m : Int) = (m : Int) ∧ K.wrap ((m : Int) * 2 ^ (((7 * j : Nat) : Int)).toNat) = ((m * 2 ^ (7 * j) : Nat) : Int) ∧ Go.bits .or K (a : Int) ((m * 2 ^ (7 * j) : Nat) : Int) = ((a + m * 2 ^ (7 * j) : Nat) : Int) := by
  have hm7 : m < 128 := by omega
  have h8 : (2 : Nat) ^ 8 ≤ 2 ^ b := Nat.pow_le_pow_right (by decide) hb8
  have hwn : ∀ x : Nat, x < 2 ^ b → K.wrap (x : Int) = (x : Int) := fun x hx => hk _ (by omega) (by exact_mod_cast hx)
  refine ⟨?_, hwn _ (by omega), ?_, ?_⟩
  · have h1 := bits_mask .u8 8 (by decide) wraps_u8 7 (by decide) (c : Int) (by omega) (by exact_mod_cast hc)
    have h2 : Go.bits .and .u8 (c : Int) 127 = (c : Int) % 128 := by simpa using h1
    rw [h2, hm]; omega
  · rw [Int.toNat_natCast]
    have h1 := hwn (m * 2 ^ (7 * j)) (by omega)
    rw [← h1]
    congr 1
  · have h1 := (bits_nat K b hb hk a (m * 2 ^ (7 * j)) (by omega) (by omega)).2
    rw [h1]
    congr 1
    rw [Nat.or_comm, Nat.mul_comm, ← Nat.two_pow_add_eq_or_of_lt ha, Nat.mul_comm, Nat.add_comm]
/-- A link, as its fields are there. -/
structure Lnk where
  hash : Option (List Int)
  name : Option (List Int)
  ts : Option Nat
/-- What some bytes are as a link, on top of s: none within: an error; none: nothing is said. -/
def umL : Nat → List Int → Lnk → Option (Option Lnk)
  | 0, _, _ => none
  | k + 1, l, s => if l = [] then some (some s) else (rdv 10 l).bind fun r => match r with
    | none => some none
    | some (key, l1) =>
      if key = 10 then (rdv 9 l1).bind fun r => match r with
        | none => some none
        | some (n, l2) => if n ≤ l2.length then umL k (l2.drop n) { s with hash := some (l2.take n) } else some none
      else if key = 18 then (rdv 9 l1).bind fun r => match r with
        | none => some none
        | some (n, l2) => if n ≤ l2.length then umL k (l2.drop n) { s with name := some (l2.take n) } else some none
      else if key = 24 then (rdv 10 l1).bind fun r => match r with
        | none => some none
        | some (v, l2) => if v < 18446744073709551616 then umL k l2 { s with ts := some v } else none
      else if key = 8 ∨ key = 16 ∨ key = 26 then some none
      else none
/-- A field of bytes, behind its key. -/
def lenR (k : Nat) (l1 : List Int) (put : List Int → Lnk) : Option (Option Lnk) := (rdv 9 l1).bind fun r => match r with
  | none => some none
  | some (n, l2) => if n ≤ l2.length then umL k (l2.drop n) (put (l2.take n)) else some none
def numR (k : Nat) (l1 : List Int) (put : Nat → Lnk) : Option (Option Lnk) := (rdv 10 l1).bind fun r => match r with
  | none => some none
  | some (v, l2) => if v < 18446744073709551616 then umL k l2 (put v) else none
theorem umL_step {k : Nat} {l : List Int} {s : Lnk} {RT : Option Lnk} (h : umL (k + 1) l s = some RT) :
    (l = [] ∧ RT = some s) ∨ (l ≠ [] ∧ ∃ R, rdv 10 l = some R ∧ ((R = none ∧ RT = none) ∨ ∃ key l1, R = some (key, l1) ∧
      ((key = 10 ∧ lenR k l1 (fun x => { s with hash := some x }) = some RT) ∨ (key = 18 ∧ lenR k l1 (fun x => { s with name := some x }) = some RT) ∨ (key = 24 ∧ numR k l1 (fun x => { s with ts := some x }) = some RT) ∨ ((key = 8 ∨ key = 16 ∨ key = 26) ∧ RT = none)))) := by
  unfold umL at h
  by_cases h0 : l = []
  · rw [if_pos h0] at h
    exact .inl ⟨h0, (Option.some.inj h).symm⟩
  rw [if_neg h0] at h
  refine .inr ⟨h0, ?_⟩
  obtain ⟨R, hR, h⟩ := Option.bind_eq_some_iff.1 h
  refine ⟨R, hR, ?_⟩
  cases R with
  | none => exact .inl ⟨rfl, (Option.some.inj h).symm⟩
  | some p =>
    obtain ⟨key, l1⟩ := p
    refine .inr ⟨key, l1, rfl, ?_⟩
    by_cases k1 : key = 10
    · simp only [k1] at h; exact .inl ⟨k1, h⟩
    by_cases k2 : key = 18
    · simp only [k2] at h; exact .inr (.inl ⟨k2, h⟩)
    by_cases k3 : key = 24
    · simp only [k3] at h; exact .inr (.inr (.inl ⟨k3, h⟩))
    simp only [k1, k2, k3, if_false] at h
    by_cases k4 : key = 8 ∨ key = 16 ∨ key = 26
    · rw [if_pos k4] at h
      exact .inr (.inr (.inr ⟨k4, (Option.some.inj h).symm⟩))
    · rw [if_neg k4] at h; cases h
theorem lenR_step {k : Nat} {l1 : List Int} {put : List Int → Lnk} {RT : Option Lnk} (h : lenR k l1 put = some RT) :
    ∃ R, rdv 9 l1 = some R ∧ ((R = none ∧ RT = none) ∨ ∃ n l2, R = some (n, l2) ∧ ((n ≤ l2.length ∧ umL k (l2.drop n) (put (l2.take n)) = some RT) ∨ (l2.length < n ∧ RT = none))) := by
  unfold lenR at h
  obtain ⟨R, hR, h⟩ := Option.bind_eq_some_iff.1 h
  refine ⟨R, hR, ?_⟩
  cases R with
  | none => exact .inl ⟨rfl, (Option.some.inj h).symm⟩
  | some p =>
    obtain ⟨n, l2⟩ := p
    refine .inr ⟨n, l2, rfl, ?_⟩
    by_cases hn : n ≤ l2.length
    · simp only [hn, if_true] at h; exact .inl ⟨hn, h⟩
    · simp only [hn, if_false] at h; exact .inr ⟨by omega, (Option.some.inj h).symm⟩
theorem numR_step {k : Nat} {l1 : List Int} {put : Nat → Lnk} {RT : Option Lnk} (h : numR k l1 put = some RT) :
    ∃ R, rdv 10 l1 = some R ∧ ((R = none ∧ RT = none) ∨ ∃ v l2, R = some (v, l2) ∧ v < 18446744073709551616 ∧ umL k l2 (put v) = some RT) := by
  unfold numR at h
  obtain ⟨R, hR, h⟩ := Option.bind_eq_some_iff.1 h
  refine ⟨R, hR, ?_⟩
  cases R with
  | none => exact .inl ⟨rfl, (Option.some.inj h).symm⟩
  | some p =>
    obtain ⟨n, l2⟩ := p
    refine .inr ⟨n, l2, rfl, ?_⟩
    by_cases hn : n < 18446744073709551616
    · simp only [hn, if_true] at h; exact ⟨hn, h⟩
    · simp only [hn, if_false] at h; cases h
/-- The blocks that are neither the link's nor that of the bytes that are read. -/
def okz (Ai : Option Addr) (ni g : Nat) : Nat → Prop := fun k => k ≠ g ∧ ∀ ad, Ai = some ad → 0 < ni → ad.block ≠ k
/-- A row whose block is as it was. -/
theorem C_blk {W W' : World} {A : Option Addr} {n : Nat} {xs : List Int} (h : Kd.C (Kd.int .u8) W A n xs) (hk : ∀ ad, A = some ad → 0 < n → W'.heap[ad.block]? = W.heap[ad.block]?) : Kd.C (Kd.int .u8) W' A n xs := by
  refine ⟨h.1, h.2.1, fun hn => ?_⟩
  obtain ⟨ad, he, hc⟩ := h.2.2 hn
  refine ⟨ad, he, fun j p hj => ?_⟩
  obtain ⟨cs, h1, h2, h3⟩ := hc j p hj
  exact ⟨cs, h1, h2, fun i u hu => by have h4 := h3 i u hu; have h5 := hk ad he hn; have h6 : ∀ m, W'.cell? (ad.add m) = W.cell? (ad.add m) := fun m => (by have e6 : (ad.add m).block = ad.block := add_block ad m; simp only [World.cell?, e6, h5]); exact (h6 _).trans h4⟩
/-- A link in memory, while it is filled out of the bytes xi at Ai. -/
structure Lm (Ai : Option Addr) (ni : Nat) (xi : List Int) (w0 W : World) (g : Nat) (s : Lnk) (c0 c1 c2 : Value) : Prop where
  inp : Kd.C (Kd.int .u8) W Ai ni xi
  ing : ∀ ad, Ai = some ad → 0 < ni → ad.block ≠ g
  blk : W.heap[g]? = some (.cells #[c0, c1, c2, .slice none 0 0, .int .i32 0] 96 (0, 0))
  gge : w0.heap.size ≤ g
  below : Below w0.heap.size w0 W
  hash0 : s.hash = none → c0 = .slice none 0 0
  hash1 : ∀ xs, s.hash = some xs → ∃ A c, c0 = .slice (some A) xs.length c ∧ Kd.R (Kd.int .u8) 5 W w0.heap.size (okz Ai ni g) c0 xs
  name0 : s.name = none → c1 = .pointer none
  name1 : ∀ xs, s.name = some xs → ∃ p : Nat, c1 = .pointer (some ⟨p, 0, none⟩) ∧ W.heap[p]? = some (.cells #[.string (strOfNums xs)] 9 (0, 0)) ∧ p ≠ g
  ts0 : s.ts = none → c2 = .pointer none
  ts1 : ∀ n, s.ts = some n → ∃ p : Nat, c2 = .pointer (some ⟨p, 0, none⟩) ∧ W.heap[p]? = some (.cells #[.int .u64 (n : Int)] 24 (0, 0)) ∧ p ≠ g
section
variable {Ai : Option Addr} {ni : Nat} {xi : List Int} {w0 W W' : World} {g : Nat} {s : Lnk} {c0 c1 c2 : Value}
/-- A row of bytes may have grown (its own, or a new one), and the hash is set. -/
theorem Lm.setHash (h : Lm Ai ni xi w0 W g s c0 c1 c2) {u u0 : Value} {l : List Int} (hu : Kd.R (Kd.int .u8) 5 W w0.heap.size (okz Ai ni g) u l) (hk : ∀ k, k < W.heap.size → k ≠ g → some k ≠ u.ownBlock → W'.heap[k]? = W.heap[k]?) (hg1 : W'.heap[g]? = some (.cells #[u0, c1, c2, .slice none 0 0, .int .i32 0] 96 (0, 0))) (hb : Below w0.heap.size w0 W') (A : Addr) (c : Nat) (xs : List Int) (hR : Kd.R (Kd.int .u8) 5 W' w0.heap.size (okz Ai ni g) (.slice (some A) xs.length c) xs) :
    Lm Ai ni xi w0 (W'.setCell ⟨g, 0, none⟩ (.slice (some A) xs.length c)) g { s with hash := some xs } (.slice (some A) xs.length c) c1 c2 := by
  refine ⟨C_blk h.inp (fun ad e hn => (Below.heap_setCell W' ⟨g, 0, none⟩ _ ad.block (by simpa using h.ing ad e hn)).trans (hk _ (Kd.C_lt (by rw [← e]; exact h.inp) hn (by decide)) (h.ing ad e hn) (fun e2 => (hu.1 _ e2.symm).2 ad e hn rfl))), h.ing, blk_put hg1 0 _ rfl, h.gge, below_set hb h.gge, fun h0 => (by cases h0), fun ys hy => ?_, h.name0, fun ys hy => ?_, h.ts0, fun n hn => ?_⟩
  · cases hy
    exact ⟨A, c, rfl, Kd.R_step hR (fun k ho hk => Below.heap_setCell W' ⟨g, 0, none⟩ _ k (by simpa using ho.1))⟩
  · obtain ⟨p, e, hp, hpg⟩ := h.name1 ys hy
    exact ⟨p, e, blk_far ((hk p (blk_lt hp) hpg (Kd.R_ne hu hp (by decide))).trans hp) (p := ⟨g, 0, none⟩) hpg _, hpg⟩
  · obtain ⟨p, e, hp, hpg⟩ := h.ts1 n hn
    exact ⟨p, e, blk_far ((hk p (blk_lt hp) hpg (Kd.R_ne hu hp (by decide))).trans hp) (p := ⟨g, 0, none⟩) hpg _, hpg⟩
theorem Lm.setName (h : Lm Ai ni xi w0 W g s c0 c1 c2) (hB : Below W.heap.size W W') (xs : List Int) {p : Nat} (hp : W'.heap[p]? = some (.cells #[.string (strOfNums xs)] 9 (0, 0))) (hpg : p ≠ g) :
    Lm Ai ni xi w0 (W'.setCell ⟨g, 1, none⟩ (.pointer (some ⟨p, 0, none⟩))) g { s with name := some xs } c0 (.pointer (some ⟨p, 0, none⟩)) c2 := by
  have hg1 : W'.heap[g]? = _ := (hB.block g (blk_lt h.blk)).trans h.blk
  refine ⟨C_blk (Kd.C_below h.inp hB) (fun ad e hn => Below.heap_setCell W' ⟨g, 1, none⟩ _ ad.block (by simpa using h.ing ad e hn)), h.ing, blk_put hg1 1 _ rfl, h.gge, below_set (below_then h.below h.below.size hB) h.gge, h.hash0, fun ys hy => ?_, fun h0 => (by cases h0), fun ys hy => ?_, h.ts0, fun n hn => ?_⟩
  · obtain ⟨A, c, e, hR⟩ := h.hash1 ys hy
    exact ⟨A, c, e, Kd.R_step (Kd.R_below hR hB) (fun k ho hk => Below.heap_setCell W' ⟨g, 1, none⟩ _ k (by simpa using ho.1))⟩
  · cases hy
    exact ⟨p, rfl, blk_far hp (p := ⟨g, 1, none⟩) hpg _, hpg⟩
  · obtain ⟨q, e, hq, hqg⟩ := h.ts1 n hn
    exact ⟨q, e, blk_far ((hB.block q (blk_lt hq)).trans hq) (p := ⟨g, 1, none⟩) hqg _, hqg⟩
theorem Lm.setTs (h : Lm Ai ni xi w0 W g s c0 c1 c2) (hB : Below W.heap.size W W') (m : Nat) {p : Nat} (hp : W'.heap[p]? = some (.cells #[.int .u64 (m : Int)] 24 (0, 0))) (hpg : p ≠ g) :
    Lm Ai ni xi w0 (W'.setCell ⟨g, 2, none⟩ (.pointer (some ⟨p, 0, none⟩))) g { s with ts := some m } c0 c1 (.pointer (some ⟨p, 0, none⟩)) := by
  have hg1 : W'.heap[g]? = _ := (hB.block g (blk_lt h.blk)).trans h.blk
  refine ⟨C_blk (Kd.C_below h.inp hB) (fun ad e hn => Below.heap_setCell W' ⟨g, 2, none⟩ _ ad.block (by simpa using h.ing ad e hn)), h.ing, blk_put hg1 2 _ rfl, h.gge, below_set (below_then h.below h.below.size hB) h.gge, h.hash0, fun ys hy => ?_, h.name0, fun ys hy => ?_, fun h0 => (by cases h0), fun n hn => ?_⟩
  · obtain ⟨A, c, e, hR⟩ := h.hash1 ys hy
    exact ⟨A, c, e, Kd.R_step (Kd.R_below hR hB) (fun k ho hk => Below.heap_setCell W' ⟨g, 2, none⟩ _ k (by simpa using ho.1))⟩
  · obtain ⟨q, e, hq, hqg⟩ := h.name1 ys hy
    exact ⟨q, e, blk_far ((hB.block q (blk_lt hq)).trans hq) (p := ⟨g, 2, none⟩) hqg _, hqg⟩
  · cases hn
    exact ⟨p, rfl, blk_far hp (p := ⟨g, 2, none⟩) hpg _, hpg⟩
end
/-- The row of which nothing is kept. -/
theorem R_cut0 {W : World} {base : Nat} {ok : Nat → Prop} {A : Option Addr} {n c : Nat} {xs : List Int} (h : Kd.R (Kd.int .u8) 5 W base ok (.slice A n c) xs) : Kd.R (Kd.int .u8) 5 W base ok (.slice A 0 c) [] := by
  obtain ⟨h0, inner, hown, hr⟩ := h
  refine ⟨fun k hk => h0 k (by cases A with | none => (simp [Value.ownBlock] at hk) | some a => exact hk), [], ⟨rfl, ?_⟩, by constructor <;> simp⟩
  rcases hown.2 with ⟨e, hn⟩ | ⟨g', c', cur, e, hge, hb, hnc, hcm, hcs, _⟩
  · injection e with e1 e2 e3
    subst e1; subst e3
    exact .inl ⟨rfl, rfl⟩
  · injection e with e1 e2 e3
    subst e1; subst e3
    exact .inr ⟨g', c, cur, rfl, hge, hb, Nat.zero_le _, hcm, hcs, by simp⟩
/-- The three variables of errors are errors. -/
def GE (W : World) : Prop := (∃ T X, W.cell? ⟨0, 0, none⟩ = some (.iface T X)) ∧ (∃ T X, W.cell? ⟨1, 0, none⟩ = some (.iface T X)) ∧ (∃ T X, W.cell? ⟨2, 0, none⟩ = some (.iface T X))
theorem GE.below {W W' : World} (h : GE W) (hb : Below W.heap.size W W') : GE W' := by
  obtain ⟨⟨T0, X0, h0⟩, ⟨T1, X1, h1⟩, ⟨T2, X2, h2⟩⟩ := h
  exact ⟨⟨T0, X0, (hb.cell (World.block_lt_of_cell? _ _ h0)).trans h0⟩, ⟨T1, X1, (hb.cell (World.block_lt_of_cell? _ _ h1)).trans h1⟩, ⟨T2, X2, (hb.cell (World.block_lt_of_cell? _ _ h2)).trans h2⟩⟩
/-- What Unmarshal hands back. -/
def UmPost (w0 : World) (g : Nat) : Option Lnk → Ending → World → Prop
  | some s, e, w' => e = .returned .nilIface ∧ Below w0.heap.size w0 w' ∧ ∃ Ai ni xi c0 c1 c2, Lm Ai ni xi w0 w' g s c0 c1 c2
  | none, e, w' => (∃ T X, e = .returned (.iface T X)) ∧ Below w0.heap.size w0 w'
theorem UmPost.err {w0 w' : World} {g : Nat} {R : Option Lnk} (hR : R = none) (T : TypeId) (X : Value) (hb : Below w0.heap.size w0 w') : UmPost w0 g R (.returned (.iface T X)) w' := by
  subst hR; exact ⟨⟨T, X, rfl⟩, hb⟩
theorem UmPost.good {Ai : Option Addr} {ni : Nat} {xi : List Int} {w0 w' : World} {g : Nat} {R : Option Lnk} {s : Lnk} {c0 c1 c2 : Value} (hR : R = some s) (h : Lm Ai ni xi w0 w' g s c0 c1 c2) : UmPost w0 g R (.returned .nilIface) w' := by
  subst hR; exact ⟨rfl, h.below, _, _, _, c0, c1, c2, h⟩
theorem Lm.hashR {Ai : Option Addr} {ni : Nat} {xi : List Int} {w0 W : World} {g : Nat} {s : Lnk} {c0 c1 c2 : Value} (h : Lm Ai ni xi w0 W g s c0 c1 c2) : ∃ A n c xs0, c0 = .slice A n c ∧ n ≤ c ∧ Kd.R (Kd.int .u8) 5 W w0.heap.size (okz Ai ni g) c0 xs0 := by
  cases hs : s.hash with
  | none => have e := h.hash0 hs; rw [e]; exact ⟨none, 0, 0, [], rfl, Nat.le_refl _, Kd.R_nil _ _ _ _ _⟩
  | some xs0 =>
    obtain ⟨A, c, e, hR⟩ := h.hash1 xs0 hs
    rw [e] at hR ⊢
    exact ⟨some A, xs0.length, c, xs0, rfl, (Kd.R_reads' hR).2.1, hR⟩
theorem own_cut (A : Option Addr) (n m c d : Nat) : (Value.slice A n c).ownBlock = (Value.slice A m d).ownBlock := by cases A <;> rfl
theorem info5s : (Tryd.prog.info? 5).map (·.size) = some 1 := by kernel_rfl
theorem info5e : (Tryd.prog.info? 5).map (fun i => (i.zero, i.size, i.bytes)) = some (some (.int .u8 0), 1, 1) := by kernel_rfl
theorem R_made0 {W : World} {base : Nat} (hb : base ≤ W.heap.size) {ok : Nat → Prop} (hok : ok W.heap.size) : Kd.R (Kd.int .u8) 5 (W.alloc (.cells #[] 5)) base ok (.slice (some ⟨W.heap.size, 0, none⟩) ([] : List Int).length 0) [] :=
  Kd.R_of_own (xs := ([] : List Int)) (World.ownsRow_made W #[] 0 hb (Nat.zero_le _) rfl) (fun k hk => by have h1 : W.heap.size = k := (by simpa [Value.ownBlock] using hk); subst h1; exact hok)
theorem Lm.okNew {Ai : Option Addr} {ni : Nat} {xi : List Int} {w0 W : World} {g : Nat} {s : Lnk} {c0 c1 c2 : Value} (h : Lm Ai ni xi w0 W g s c0 c1 c2) (k : Nat) (hk : W.heap.size ≤ k) : okz Ai ni g k :=
  ⟨fun e => by have := blk_lt h.blk; omega, fun ad e hn e2 => by have := Kd.C_lt (by rw [← e]; exact h.inp) hn (by decide); omega⟩
end Go.Proofs.YtnhnlodmkbiiiaaDoor.HandFields
