/- Bytes read as a link of merkledag: numbers, fields, and the link in memory while it is filled. -/
import Derived.Test.YtnhnlodmkbiiiaaDoorRU0
namespace Go.Proofs.YtnhnlodmkbiiiaaDoor.HandFields
open Go Go.RowKit Go.Proofs.YtnhnlodmkbiiiaaDoorL Go.Proofs.YtnhnlodmkbiiiaaDoorW.PrintWords Go.Proofs.YtnhnlodmkbiiiaaDoorW.PrintLast Go.Proofs.YtnhnlodmkbiiiaaDoorW.PrintMore Go.Proofs.YtnhnlodmkbiiiaaDoor.PFieldsBase
attribute [local go_sem] max2_int min2_int max_two min_two max_three min_three max_four min_four
set_option linter.unusedVariables false
set_option linter.unusedSimpArgs false
/-- The number at the head of some bytes (at most k of them), and what follows; none within: the bytes end. -/
def rdv : Nat → List Int → Option (Option (Nat × List Int))
 | 0, _ => none
 | _ + 1, [] => some none
 | k + 1, b :: l => if b < 128 then some (some (b.toNat, l)) else (rdv k l).map (Option.map (fun p => ((b - 128).toNat + 128 * p.1, p.2)))
/-- What the rounds so far have read (a, in j bytes from place i0 on) and what the rest gives. -/
structure VI (xs : List Int) (i0 k0 : Nat) (R : Option (Nat × List Int)) (j a : Nat) : Prop where
 lt : a < 2 ^ (7 * j)
 le : i0 + j ≤ xs.length
 jk : j < k0
 rest : (rdv (k0 - j) (xs.drop (i0 + j))).map (Option.map (fun p => (a + 2 ^ (7 * j) * p.1, p.2))) = some R
theorem VI.start {xs : List Int} {i0 k0 : Nat} {R : Option (Nat × List Int)} (h : rdv k0 (xs.drop i0) = some R) (hk : 0 < k0) (hi : i0 ≤ xs.length) : VI xs i0 k0 R 0 0 := by
 refine ⟨by decide, by omega, hk, ?_⟩
 rw [Nat.sub_zero, Nat.add_zero, h]
 cases R with
 | none => rfl
 | some p => simp
/-- One round more. -/
theorem VI.cases {xs : List Int} {i0 k0 : Nat} {R : Option (Nat × List Int)} {j a : Nat} (h : VI xs i0 k0 R j a) (hb : ∀ x ∈ xs, 0 ≤ x ∧ x ≤ 255) :
  (i0 + j = xs.length ∧ R = none) ∨
  (∃ c : Nat, rd xs ((i0 + j : Nat) : Int) = (c : Int) ∧ i0 + j < xs.length ∧ c < 128 ∧ R = some (a + c * 2 ^ (7 * j), xs.drop (i0 + j + 1))) ∨
  (∃ c : Nat, rd xs ((i0 + j : Nat) : Int) = (c : Int) ∧ i0 + j < xs.length ∧ 128 ≤ c ∧ c < 256 ∧ VI xs i0 k0 R (j + 1) (a + (c - 128) * 2 ^ (7 * j))) := by
 obtain ⟨k, hk⟩ : ∃ k, k0 - j = k + 1 := ⟨k0 - j - 1, by have := h.jk; omega⟩
 have hr := h.rest
 rw [hk] at hr
 have hp7 : 2 ^ (7 * (j + 1)) = 128 * 2 ^ (7 * j) := by rw [show 7 * (j + 1) = 7 + 7 * j by omega, Nat.pow_add]
 rcases Nat.lt_or_ge (i0 + j) xs.length with hl | hl
 ·have hd := List.drop_eq_getElem_cons hl
  have hx := hb _ (List.getElem_mem hl)
  have hrd : rd xs ((i0 + j : Nat) : Int) = xs[i0 + j] := by unfold rd; rw [Int.toNat_natCast, List.getD_eq_getElem?_getD, List.getElem?_eq_getElem hl]; rfl
  obtain ⟨c, hc⟩ : ∃ c : Nat, xs[i0 + j] = (c : Int) := ⟨xs[i0 + j].toNat, by omega⟩
  rw [hc] at hx hrd
  rw [hd, hc] at hr
  unfold rdv at hr
  by_cases h1 : c < 128
  ·rw [if_pos (by omega)] at hr
   refine .inr (.inl ⟨c, hrd, hl, h1, ?_⟩)
   have := Option.some.inj hr
   rw [← this]
   simp only [Option.map_some, Int.toNat_natCast, Nat.mul_comm]
  ·rw [if_neg (by omega)] at hr
   refine .inr (.inr ⟨c, hrd, hl, by omega, by omega, ?_⟩)
   have hk1 : k = k0 - (j + 1) := by omega
   have hkp : 0 < k := by
    rcases Nat.eq_zero_or_pos k with h0 | h0
    ·rw [h0] at hr; simp [rdv] at hr
    ·exact h0
   refine ⟨?_, by omega, by omega, ?_⟩
   ·rw [hp7]
    have h2 : (c - 128) * 2 ^ (7 * j) ≤ 127 * 2 ^ (7 * j) := Nat.mul_le_mul_right _ (by omega)
    have := h.lt
    omega
   ·rw [← hk1, show i0 + (j + 1) = i0 + j + 1 by omega]
    cases hv : rdv k (List.drop (i0 + j + 1) xs) with
    | none => rw [hv] at hr; simp at hr
    | some q =>
     rw [hv] at hr
     cases q with
     | none => simpa using hr
     | some p =>
      have := Option.some.inj hr
      rw [← this]
      simp only [Option.map_some, Option.some.injEq, Prod.mk.injEq, and_true]
      have e1 : ((c : Int) - 128).toNat = c - 128 := by omega
      rw [e1, hp7, Nat.mul_add, Nat.add_assoc, Nat.mul_comm (c - 128), ← Nat.mul_assoc, Nat.mul_comm 128]
 ·have he : i0 + j = xs.length := by have := h.le; omega
  rw [List.drop_of_length_le (by omega)] at hr
  unfold rdv at hr
  exact .inl ⟨he, (Option.some.inj hr).symm⟩
/-- One round more: the byte, what it adds, and what comes of it. -/
theorem VI.byte {xs : List Int} {i0 k0 : Nat} {R : Option (Nat × List Int)} {j a b : Nat} (h : VI xs i0 k0 R j a) (hb : ∀ x ∈ xs, 0 ≤ x ∧ x ≤ 255) (hk : 7 * (k0 - 1) ≤ b) (hv : ∀ v r, R = some (v, r) → v < 2 ^ b) :
  (i0 + j = xs.length ∧ R = none) ∨
  (∃ c m : Nat, rd xs ((i0 + j : Nat) : Int) = (c : Int) ∧ i0 + j < xs.length ∧ c < 256 ∧ m = c % 128 ∧ a + m * 2 ^ (7 * j) < 2 ^ b ∧ ((c < 128 ∧ R = some (a + m * 2 ^ (7 * j), xs.drop (i0 + j + 1))) ∨ (128 ≤ c ∧ VI xs i0 k0 R (j + 1) (a + m * 2 ^ (7 * j))))) := by
 rcases h.cases hb with h1 | ⟨c, h1, h2, h3, h4⟩ | ⟨c, h1, h2, h3, h4, h5⟩
 ·exact .inl h1
 ·have e : c % 128 = c := Nat.mod_eq_of_lt h3
  exact .inr ⟨c, c % 128, h1, h2, by omega, rfl, by rw [e]; exact hv _ _ h4, .inl ⟨h3, by rw [e]; exact h4⟩⟩
 ·have e : c % 128 = c - 128 := by omega
  refine .inr ⟨c, c % 128, h1, h2, h4, rfl, ?_, .inr ⟨h3, by rw [e]; exact h5⟩⟩
  rw [e]
  refine Nat.lt_of_lt_of_le h5.lt (Nat.pow_le_pow_right (by decide) ?_)
  have := h5.jk
  omega
/-- The words of one round. -/
theorem acc_words (K : IntKind) (b : Nat) (hb : b ≤ K.bits) (hb8 : 8 ≤ b) (hk : ∀ n : Int, 0 ≤ n → n < 2 ^ b → K.wrap n = n) {a m j c : Nat} (hc : c < 256) (hm : m = c % 128) (ha : a < 2 ^ (7 * j)) (hs : a + m * 2 ^ (7 * j) < 2 ^ b) :
  Go.bits .and .u8 (c : Int) 127 = (m : Int) ∧ K.wrap (m : Int) = (m : Int) ∧ K.wrap ((m : Int) * 2 ^ (((7 * j : Nat) : Int)).toNat) = ((m * 2 ^ (7 * j) : Nat) : Int) ∧ Go.bits .or K (a : Int) ((m * 2 ^ (7 * j) : Nat) : Int) = ((a + m * 2 ^ (7 * j) : Nat) : Int) := by
 have hm7 : m < 128 := by omega
 have h8 : (2 : Nat) ^ 8 ≤ 2 ^ b := Nat.pow_le_pow_right (by decide) hb8
 have hwn : ∀ x : Nat, x < 2 ^ b → K.wrap (x : Int) = (x : Int) := fun x hx => hk _ (by omega) (by exact_mod_cast hx)
 refine ⟨?_, hwn _ (by omega), ?_, ?_⟩
 ·have h1 := bits_mask .u8 8 (by decide) wraps_u8 7 (by decide) (c : Int) (by omega) (by exact_mod_cast hc)
  have h2 : Go.bits .and .u8 (c : Int) 127 = (c : Int) % 128 := by simpa using h1
  rw [h2, hm]; omega
 ·rw [Int.toNat_natCast]
  have h1 := hwn (m * 2 ^ (7 * j)) (by omega)
  rw [← h1]
  congr 1
 ·have h1 := (bits_nat K b hb hk a (m * 2 ^ (7 * j)) (by omega) (by omega)).2
  rw [h1]
  congr 1
  rw [Nat.or_comm, Nat.mul_comm, ← Nat.two_pow_add_eq_or_of_lt ha, Nat.mul_comm, Nat.add_comm]
/-- A link, as its fields are there. -/
structure Lnk where
 hash : Option (List Int)
 name : Option (List Int)
 ts : Option Nat
/-- The blocks that are neither the link's nor that of the bytes that are read. -/
class Prot where
 blk : Nat → Option Obj
section
variable [Prot] {Ai : Option Addr} {ni : Nat} {xi : List Int} {w0 W W' : World} {g : Nat} {s : Lnk} {c0 c1 c2 : Value}
end
end Go.Proofs.YtnhnlodmkbiiiaaDoor.HandFields
