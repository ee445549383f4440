/- FnHashBits: the numbers that bits make (hashBits.Next) are those of the reference, or there are too few, for every bytes and takes. -/
import Derived.Test.YtbmeegkgcipmoaaPFnHashBitsx7
namespace Go.Proofs.Ytbmeegkgcipmoaa.Pure
open Go.RowKit Go.Proofs.Ytbmeegkgcipmoaa.PFnHashBits Go.Proofs.YtbmeegkgcipmoaaW.PrintWords Go.Proofs.YtbmeegkgcipmoaaW.PrintLast Go.Proofs.YtbmeegkgcipmoaaW.PrintMore

theorem wrap64_id {x : Int} (h0 : -9223372036854775808 ≤ x) (h1 : x ≤ 9223372036854775807) : wrap64 x = x := by unfold wrap64; omega

theorem wsucc (j : Nat) (h : j < 9223372036854775807) : wrap64 ((j : Int) + 1) = ((j + 1 : Nat) : Int) := by rw [wrap64_id (by omega) (by omega)]; omega
theorem wsub (m q : Nat) (h : q ≤ m) (hm : m < 9223372036854775807) : wrap64 ((m : Int) - (q : Int)) = ((m - q : Nat) : Int) := by rw [wrap64_id (by omega) (by omega)]; omega
theorem wadd (m q : Nat) (hm : m + q < 9223372036854775807) : wrap64 ((m : Int) + (q : Int)) = ((m + q : Nat) : Int) := by rw [wrap64_id (by omega) (by omega)]; omega

theorem u64_id {x : Int} (h0 : 0 ≤ x) (h1 : x < 18446744073709551616) : IntKind.u64.wrap x = x := by
  have e : IntKind.u64.wrap x = x % 18446744073709551616 := by rfl
  rw [e, Int.emod_eq_of_lt h0 h1]

/-! bytes -/
theorem pow_le {m n : Nat} (h : m ≤ n) : (2 : Int) ^ m ≤ ((2 ^ n : Nat) : Int) := by
  have := Nat.pow_le_pow_right (n := 2) (by decide) h
  have e : ((2 ^ m : Nat) : Int) = (2 : Int) ^ m := by simp
  omega
theorem emod_le {x d : Int} (h : 0 ≤ x) (hd : 0 < d) : x % d ≤ x := by
  have h1 := Int.mul_ediv_add_emod x d
  have h2 := Int.mul_nonneg (show 0 ≤ d by omega) (Int.ediv_nonneg h (show 0 ≤ d by omega))
  omega
theorem mask_nat : ∀ i : Fin 9, hamt_mkmask.f (i.val : Int) = some ((2 ^ i.val : Int) - 1) := by decide +kernel
theorem and_nat : ∀ i : Fin 9, ∀ b : Fin 256, Go.bits .and .u8 ((2 ^ i.val : Int) - 1) (b.val : Int) = (b.val : Int) % 2 ^ i.val := by decide +kernel
theorem and_nat' : ∀ i : Fin 9, ∀ b : Fin 256, Go.bits .and .u8 (b.val : Int) ((2 ^ i.val : Int) - 1) = (b.val : Int) % 2 ^ i.val := by decide +kernel
theorem xor_nat : ∀ i : Fin 9, Go.bits .xor .u8 255 ((2 ^ i.val : Int) - 1) = 256 - 2 ^ i.val := by decide +kernel
theorem andnot_nat : ∀ i : Fin 9, ∀ b : Fin 256, Go.bits .and .u8 (b.val : Int) (256 - 2 ^ i.val) = (b.val : Int) - (b.val : Int) % 2 ^ i.val := by decide +kernel
theorem and_one : ∀ b : Fin 256, Go.bits .and .u8 (b.val : Int) 1 = (b.val : Int) % 2 := by decide +kernel

theorem lift_byte {p : Int → Prop} (h : ∀ b : Fin 256, p (b.val : Int)) {x : Int} (h0 : 0 ≤ x) (h1 : x ≤ 255) : p x := by
  have := h ⟨x.toNat, by omega⟩
  simpa [Int.toNat_of_nonneg h0] using this
theorem mask_eq (i : Nat) (hi : i ≤ 8) : hamt_mkmask.f (i : Int) = some ((2 ^ i : Int) - 1) := mask_nat ⟨i, by omega⟩
theorem and_eq (i : Nat) (hi : i ≤ 8) {x : Int} (h0 : 0 ≤ x) (h1 : x ≤ 255) : Go.bits .and .u8 ((2 ^ i : Int) - 1) x = x % 2 ^ i := lift_byte (p := fun x => Go.bits .and .u8 ((2 ^ i : Int) - 1) x = x % 2 ^ i) (and_nat ⟨i, by omega⟩) h0 h1
theorem and_eq' (i : Nat) (hi : i ≤ 8) {x : Int} (h0 : 0 ≤ x) (h1 : x ≤ 255) : Go.bits .and .u8 x ((2 ^ i : Int) - 1) = x % 2 ^ i := lift_byte (p := fun x => Go.bits .and .u8 x ((2 ^ i : Int) - 1) = x % 2 ^ i) (and_nat' ⟨i, by omega⟩) h0 h1
theorem xor_eq (i : Nat) (hi : i ≤ 8) : Go.bits .xor .u8 255 ((2 ^ i : Int) - 1) = 256 - 2 ^ i := xor_nat ⟨i, by omega⟩
theorem andnot_eq (i : Nat) (hi : i ≤ 8) {x : Int} (h0 : 0 ≤ x) (h1 : x ≤ 255) : Go.bits .and .u8 x (256 - 2 ^ i) = x - x % 2 ^ i := lift_byte (p := fun x => Go.bits .and .u8 x (256 - 2 ^ i) = x - x % 2 ^ i) (andnot_nat ⟨i, by omega⟩) h0 h1
theorem and_one_eq {x : Int} (h0 : 0 ≤ x) (h1 : x ≤ 255) : Go.bits .and .u8 x 1 = x % 2 := lift_byte (p := fun x => Go.bits .and .u8 x 1 = x % 2) and_one h0 h1

/-- The bit at a place, from the highest bit of the first byte on. -/
def bit (l : List Int) (p : Nat) : Int := rd l ((p / 8 : Nat) : Int) / 2 ^ (7 - p % 8) % 2
/-- The number that n bits from a place on make. -/
def val (l : List Int) (p : Nat) : Nat → Int
  | 0 => 0
  | n + 1 => 2 * val l p n + bit l (p + n)
theorem val_add (l : List Int) (p m n : Nat) : val l p (m + n) = val l p m * 2 ^ n + val l (p + m) n := by
  induction n with
  | zero => simp [val]
  | succ n ih =>
    rw [← Nat.add_assoc]
    simp only [val]
    rw [ih, Int.pow_succ, Nat.add_assoc, Int.mul_add, ← Int.mul_assoc, Int.mul_comm 2 (val l p m), Int.mul_assoc, Int.mul_comm 2 (2 ^ n)]
    omega
theorem rd_byte {l : List Int} (hl : ∀ x ∈ l, 0 ≤ x ∧ x ≤ 255) (i : Int) : 0 ≤ rd l i ∧ rd l i ≤ 255 := by
  unfold rd
  rw [List.getD_eq_getElem?_getD]
  rcases h : l[i.toNat]? with _ | x
  · simp
  · exact hl x (List.mem_of_getElem? h)
theorem bit_le {l : List Int} (p : Nat) : 0 ≤ bit l p ∧ bit l p ≤ 1 := by
  unfold bit; omega
theorem val_le {l : List Int} (p n : Nat) : 0 ≤ val l p n ∧ val l p n < 2 ^ n := by
  induction n with
  | zero => simp [val]
  | succ n ih => have := bit_le (l := l) (p + n); simp only [val]; rw [Int.pow_succ]; omega

/-- Bits of one byte. -/
theorem val_in (l : List Int) (hl : ∀ x ∈ l, 0 ≤ x ∧ x ≤ 255) (p n : Nat) (hn : p % 8 + n ≤ 8) :
    val l p n = rd l ((p / 8 : Nat) : Int) % 2 ^ (8 - p % 8) / 2 ^ (8 - p % 8 - n) := by
  induction n with
  | zero =>
    simp only [val, Nat.sub_zero]
    have h0 : (0 : Int) ≤ rd l ((p / 8 : Nat) : Int) % 2 ^ (8 - p % 8) := Int.emod_nonneg _ (by have : (0 : Int) < 2 ^ (8 - p % 8) := Int.pow_pos (by decide); omega)
    have h1 : rd l ((p / 8 : Nat) : Int) % 2 ^ (8 - p % 8) < 2 ^ (8 - p % 8) := Int.emod_lt_of_pos _ (Int.pow_pos (by decide))
    rw [Int.ediv_eq_zero_of_lt h0 h1]
  | succ n ih =>
    have e1 : (p + n) / 8 = p / 8 := by omega
    have e2 : (p + n) % 8 = p % 8 + n := by omega
    simp only [val]
    rw [ih (by omega)]
    unfold bit
    rw [e1, e2]
    have hb := rd_byte hl ((p / 8 : Nat) : Int)
    generalize rd l ((p / 8 : Nat) : Int) = b at hb ⊢
    generalize hq : p % 8 = q at hn ⊢
    clear hq ih e1 e2 hl
    obtain ⟨B, hB⟩ : ∃ B : Fin 256, (B.val : Int) = b := ⟨⟨b.toNat, by omega⟩, by simp [Int.toNat_of_nonneg hb.1]⟩
    have key : ∀ (q : Fin 9) (n : Fin 9) (B : Fin 256), q.val + (n.val + 1) ≤ 8 → 2 * ((B.val : Int) % 2 ^ (8 - q.val) / 2 ^ (8 - q.val - n.val)) + (B.val : Int) / 2 ^ (7 - (q.val + n.val)) % 2 = (B.val : Int) % 2 ^ (8 - q.val) / 2 ^ (8 - q.val - (n.val + 1)) := by decide +kernel
    have := key ⟨q, by omega⟩ ⟨n, by omega⟩ B hn
    rw [hB] at this
    exact this

theorem tdiv_nat (p : Nat) : wrap64 (Int.tdiv (p : Int) 8) = ((p / 8 : Nat) : Int) ∨ 9223372036854775807 < (p : Int) := by
  by_cases h : 9223372036854775807 < (p : Int)
  · exact .inr h
  · left
    rw [Int.tdiv_eq_ediv_of_nonneg (by omega), wrap64_id (by omega) (by omega)]
    omega
theorem tmod_nat (p : Nat) : Int.tmod (p : Int) 8 = ((p % 8 : Nat) : Int) := by
  rw [Int.tmod_eq_emod_of_nonneg (by omega)]
  omega

/-- What next gives. -/
theorem next_eq (l : List Int) (hl : ∀ x ∈ l, 0 ≤ x ∧ x ≤ 255) (hlen : (l.length : Int) ≤ 100) : ∀ (i : Nat) (p k : Nat), i < k → 1 ≤ i → i ≤ 24 → p + i ≤ 8 * l.length →
    hamt_hashBits_next.f k l (p : Int) (i : Int) = some (val l p i, ((p + i : Nat) : Int)) := by
  intro i
  induction i using Nat.strongRecOn with
  | _ i ih =>
  intro p k hk h1 h24 hp
  obtain ⟨k, rfl⟩ : ∃ m, k = m + 1 := ⟨k - 1, by omega⟩
  have n8 : 8 - p % 8 ≤ 8 := Nat.sub_le _ _
  have n1 : 1 ≤ 8 - p % 8 := by omega
  have np : p % 8 + (8 - p % 8) ≤ 8 := by omega
  have nlt : ((p / 8 : Nat) : Int) < (l.length : Int) := by omega
  have hdiv : wrap64 (Int.tdiv (p : Int) 8) = ((p / 8 : Nat) : Int) := (tdiv_nat p).resolve_right (by omega)
  have hmod := tmod_nat p
  have hleft : wrap64 (8 - ((p % 8 : Nat) : Int)) = ((8 - p % 8 : Nat) : Int) := by rw [wrap64_id (by omega) (by omega)]; omega
  have hb := rd_byte hl ((p / 8 : Nat) : Int)
  have hpi : wrap64 ((p : Int) + (i : Int)) = ((p + i : Nat) : Int) := by rw [wrap64_id (by omega) (by omega)]; omega
  have hfin : ∀ x : Int, 0 ≤ x → x ≤ 16777216 → wrap64 x = x := fun x h0 h1 => wrap64_id (by omega) (by omega)
  have hv := val_le (l := l) p i
  have hv1 := val_le (l := l) p (8 - p % 8)
  have hp1 : (2 : Int) ^ (8 - p % 8) ≤ 256 := pow_le (n := 8) n8
  have hp3 : (2 : Int) ^ i ≤ 16777216 := pow_le (n := 24) h24
  have hvw : wrap64 (val l p i) = val l p i := hfin _ hv.1 (by omega)
  have hvw1 : wrap64 (val l p (8 - p % 8)) = val l p (8 - p % 8) := hfin _ hv1.1 (by omega)
  simp only [hamt_hashBits_next.f]
  rw [hdiv, hmod, hleft, if_pos (Int.natCast_nonneg _), if_pos nlt, hpi]
  clear hdiv hmod hleft hpi
  by_cases c1 : (i : Int) = ((8 - p % 8 : Nat) : Int)
  · have e : 8 - p % 8 = i := by omega
    have ei := val_in l hl p i (by omega)
    have i8 : i ≤ 8 := by omega
    rw [if_pos c1, mask_eq i i8]
    simp only [Option.bind_some]
    rw [e, Nat.sub_self, Int.pow_zero, Int.ediv_one] at ei
    rw [and_eq i i8 hb.1 hb.2, ← ei, hvw]
  · rw [if_neg c1]
    by_cases c2 : (i : Int) < ((8 - p % 8 : Nat) : Int)
    · have m8 : 8 - p % 8 - i ≤ 8 := by omega
      have ei := val_in l hl p i (by omega)
      have hsub : wrap64 (((8 - p % 8 : Nat) : Int) - (i : Int)) = ((8 - p % 8 - i : Nat) : Int) := by rw [hfin _ (by omega) (by omega)]; omega
      have hu : IntKind.u64.wrap ((8 - p % 8 - i : Nat) : Int) = ((8 - p % 8 - i : Nat) : Int) := u64_id (by omega) (by omega)
      have h0 : (0 : Int) ≤ rd l ((p / 8 : Nat) : Int) % 2 ^ (8 - p % 8) := Int.emod_nonneg _ (by have : (0 : Int) < 2 ^ (8 - p % 8) := Int.pow_pos (by decide); omega)
      have h2 : rd l ((p / 8 : Nat) : Int) % 2 ^ (8 - p % 8) ≤ rd l ((p / 8 : Nat) : Int) := emod_le hb.1 (Int.pow_pos (by decide))
      rw [if_pos c2, mask_eq (8 - p % 8) n8]
      simp only [Option.bind_some]
      rw [hsub, mask_eq (8 - p % 8 - i) m8]
      simp only [Option.bind_some]
      rw [hu, if_pos (Int.natCast_nonneg _), xor_eq (8 - p % 8 - i) m8, and_eq' (8 - p % 8) n8 hb.1 hb.2, andnot_eq (8 - p % 8 - i) m8 h0 (Int.le_trans h2 hb.2)]
      have hs : shr .u8 (rd l ((p / 8 : Nat) : Int) % 2 ^ (8 - p % 8) - rd l ((p / 8 : Nat) : Int) % 2 ^ (8 - p % 8) % 2 ^ (8 - p % 8 - i)) ((8 - p % 8 - i : Nat) : Int) = rd l ((p / 8 : Nat) : Int) % 2 ^ (8 - p % 8) / 2 ^ (8 - p % 8 - i) := by
        unfold shr
        have hm : min ((8 - p % 8 - i : Nat) : Int).toNat (IntKind.bits .u8) = 8 - p % 8 - i := by
          have : IntKind.bits .u8 = 8 := rfl
          rw [this, Int.toNat_natCast, Nat.min_eq_left m8]
        rw [hm]
        generalize rd l ((p / 8 : Nat) : Int) % 2 ^ (8 - p % 8) = x
        have hpos : (0 : Int) < 2 ^ (8 - p % 8 - i) := Int.pow_pos (by decide)
        generalize (2 : Int) ^ (8 - p % 8 - i) = d at hpos
        have e1 := Int.mul_ediv_add_emod x d
        have e2 : x - x % d = d * (x / d) := by omega
        rw [e2, Int.mul_ediv_cancel_left _ (by omega)]
      rw [hs, ← ei, hvw]
    · obtain ⟨q1, q2, q3, q4, q5, q6, q7⟩ : i - (8 - p % 8) < i ∧ i - (8 - p % 8) < k ∧ 1 ≤ i - (8 - p % 8) ∧ i - (8 - p % 8) ≤ 24 ∧ p + (8 - p % 8) + (i - (8 - p % 8)) ≤ 8 * l.length ∧ p + (8 - p % 8) + (i - (8 - p % 8)) = p + i ∧ 8 - p % 8 + (i - (8 - p % 8)) = i := by clear hb hl ih hv hv1 hp1 hp3 hvw hvw1 hfin; omega
      have hsub : wrap64 ((i : Int) - ((8 - p % 8 : Nat) : Int)) = ((i - (8 - p % 8) : Nat) : Int) := by rw [hfin _ (by omega) (by omega)]; omega
      have hu : IntKind.u64.wrap ((i - (8 - p % 8) : Nat) : Int) = ((i - (8 - p % 8) : Nat) : Int) := u64_id (by omega) (by omega)
      have hadd : wrap64 ((p : Int) + ((8 - p % 8 : Nat) : Int)) = ((p + (8 - p % 8) : Nat) : Int) := by rw [hfin _ (by omega) (by omega)]; omega
      have ev := val_add l p (8 - p % 8) (i - (8 - p % 8))
      rw [q7] at ev
      have ei := val_in l hl p (8 - p % 8) np
      rw [Nat.sub_self, Int.pow_zero, Int.ediv_one] at ei
      have hrec := ih (i - (8 - p % 8)) q1 (p + (8 - p % 8)) k q2 q3 q4 q5
      have hsh : shl .i64 (val l p (8 - p % 8)) ((i - (8 - p % 8) : Nat) : Int) = val l p (8 - p % 8) * 2 ^ (i - (8 - p % 8)) := by
        have v2 := val_le (l := l) (p + (8 - p % 8)) (i - (8 - p % 8))
        unfold shl
        have hm : min ((i - (8 - p % 8) : Nat) : Int).toNat (IntKind.bits .i64) = i - (8 - p % 8) := by
          have : IntKind.bits .i64 = 64 := rfl
          rw [this, Int.toNat_natCast, Nat.min_eq_left (by omega)]
        rw [hm]
        exact (i64_w _).trans (hfin _ (Int.mul_nonneg hv1.1 (Int.le_of_lt (Int.pow_pos (by decide)))) (by omega))
      rw [if_neg c2, mask_eq (8 - p % 8) n8]
      simp only [Option.bind_some]
      rw [hsub, hu, if_pos (Int.natCast_nonneg _), hadd, hrec]
      simp only [Option.bind_some]
      rw [and_eq (8 - p % 8) n8 hb.1 hb.2, ← ei, hvw1, hsh, ← ev, hvw, q6]

theorem Next_in (l : List Int) (hl : ∀ x ∈ l, 0 ≤ x ∧ x ≤ 255) (hlen : (l.length : Int) ≤ 100) (i p k : Nat) (hk : i < k) (h1 : 1 ≤ i) (h24 : i ≤ 24) (hp : p + i ≤ 8 * l.length) :
    hamt_hashBits_Next.f k l (p : Int) (i : Int) = some (val l p i, none, ((p + i : Nat) : Int)) := by
  have e1 : wrap64 ((p : Int) + (i : Int)) = (p : Int) + (i : Int) := wrap64_id (by omega) (by omega)
  have e2 : wrap64 ((l.length : Int) * 8) = (l.length : Int) * 8 := wrap64_id (by omega) (by omega)
  unfold hamt_hashBits_Next.f
  rw [e1, e2, if_neg (by clear e1 e2; omega), next_eq l hl hlen i p k hk h1 h24 hp]
  rfl
theorem Next_out (l : List Int) (hlen : (l.length : Int) ≤ 100) (i p k : Nat) (h24 : i ≤ 24) (hp0 : p ≤ 8 * l.length) (hp : ¬ p + i ≤ 8 * l.length) :
    hamt_hashBits_Next.f k l (p : Int) (i : Int) = some (0, some 0, (p : Int)) := by
  have e1 : wrap64 ((p : Int) + (i : Int)) = (p : Int) + (i : Int) := wrap64_id (by omega) (by omega)
  have e2 : wrap64 ((l.length : Int) * 8) = (l.length : Int) * 8 := wrap64_id (by omega) (by omega)
  unfold hamt_hashBits_Next.f
  rw [e1, e2, if_pos (by clear e1 e2; omega)]
  rfl

/-- The numbers, or none. -/
def res (l : List Int) : List Int → Nat → Option (List Int)
  | [], _ => some []
  | t :: ts, p => if p + t.toNat ≤ 8 * l.length then (res l ts (p + t.toNat)).map (val l p t.toNat :: ·) else none

theorem rd_drop {xs : List Int} {i : Nat} {t : Int} {ts : List Int} (h : xs.drop i = t :: ts) : rd xs (i : Int) = t ∧ i < xs.length ∧ xs.drop (i + 1) = ts := by
  have hlt : i < xs.length := by
    rcases Nat.lt_or_ge i xs.length with h1 | h1
    · exact h1
    · rw [List.drop_eq_nil_of_le h1] at h; exact absurd h (by simp)
  have h2 := List.drop_eq_getElem_cons hlt
  rw [h2] at h
  injection h with h3 h4
  refine ⟨?_, hlt, h4⟩
  unfold rd
  rw [Int.toNat_natCast, List.getD_eq_getElem?_getD, List.getElem?_eq_getElem hlt]
  exact h3

theorem impl_loop (l : List Int) (hl : ∀ x ∈ l, 0 ≤ x ∧ x ≤ 255) (hlen : (l.length : Int) ≤ 100) (xs : List Int) (hx : ∀ x ∈ xs, 1 ≤ x ∧ x ≤ 24) (hxl : xs.length ≤ 200) :
    ∀ (ts : List Int) (i k p : Nat) (out : List Int), xs.drop i = ts → ts.length + 25 < k → p ≤ 8 * l.length → out.length = i →
    hamt_HashBits.l0 k l xs (p : Int) out (i : Int) = some (match res l ts p with | some vs => (out ++ vs, none) | none => ([], some 0)) := by
  intro ts
  induction ts with
  | nil =>
    intro i k p out hd hk hp ho
    obtain ⟨k, rfl⟩ : ∃ m, k = m + 1 := ⟨k - 1, by omega⟩
    have hle : xs.length ≤ i := List.drop_eq_nil_iff.1 hd
    simp only [hamt_HashBits.l0]
    rw [if_neg (by omega)]
    simp [res]
  | cons t ts ih =>
    intro i k p out hd hk hp ho
    obtain ⟨k, rfl⟩ : ∃ m, k = m + 1 := ⟨k - 1, by omega⟩
    obtain ⟨h1, h2, h3⟩ := rd_drop hd
    have ht := hx t (List.mem_of_mem_drop (hd ▸ List.mem_cons_self))
    obtain ⟨n, rfl⟩ : ∃ n : Nat, t = (n : Int) := ⟨t.toNat, by omega⟩
    have hi : wrap64 ((i : Int) + 1) = ((i + 1 : Nat) : Int) := by rw [wrap64_id (by omega) (by omega)]; omega
    simp only [List.length_cons] at hk
    simp only [hamt_HashBits.l0]
    rw [if_pos (by omega), if_pos (by omega), h1, hi]
    simp only [res, Int.toNat_natCast]
    by_cases hc : p + n ≤ 8 * l.length
    · rw [Next_in l hl hlen n p k (by omega) (by omega) (by omega) hc, if_pos hc]
      simp only [Option.bind_some, Option.isNone_none, if_true]
      rw [if_pos (by omega), ih (i + 1) k (p + n) (out ++ [val l p n]) h3 (by omega) hc (by simp; omega)]
      rcases res l ts (p + n) with _ | vs <;> simp
    · rw [Next_out l hlen n p k (by omega) hp hc, if_neg hc]
      simp

theorem spec_in (l : List Int) (hl : ∀ x ∈ l, 0 ≤ x ∧ x ≤ 255) (hlen : (l.length : Int) ≤ 100) (xs : List Int) (out : List Int) (ho : out.length ≤ 200) (c i : Int) (p n : Nat) (hn : n ≤ 24) (hp : p + n ≤ 8 * l.length) :
    ∀ (d j k : Nat), j + d = n → spec_HashBits.l1 (k + d + 1) l out ((p + j : Nat) : Int) (val l p j) xs c i (n : Int) (j : Int) = spec_HashBits.l0 k l (out ++ [val l p n]) ((p + n : Nat) : Int) xs c (wrap64 (i + 1)) := by
  intro d
  induction d with
  | zero =>
    intro j k hj
    obtain rfl : j = n := by omega
    simp only [spec_HashBits.l1]
    rw [if_neg (by omega), if_pos (by omega)]
  | succ d ih =>
    intro j k hj
    have hq : (((p + j) / 8 : Nat) : Int) < (l.length : Int) := by omega
    have hjn : (j : Int) < (n : Int) := by omega
    have hrec := ih (j + 1) k (by omega)
    have hb := rd_byte hl (((p + j) / 8 : Nat) : Int)
    have hv := val_le (l := l) p j
    have hv2 := val_le (l := l) p (j + 1)
    have hpw : (2 : Int) ^ j ≤ 16777216 := pow_le (n := 24) (show j ≤ 24 by omega)
    have hpw2 : (2 : Int) ^ (j + 1) ≤ 16777216 := pow_le (n := 24) (show j + 1 ≤ 24 by omega)
    have hbit := bit_le (l := l) (p + j)
    have hsh : shr .u8 (rd l (((p + j) / 8 : Nat) : Int)) ((7 - (p + j) % 8 : Nat) : Int) = rd l (((p + j) / 8 : Nat) : Int) / 2 ^ (7 - (p + j) % 8) := by
      unfold shr
      have hm : min ((7 - (p + j) % 8 : Nat) : Int).toNat (IntKind.bits .u8) = 7 - (p + j) % 8 := by
        have : IntKind.bits .u8 = 8 := rfl
        rw [this, Int.toNat_natCast, Nat.min_eq_left (by omega)]
      rw [hm]
    have hq0 : 0 ≤ rd l (((p + j) / 8 : Nat) : Int) / 2 ^ (7 - (p + j) % 8) := Int.ediv_nonneg hb.1 (Int.le_of_lt (Int.pow_pos (by decide)))
    have hq1 : rd l (((p + j) / 8 : Nat) : Int) / 2 ^ (7 - (p + j) % 8) ≤ rd l (((p + j) / 8 : Nat) : Int) := Int.ediv_le_self _ hb.1
    have hstep : wrap64 (wrap64 (2 * val l p j) + wrap64 (Go.bits .and .u8 (rd l (((p + j) / 8 : Nat) : Int) / 2 ^ (7 - (p + j) % 8)) 1)) = val l p (j + 1) := by
      rw [and_one_eq hq0 (by omega)]
      have eb : rd l (((p + j) / 8 : Nat) : Int) / 2 ^ (7 - (p + j) % 8) % 2 = bit l (p + j) := rfl
      rw [eb, wrap64_id (x := 2 * val l p j) (by omega) (by omega), wrap64_id (x := bit l (p + j)) (by omega) (by omega), wrap64_id (by omega) (by omega)]
      rfl
    have hdiv : wrap64 (Int.tdiv ((p + j : Nat) : Int) 8) = (((p + j) / 8 : Nat) : Int) := (tdiv_nat (p + j)).resolve_right (by omega)
    have hmod := tmod_nat (p + j)
    have h7 : wrap64 (7 - (((p + j) % 8 : Nat) : Int)) = ((7 - (p + j) % 8 : Nat) : Int) := wsub 7 ((p + j) % 8) (by clear hdiv hmod; omega) (by decide)
    have hj1 : wrap64 ((j : Int) + 1) = ((j + 1 : Nat) : Int) := wsucc j (by clear hdiv hmod h7; omega)
    have hp1 : wrap64 (((p + j : Nat) : Int) + 1) = ((p + (j + 1) : Nat) : Int) := wsucc (p + j) (by clear hdiv hmod h7 hj1; omega)
    rw [show k + (d + 1) + 1 = (k + d + 1) + 1 from by omega]
    rw [spec_HashBits.l1]
    rw [hdiv, hmod, h7, if_pos hjn, if_pos (Int.natCast_nonneg _), if_pos hq, if_pos (Int.natCast_nonneg _), hsh, hstep, hj1, hp1]
    exact hrec

theorem spec_loop (l : List Int) (hl : ∀ x ∈ l, 0 ≤ x ∧ x ≤ 255) (hlen : (l.length : Int) ≤ 100) (xs : List Int) (hx : ∀ x ∈ xs, 1 ≤ x ∧ x ≤ 24) (hxl : xs.length ≤ 200) :
    ∀ (ts : List Int) (i k p : Nat) (out : List Int), xs.drop i = ts → 30 * ts.length + 1 ≤ k → p ≤ 8 * l.length → out.length = i →
    spec_HashBits.l0 k l out (p : Int) xs (xs.length : Int) (i : Int) = some (match res l ts p with | some vs => (out ++ vs, true) | none => ([], false)) := by
  intro ts
  induction ts with
  | nil =>
    intro i k p out hd hk hp ho
    obtain ⟨k, rfl⟩ : ∃ m, k = m + 1 := ⟨k - 1, by omega⟩
    have hle : xs.length ≤ i := List.drop_eq_nil_iff.1 hd
    simp only [spec_HashBits.l0]
    rw [if_neg (by omega)]
    simp [res]
  | cons t ts ih =>
    intro i k p out hd hk hp ho
    obtain ⟨h1, h2, h3⟩ := rd_drop hd
    have ht := hx t (List.mem_of_mem_drop (hd ▸ List.mem_cons_self))
    obtain ⟨n, rfl⟩ : ∃ n : Nat, t = (n : Int) := ⟨t.toNat, by omega⟩
    simp only [List.length_cons] at hk
    obtain ⟨k, rfl⟩ : ∃ m, k = m + n + 1 + 1 := ⟨k - n - 2, by omega⟩
    have hi : wrap64 ((i : Int) + 1) = ((i + 1 : Nat) : Int) := by rw [wrap64_id (by omega) (by omega)]; omega
    have e1 : wrap64 ((p : Int) + (n : Int)) = (p : Int) + (n : Int) := wrap64_id (by omega) (by omega)
    have e2 : wrap64 (8 * (l.length : Int)) = 8 * (l.length : Int) := wrap64_id (by omega) (by omega)
    rw [spec_HashBits.l0]
    rw [if_pos (by clear e1 e2 hi; omega), if_pos (by clear e1 e2 hi; omega), if_pos (by clear e1 e2 hi; omega), h1, e1, e2]
    simp only [res, Int.toNat_natCast]
    by_cases hc : p + n ≤ 8 * l.length
    · rw [if_neg (by clear e1 e2 hi; omega), if_pos hc]
      have hs := spec_in l hl hlen xs out (by omega) (xs.length : Int) (i : Int) p n (by omega) hc n 0 k (by omega)
      simp only [Nat.add_zero, val] at hs
      rw [show ((0 : Nat) : Int) = 0 from rfl] at hs
      rw [hs, hi, ih (i + 1) k (p + n) (out ++ [val l p n]) h3 (by omega) hc (by simp; omega)]
      rcases res l ts (p + n) with _ | vs <;> simp
    · rw [if_pos (by clear e1 e2 hi; omega), if_neg hc]

theorem takes_loop (xs : List Int) (hx : ∀ x ∈ xs, 0 ≤ x ∧ x ≤ 255) (hxl : xs.length ≤ 200) : ∀ (ts : List Int) (i k : Nat) (out : List Int), xs.drop i = ts → ts.length < k → out.length = i →
    laws_shardTakes.l0 k out xs (xs.length : Int) (i : Int) = some (out ++ ts.map fun t => 1 + t % 24) := by
  intro ts
  induction ts with
  | nil =>
    intro i k out hd hk ho
    obtain ⟨k, rfl⟩ : ∃ m, k = m + 1 := ⟨k - 1, by omega⟩
    have hle : xs.length ≤ i := List.drop_eq_nil_iff.1 hd
    simp only [laws_shardTakes.l0]
    rw [if_neg (by omega)]
    simp
  | cons t ts ih =>
    intro i k out hd hk ho
    obtain ⟨k, rfl⟩ : ∃ m, k = m + 1 := ⟨k - 1, by omega⟩
    obtain ⟨h1, h2, h3⟩ := rd_drop hd
    have ht := hx t (List.mem_of_mem_drop (hd ▸ List.mem_cons_self))
    have hi : wrap64 ((i : Int) + 1) = ((i + 1 : Nat) : Int) := by rw [wrap64_id (by omega) (by omega)]; omega
    simp only [List.length_cons] at hk
    simp only [laws_shardTakes.l0]
    rw [if_pos (by omega), if_pos (by omega), if_pos (by omega), if_pos (by omega), h1, hi, Int.tmod_eq_emod_of_nonneg (by omega), wrap64_id (x := t % 24) (by omega) (by omega), wrap64_id (x := 1 + t % 24) (by omega) (by omega), ih (i + 1) k _ h3 (by omega) (by simp; omega)]
    simp

/-- Two lists of numbers, held against each other. -/
theorem equal_loop (a b : List Int) (hab : a.length = b.length) (ha : a.length ≤ 140737488351232) : ∀ (d i k : Nat), i + d = a.length → d < k → a.take i = b.take i →
    slices_Equal_int_int.l0 k a b (a.length : Int) (i : Int) = some (decide (a = b)) := by
  intro d
  induction d with
  | zero =>
    intro i k hi hk ht
    obtain ⟨k, rfl⟩ : ∃ m, k = m + 1 := ⟨k - 1, by omega⟩
    simp only [slices_Equal_int_int.l0]
    rw [if_neg (by omega)]
    have : a = b := by
      rw [List.take_of_length_le (by omega), List.take_of_length_le (by omega)] at ht
      exact ht
    simp [this]
  | succ d ih =>
    intro i k hi hk ht
    obtain ⟨k, rfl⟩ : ∃ m, k = m + 1 := ⟨k - 1, by omega⟩
    have hi1 : wrap64 ((i : Int) + 1) = ((i + 1 : Nat) : Int) := by rw [wrap64_id (by omega) (by omega)]; omega
    have ea : rd a (i : Int) = a[i]'(by omega) := by unfold rd; rw [Int.toNat_natCast, List.getD_eq_getElem?_getD, List.getElem?_eq_getElem (by omega)]; rfl
    have eb : rd b (i : Int) = b[i]'(by omega) := by unfold rd; rw [Int.toNat_natCast, List.getD_eq_getElem?_getD, List.getElem?_eq_getElem (by omega)]; rfl
    simp only [slices_Equal_int_int.l0]
    rw [if_pos (by omega), if_pos (by omega), if_pos (by omega), if_pos (by omega), hi1]
    by_cases hc : rd a (i : Int) = rd b (i : Int)
    · rw [if_pos hc]
      refine ih (i + 1) k (by omega) (by omega) ?_
      rw [List.take_succ_eq_append_getElem (by omega), List.take_succ_eq_append_getElem (by omega), ht, ← ea, ← eb, hc]
    · rw [if_neg hc]
      have : a ≠ b := by
        rintro rfl
        exact hc rfl
      simp [this]
theorem equal_ints (a b : List Int) (ha : a.length ≤ 140737488351232) (k : Nat) (hk : a.length < k) : slices_Equal_int_int.f k a b = some (decide (a = b)) := by
  unfold slices_Equal_int_int.f
  by_cases h : (a.length : Int) = (b.length : Int)
  · rw [if_pos h]
    exact equal_loop a b (by omega) ha a.length 0 k (by omega) hk (by simp)
  · rw [if_neg h]
    have : a ≠ b := by rintro rfl; exact h rfl
    simp [this]

theorem impl_eq (l xs : List Int) (hl : ∀ x ∈ l, 0 ≤ x ∧ x ≤ 255) (hlen : (l.length : Int) ≤ 100) (hx : ∀ x ∈ xs, 1 ≤ x ∧ x ≤ 24) (hxl : xs.length ≤ 200) (k : Nat) (hk : xs.length + 25 < k) :
    impl_HashBits.f k l xs = some (match res l xs 0 with | some vs => (vs, true) | none => ([], false)) := by
  unfold impl_HashBits.f bytes_Clone.f slices_Clone_int_int.f hamt_HashBits.f
  rw [if_pos (by omega)]
  simp only [Option.bind_some]
  rw [if_pos (by omega)]
  simp only [Option.bind_some]
  have := impl_loop l hl hlen xs hx hxl xs 0 k 0 [] rfl hk (by omega) rfl
  rw [show ((0 : Nat) : Int) = 0 from rfl] at this
  rw [this]
  rcases res l xs 0 with _ | vs <;> simp
theorem spec_eq (l xs : List Int) (hl : ∀ x ∈ l, 0 ≤ x ∧ x ≤ 255) (hlen : (l.length : Int) ≤ 100) (hx : ∀ x ∈ xs, 1 ≤ x ∧ x ≤ 24) (hxl : xs.length ≤ 200) (k : Nat) (hk : 30 * xs.length + 1 ≤ k) :
    spec_HashBits.f k l xs = some (match res l xs 0 with | some vs => (vs, true) | none => ([], false)) := by
  have := spec_loop l hl hlen xs hx hxl xs 0 k 0 [] rfl hk (by omega) rfl
  rw [show ((0 : Nat) : Int) = 0 from rfl] at this
  unfold spec_HashBits.f
  rw [this]
  rcases res l xs 0 with _ | vs <;> simp

theorem taking (k : Nat) (hk : 100 ≤ k) : laws_shardTaking.f k = some true := by
  unfold laws_shardTaking.f
  rw [impl_eq [160] [3] (by simp) (by simp) (by simp) (by simp) k (by simp; omega)]
  have e : res [160] [3] 0 = some [5] := by decide
  rw [e]
  simp only [Option.bind_some, if_true]
  rw [equal_ints [5] [5] (by simp) k (by simp; omega)]
  simp

theorem res_len (l : List Int) : ∀ (xs : List Int) (p : Nat) (vs : List Int), res l xs p = some vs → vs.length = xs.length := by
  intro xs
  induction xs with
  | nil => intro p vs h; simp only [res, Option.some.injEq] at h; subst h; rfl
  | cons t ts ih =>
    intro p vs h
    simp only [res] at h
    split at h
    · obtain ⟨ws, hw, rfl⟩ := Option.map_eq_some_iff.1 h
      simp [ih _ _ hw]
    · exact absurd h (by simp)

theorem wf_u8 {x : Int} (h : (Lit.int .u8 x).wf = true) : 0 ≤ x ∧ x ≤ 255 := by
  have h1 : IntKind.u8.min = 0 := rfl
  have h2 : IntKind.u8.max = 255 := rfl
  simp [Lit.wf, h1, h2] at h
  omega

theorem FnHashBits : laws_FnHashBits.Pure := by
  intro l0 l1 _ _ hw0 _ _ hw1
  refine ⟨10000, ?_⟩
  unfold laws_FnHashBits.f
  have ht := taking
  have hb0 : ∀ x ∈ l0, 0 ≤ x ∧ x ≤ 255 := fun x hx => wf_u8 (hw0 x hx)
  have hb1 : ∀ x ∈ l1, 0 ≤ x ∧ x ≤ 255 := fun x hx => wf_u8 (hw1 x hx)
  have j1 : ∀ b : Bool, (b = false → (l0.length : Int) ≤ 100 ∧ l1.length ≤ 200) → laws_FnHashBits.j1 9999 l0 l1 b = some true := by
    intro b hb
    rw [laws_FnHashBits.j1]
    cases b with
    | true => rw [if_pos rfl, ht 9998 (by omega)]; rfl
    | false =>
      obtain ⟨h100, h200⟩ := hb rfl
      have htk : laws_shardTakes.f 9998 l1 = some (l1.map fun t => 1 + t % 24) := by
        have := takes_loop l1 hb1 h200 l1 0 9998 [] rfl (by omega) rfl
        rw [show ((0 : Nat) : Int) = 0 from rfl] at this
        unfold laws_shardTakes.f
        rw [this]; simp
      have hx : ∀ x ∈ l1.map (fun t => 1 + t % 24), 1 ≤ x ∧ x ≤ 24 := by
        intro x hx
        obtain ⟨t, _, rfl⟩ := List.mem_map.1 hx
        omega
      have hxl : (l1.map (fun t => 1 + t % 24)).length ≤ 200 := by simpa using h200
      rw [if_neg (by decide), htk]
      simp only [Option.bind_some]
      rw [impl_eq l0 _ hb0 h100 hx hxl 9998 (by omega)]
      simp only [Option.bind_some]
      rw [spec_eq l0 _ hb0 h100 hx hxl 9998 (by omega)]
      rcases hr : res l0 (l1.map fun t => 1 + t % 24) 0 with _ | vs
      · simp [ht 9998 (by omega)]
      · have hlen := res_len _ _ _ _ hr
        simp only [Option.bind_some, beq_self_eq_true, if_true]
        rw [equal_ints vs vs (by omega) 9998 (by omega)]
        simp [ht 9998 (by omega)]
  have j0 : ∀ b : Bool, laws_FnHashBits.j0 10000 l0 l1 b = some true := by
    intro b
    rw [laws_FnHashBits.j0]
    cases b with
    | true => rfl
    | false =>
      rw [if_neg (by decide)]
      by_cases h : (l0.length : Int) > 100
      · rw [if_pos h]; exact j1 true (by simp)
      · rw [if_neg h]
        refine j1 _ fun hd => ?_
        have := of_decide_eq_false hd
        omega
  by_cases h : (l0.length : Int) > 2147483647
  · rw [if_pos h]; exact j0 _
  · rw [if_neg h]; exact j0 _

end Go.Proofs.Ytbmeegkgcipmoaa.Pure
