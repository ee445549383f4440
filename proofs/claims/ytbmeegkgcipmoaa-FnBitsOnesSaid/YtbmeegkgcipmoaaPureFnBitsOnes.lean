/- FnBitsOnes: how many bits of a field are set, how many below a place and how many from it on, are told as they were set, for all fields of 8 to 2048 bits, all sets and unsets, all places. -/
import Derived.Test.YtbmeegkgcipmoaaPFnBitsOnesx9
namespace Go.Proofs.Ytbmeegkgcipmoaa.Pure
open Go.RowKit Go.Proofs.Ytbmeegkgcipmoaa.PFnBitsOnes Go.Proofs.YtbmeegkgcipmoaaW.PrintWords Go.Proofs.YtbmeegkgcipmoaaW.PrintLast Go.Proofs.YtbmeegkgcipmoaaW.PrintMore

theorem wrap64_id {x : Int} (h0 : -9223372036854775808 ≤ x) (h1 : x ≤ 9223372036854775807) : wrap64 x = x := by unfold wrap64; omega
theorem wsucc (j : Nat) (h : j < 9223372036854775807) : wrap64 ((j : Int) + 1) = ((j + 1 : Nat) : Int) := by rw [wrap64_id (by omega) (by omega)]; omega
theorem wneg8 (N : Nat) (h : N ≤ 1000) : wrap64 (-(8 * (N : Int))) = -(8 * (N : Int)) := wrap64_id (by omega) (by omega)
theorem wm1 (t : Int) (h : -10000000 ≤ t) (h' : t < 0) : wrap64 (-1 - t) = ((-1 - t).toNat : Int) := by rw [wrap64_id (by omega) (by omega)]; omega
theorem u64_id {x : Int} (h0 : 0 ≤ x) (h1 : x < 18446744073709551616) : IntKind.u64.wrap x = x := by
  have e : IntKind.u64.wrap x = x % 18446744073709551616 := by rfl
  rw [e, Int.emod_eq_of_lt h0 h1]
theorem i16_id {x : Int} (h0 : -32768 ≤ x) (h1 : x ≤ 32767) : IntKind.i16.wrap x = x := by
  have e : IntKind.i16.wrap x = if x % 65536 ≥ 32768 then x % 65536 - 65536 else x % 65536 := by simp [IntKind.wrap, IntKind.bits, IntKind.signed]
  rw [e]; split <;> omega

/-! bits of bytes -/
def tb (x : Int) (c : Nat) : Int := x / 2 ^ c % 2
def bsum (x : Int) : Nat → Int
  | 0 => 0
  | n + 1 => bsum x n + tb x n
theorem or_nat : ∀ (b : Fin 8) (x : Fin 256), (∀ c : Fin 8, tb (Go.bits .or .u8 (x.val : Int) (shl .u8 1 (b.val : Int))) c.val = if c.val = b.val then 1 else tb (x.val : Int) c.val) ∧ 0 ≤ Go.bits .or .u8 (x.val : Int) (shl .u8 1 (b.val : Int)) ∧ Go.bits .or .u8 (x.val : Int) (shl .u8 1 (b.val : Int)) ≤ 255 := by decide +kernel
theorem andn_nat : ∀ (b : Fin 8) (x : Fin 256), (∀ c : Fin 8, tb (Go.bits .and .u8 (x.val : Int) (Go.bits .xor .u8 255 (shl .u8 1 (b.val : Int)))) c.val = if c.val = b.val then 0 else tb (x.val : Int) c.val) ∧ 0 ≤ Go.bits .and .u8 (x.val : Int) (Go.bits .xor .u8 255 (shl .u8 1 (b.val : Int))) ∧ Go.bits .and .u8 (x.val : Int) (Go.bits .xor .u8 255 (shl .u8 1 (b.val : Int))) ≤ 255 := by decide +kernel
theorem ones_nat : ∀ (x : Fin 256), (Lib.onesCount x.val : Int) = bsum (x.val : Int) 8 := by decide +kernel
theorem shl_nat : ∀ (n : Fin 8) (x : Fin 256), 0 ≤ shl .u8 (x.val : Int) ((8 - (n.val : Int)) % 256) ∧ shl .u8 (x.val : Int) ((8 - (n.val : Int)) % 256) ≤ 255 ∧ (Lib.onesCount (shl .u8 (x.val : Int) ((8 - (n.val : Int)) % 256)).toNat : Int) = bsum (x.val : Int) n.val := by decide +kernel
theorem shr_nat : ∀ (n : Fin 8) (x : Fin 256), 0 ≤ shr .u8 (x.val : Int) (n.val : Int) ∧ shr .u8 (x.val : Int) (n.val : Int) ≤ 255 ∧ (Lib.onesCount (shr .u8 (x.val : Int) (n.val : Int)).toNat : Int) = bsum (x.val : Int) 8 - bsum (x.val : Int) n.val ∧ (Go.bits .and .u8 (shr .u8 (x.val : Int) (n.val : Int)) 1 != 0) = decide (tb (x.val : Int) n.val = 1) := by decide +kernel
theorem lift_byte {p : Int → Prop} (h : ∀ b : Fin 256, p (b.val : Int)) {x : Int} (h0 : 0 ≤ x) (h1 : x ≤ 255) : p x := by
  have := h ⟨x.toNat, by omega⟩
  simpa [Int.toNat_of_nonneg h0] using this

/-! counting -/
def cnt (was : List Bool) (lo : Nat) : Nat → Int
  | 0 => 0
  | n + 1 => cnt was lo n + if was.getD (lo + n) false = true then 1 else 0
theorem cnt_add (was : List Bool) (lo m n : Nat) : cnt was lo (m + n) = cnt was lo m + cnt was (lo + m) n := by
  induction n with
  | zero => simp [cnt]
  | succ n ih => rw [← Nat.add_assoc]; simp only [cnt]; rw [ih, Nat.add_assoc lo m n]; omega
theorem cnt_le (was : List Bool) (lo n : Nat) : 0 ≤ cnt was lo n ∧ cnt was lo n ≤ n := by
  induction n with
  | zero => simp [cnt]
  | succ n ih => simp only [cnt]; split <;> omega

/-- The field that holds the bits: the bit p is the bit p % 8 of the byte that is p / 8 from the end. -/
def Rel (N : Nat) (L : List Int) (was : List Bool) : Prop :=
  L.length = N ∧ was.length = 8 * N ∧ (∀ x ∈ L, 0 ≤ x ∧ x ≤ 255) ∧ ∀ p, p < 8 * N → tb (rd L ((N - 1 - p / 8 : Nat) : Int)) (p % 8) = if was.getD p false = true then 1 else 0

theorem rd_nat (l : List Int) (i : Nat) (h : i < l.length) : rd l (i : Int) = l[i] := by
  unfold rd; rw [Int.toNat_natCast, List.getD_eq_getElem?_getD, List.getElem?_eq_getElem h]; rfl
theorem rd_byte {l : List Int} (hl : ∀ x ∈ l, 0 ≤ x ∧ x ≤ 255) (i : Int) : 0 ≤ rd l i ∧ rd l i ≤ 255 := by
  unfold rd
  rw [List.getD_eq_getElem?_getD]
  rcases h : l[i.toNat]? with _ | x
  · simp
  · exact hl x (List.mem_of_getElem? h)
theorem rd_set (l : List Int) (i j : Nat) (x : Int) (hj : j < l.length) : rd (l.set i x) (j : Int) = if i = j then x else rd l (j : Int) := by
  rw [rd_nat _ j (by simpa using hj), rd_nat l j hj, List.getElem_set]
theorem getD_set (l : List Bool) (i j : Nat) (b : Bool) (hj : j < l.length) : (l.set i b).getD j false = if i = j then b else l.getD j false := by
  rw [List.getD_eq_getElem?_getD, List.getD_eq_getElem?_getD, List.getElem?_set]
  by_cases h : i = j
  · subst h; rw [if_pos rfl, if_pos hj, if_pos rfl]; rfl
  · rw [if_neg h, if_neg h]

theorem Rel.turn {N : Nat} {L : List Int} {was : List Bool} (h : Rel N L was) (p : Nat) (hp : p < 8 * N) (v : Bool) (x : Int) (h0 : 0 ≤ x) (h1 : x ≤ 255)
    (hx : ∀ c, c < 8 → tb x c = if c = p % 8 then (if v = true then 1 else 0) else tb (rd L ((N - 1 - p / 8 : Nat) : Int)) c) :
    Rel N (L.set (N - 1 - p / 8) x) (was.set p v) := by
  obtain ⟨hl, hw, hb, hr⟩ := h
  refine ⟨by simpa using hl, by simpa using hw, fun y hy => ?_, fun q hq => ?_⟩
  · rcases List.mem_or_eq_of_mem_set hy with hy | rfl
    · exact hb y hy
    · exact ⟨h0, h1⟩
  · rw [rd_set L _ _ x (by omega), getD_set was p q v (by omega)]
    by_cases e : p / 8 = q / 8
    · rw [if_pos (by rw [e]), hx (q % 8) (by omega)]
      by_cases e2 : p = q
      · subst e2; rw [if_pos rfl, if_pos rfl]
      · rw [if_neg (by omega), if_neg e2, e]
        exact hr q hq
    · have hpq : ¬ p = q := by
        rintro rfl
        exact e rfl
      rw [if_neg (by omega), if_neg hpq]
      exact hr q hq

theorem offset_eq (L : List Int) (p : Nat) (h : p < 8 * L.length) (hl : L.length ≤ 1000) :
    gobitfield_Bitfield_offset.f L (p : Int) = some (((L.length - 1 - p / 8 : Nat) : Int), ((p % 8 : Nat) : Int)) := by
  unfold gobitfield_Bitfield_offset.f
  rw [u64_id (x := (p : Int)) (by omega) (by omega), Int.tdiv_eq_ediv_of_nonneg (by omega), u64_id (x := (p : Int) / 8) (by omega) (by omega), u64_id (x := (L.length : Int)) (by omega) (by omega), u64_id (x := (L.length : Int) - (p : Int) / 8) (by omega) (by omega), u64_id (by omega) (by omega)]
  congr 2 <;> omega

def upd (was : List Bool) (t : Int) : List Bool := if 0 ≤ t then was.set t.toNat true else was.set (-1 - t).toNat false

theorem SetBit_eq {N : Nat} {L : List Int} {was : List Bool} (h : Rel N L was) (hN : N ≤ 1000) (p : Nat) (hp : p < 8 * N) :
    ∃ L', gobitfield_Bitfield_SetBit.f L (p : Int) = some L' ∧ Rel N L' (was.set p true) := by
  have hl := h.1
  have hb := rd_byte h.2.2.1 ((N - 1 - p / 8 : Nat) : Int)
  have key := lift_byte (p := fun x => (∀ c : Fin 8, tb (Go.bits .or .u8 x (shl .u8 1 ((p % 8 : Nat) : Int))) c.val = if c.val = p % 8 then 1 else tb x c.val) ∧ 0 ≤ Go.bits .or .u8 x (shl .u8 1 ((p % 8 : Nat) : Int)) ∧ Go.bits .or .u8 x (shl .u8 1 ((p % 8 : Nat) : Int)) ≤ 255) (or_nat ⟨p % 8, by omega⟩) hb.1 hb.2
  refine ⟨_, ?_, h.turn p hp true _ key.2.1 key.2.2 (fun c hc => by have := key.1 ⟨c, hc⟩; simpa using this)⟩
  unfold gobitfield_Bitfield_SetBit.f
  rw [offset_eq L p (by omega) (by omega)]
  rw [Option.bind_some]
  rw [if_pos (Int.natCast_nonneg _), if_pos (by omega), if_pos (Int.natCast_nonneg _), hl, Int.toNat_natCast]
theorem UnsetBit_eq {N : Nat} {L : List Int} {was : List Bool} (h : Rel N L was) (hN : N ≤ 1000) (p : Nat) (hp : p < 8 * N) :
    ∃ L', gobitfield_Bitfield_UnsetBit.f L (p : Int) = some L' ∧ Rel N L' (was.set p false) := by
  have hl := h.1
  have hb := rd_byte h.2.2.1 ((N - 1 - p / 8 : Nat) : Int)
  have key := lift_byte (p := fun x => (∀ c : Fin 8, tb (Go.bits .and .u8 x (Go.bits .xor .u8 255 (shl .u8 1 ((p % 8 : Nat) : Int)))) c.val = if c.val = p % 8 then 0 else tb x c.val) ∧ 0 ≤ Go.bits .and .u8 x (Go.bits .xor .u8 255 (shl .u8 1 ((p % 8 : Nat) : Int))) ∧ Go.bits .and .u8 x (Go.bits .xor .u8 255 (shl .u8 1 ((p % 8 : Nat) : Int))) ≤ 255) (andn_nat ⟨p % 8, by omega⟩) hb.1 hb.2
  refine ⟨_, ?_, h.turn p hp false _ key.2.1 key.2.2 (fun c hc => by have := key.1 ⟨c, hc⟩; simpa using this)⟩
  unfold gobitfield_Bitfield_UnsetBit.f
  rw [offset_eq L p (by omega) (by omega)]
  rw [Option.bind_some]
  rw [if_pos (Int.natCast_nonneg _), if_pos (by omega), if_pos (Int.natCast_nonneg _), hl, Int.toNat_natCast]

theorem rd_drop {xs : List Int} {i : Nat} {t : Int} {ts : List Int} (h : xs.drop i = t :: ts) : rd xs (i : Int) = t ∧ i < xs.length ∧ xs.drop (i + 1) = ts := by
  have hlt : i < xs.length := by
    rcases Nat.lt_or_ge i xs.length with h1 | h1
    · exact h1
    · rw [List.drop_eq_nil_of_le h1] at h; exact absurd h (by simp)
  have h2 := List.drop_eq_getElem_cons hlt
  rw [h2] at h
  injection h with h3 h4
  exact ⟨(rd_nat xs i hlt).trans h3, hlt, h4⟩

theorem set_loop (N : Nat) (hN : N ≤ 1000) (xs : List Int) (hx : ∀ t ∈ xs, -(8 * (N : Int)) ≤ t ∧ t < 8 * (N : Int)) (hxl : xs.length ≤ 3000) :
    ∀ (ts : List Int) (i k : Nat) (L : List Int) (was : List Bool), xs.drop i = ts → Rel N L was →
    ∃ L', Rel N L' (ts.foldl upd was) ∧ impl_BitsSet.l0 (k + 2 * ts.length + 1) (8 * (N : Int)) L xs (xs.length : Int) (i : Int) = (gobitfield_Bitfield_Bytes.f k L').bind fun t123 => ((bytes_Clone.f t123).bind fun t126 => (some (t126, true))) := by
  intro ts
  induction ts with
  | nil =>
    intro i k L was hd hr
    have hle : xs.length ≤ i := List.drop_eq_nil_iff.1 hd
    refine ⟨L, hr, ?_⟩
    simp only [List.length_nil, Nat.mul_zero, Nat.add_zero, impl_BitsSet.l0]
    rw [if_neg (by omega)]
  | cons t ts ih =>
    intro i k L was hd hr
    obtain ⟨h1, h2, h3⟩ := rd_drop hd
    have ht := hx t (List.mem_of_mem_drop (hd ▸ List.mem_cons_self))
    have e0 : k + 2 * (t :: ts).length + 1 = (k + 2 * ts.length + 1) + 1 + 1 := by simp; omega
    have e1 : (i : Int) < (xs.length : Int) := by omega
    have e2 : ¬ t ≥ 8 * (N : Int) := by omega
    have e3 : ¬ (decide (t < -(8 * (N : Int))) = true) := by simp; omega
    have e4 : i < 9223372036854775807 := by omega
    rw [e0, impl_BitsSet.l0, if_pos e1, if_pos (Int.natCast_nonneg _), if_pos e1, h1, if_neg e2, wneg8 N hN, impl_BitsSet.j1, if_neg e3]
    by_cases hc : 0 ≤ t
    · obtain ⟨p, rfl⟩ : ∃ p : Nat, t = (p : Int) := ⟨t.toNat, by omega⟩
      obtain ⟨L1, q1, hr1⟩ := SetBit_eq hr hN p (by omega)
      obtain ⟨L', hr', q'⟩ := ih (i + 1) k L1 _ h3 hr1
      refine ⟨L', ?_, ?_⟩
      · rw [List.foldl_cons, upd, if_pos hc, Int.toNat_natCast]; exact hr'
      · rw [if_pos hc, q1]
        rw [Option.bind_some]
        rw [wsucc i e4, q']
    · have e5 : -10000000 ≤ t := by omega
      have e6 : t < 0 := by omega
      have e7 : (-1 - t).toNat < 8 * N := by omega
      obtain ⟨L1, q1, hr1⟩ := UnsetBit_eq hr hN (-1 - t).toNat e7
      obtain ⟨L', hr', q'⟩ := ih (i + 1) k L1 _ h3 hr1
      refine ⟨L', ?_, ?_⟩
      · rw [List.foldl_cons, upd, if_neg hc]; exact hr'
      · rw [if_neg hc, wm1 t e5 e6, q1]
        rw [Option.bind_some]
        rw [wsucc i e4, q']

theorem bytes_loop (L : List Int) (hl : L.length ≤ 1000) : ∀ (d i k : Nat), i + d = L.length → d < k → (∀ j, j < i → rd L (j : Int) = 0) →
    ∃ z, z ≤ L.length ∧ (∀ j, j < z → rd L (j : Int) = 0) ∧ gobitfield_Bitfield_Bytes.l0 k L L (L.length : Int) (i : Int) = some (L.drop z) := by
  intro d
  induction d with
  | zero =>
    intro i k hi hk hz
    obtain ⟨k, rfl⟩ : ∃ m, k = m + 1 := ⟨k - 1, by omega⟩
    refine ⟨L.length, Nat.le_refl _, fun j hj => hz j (by omega), ?_⟩
    simp only [gobitfield_Bitfield_Bytes.l0]
    rw [if_neg (by omega)]
    simp
  | succ d ih =>
    intro i k hi hk hz
    obtain ⟨k, rfl⟩ : ∃ m, k = m + 1 := ⟨k - 1, by omega⟩
    have hi1 := wsucc i (by omega)
    by_cases hc : rd L (i : Int) = 0
    · obtain ⟨z, h1, h2, h3⟩ := ih (i + 1) k (by omega) (by omega) (fun j hj => by
        rcases Nat.lt_or_ge j i with h | h
        · exact hz j h
        · obtain rfl : j = i := by omega
          exact hc)
      refine ⟨z, h1, h2, ?_⟩
      simp only [gobitfield_Bitfield_Bytes.l0]
      rw [if_pos (by omega), if_pos (by omega), if_pos (by omega), if_pos hc, hi1, h3]
    · refine ⟨i, by omega, hz, ?_⟩
      simp only [gobitfield_Bitfield_Bytes.l0]
      rw [if_pos (by omega), if_pos (by omega), if_pos (by omega), if_neg hc, if_pos (by omega), Int.toNat_natCast]

theorem new_eq (N : Nat) (hN : N ≤ 1000) : gobitfield_NewBitfield.f (8 * (N : Int)) = some (List.replicate N 0, none) := by
  unfold gobitfield_NewBitfield.f
  have h1 : Int.tmod (8 * (N : Int)) 8 = 0 := by rw [Int.tmod_eq_emod_of_nonneg (by omega)]; omega
  have h2 : wrap64 (Int.tdiv (8 * (N : Int)) 8) = (N : Int) := by rw [Int.tdiv_eq_ediv_of_nonneg (by omega), wrap64_id (by omega) (by omega)]; omega
  rw [if_neg (by omega), if_pos h1, h2, if_pos (by omega), Int.toNat_natCast, if_pos (by omega)]

theorem Rel.zero (N : Nat) : Rel N (List.replicate N 0) (List.replicate (8 * N) false) := by
  refine ⟨by simp, by simp, fun x hx => ?_, fun p hp => ?_⟩
  · obtain rfl := (List.mem_replicate.1 hx).2; omega
  · rw [rd_nat _ _ (by simp; omega), List.getElem_replicate, List.getD_eq_getElem?_getD, List.getElem?_replicate, if_pos hp]
    simp [tb]

theorem from_eq (N : Nat) (hN : N ≤ 1000) (h0 : 0 < N) (L : List Int) (hl : L.length = N) (z : Nat) (hz : z ≤ N) (hzz : ∀ j, j < z → rd L (j : Int) = 0) :
    gobitfield_FromBytes.f (8 * (N : Int)) (L.drop z) = some (L, none) := by
  unfold gobitfield_FromBytes.f
  rw [new_eq N hN]
  simp only [Option.bind_some, Option.isNone_none, if_true, List.length_replicate, List.length_drop, hl]
  rw [if_neg (by omega), if_pos (by omega), if_neg (by omega)]
  have e : N - (N - z) = z := by omega
  rw [e]
  congr 2
  have et : (List.replicate N (0 : Int)).take z = L.take z := by
    apply List.ext_getElem
    · simp; omega
    · intro j hj1 hj2
      have hj : j < z := by simp at hj1; omega
      have := hzz j hj
      rw [rd_nat L j (by omega)] at this
      simp [this]
  rw [et, List.take_append_drop]

/-- How many bits are set in bytes. -/
def sumC : List Int → Int
  | [] => 0
  | x :: l => Lib.onesCount x.toNat + sumC l
theorem sumC_append (a b : List Int) : sumC (a ++ b) = sumC a + sumC b := by
  induction a with
  | nil => simp [sumC]
  | cons x l ih => simp [sumC, ih]; omega
theorem ones_le {x : Int} (h0 : 0 ≤ x) (h1 : x ≤ 255) : (Lib.onesCount x.toNat : Int) ≤ 8 := by
  have := Lib.onesCount_le8 ⟨x.toNat, by omega⟩
  simp only at this
  omega
theorem sumC_le {l : List Int} (h : ∀ x ∈ l, 0 ≤ x ∧ x ≤ 255) : 0 ≤ sumC l ∧ sumC l ≤ 8 * l.length := by
  induction l with
  | nil => simp [sumC]
  | cons x l ih =>
    have h1 := ih (fun y hy => h y (List.mem_cons_of_mem _ hy))
    have h2 := h x List.mem_cons_self
    have h3 := ones_le h2.1 h2.2
    simp only [sumC, List.length_cons]
    omega
theorem c8 {x : Int} (h : 0 ≤ x ∧ x ≤ 255) : bits_OnesCount8.f x = some (Lib.onesCount x.toNat : Int) := by
  unfold bits_OnesCount8.f; rw [if_pos h]

theorem Ones_loop (L : List Int) (hb : ∀ x ∈ L, 0 ≤ x ∧ x ≤ 255) (hl : L.length ≤ 1000) : ∀ (ts : List Int) (i k : Nat) (acc : Int), L.drop i = ts → ts.length < k → 0 ≤ acc → acc ≤ 100000 - 8 * ts.length →
    gobitfield_Bitfield_Ones.l0 k acc L (L.length : Int) (i : Int) = some (acc + sumC ts) := by
  intro ts
  induction ts with
  | nil =>
    intro i k acc hd hk ha hb2
    obtain ⟨k, rfl⟩ : ∃ m, k = m + 1 := ⟨k - 1, by omega⟩
    have hle : L.length ≤ i := List.drop_eq_nil_iff.1 hd
    simp only [gobitfield_Bitfield_Ones.l0]
    rw [if_neg (by omega)]
    simp [sumC]
  | cons t ts ih =>
    intro i k acc hd hk ha hb2
    obtain ⟨k, rfl⟩ : ∃ m, k = m + 1 := ⟨k - 1, by omega⟩
    obtain ⟨h1, h2, h3⟩ := rd_drop hd
    have ht := hb t (List.mem_of_mem_drop (hd ▸ List.mem_cons_self))
    have ho := ones_le ht.1 ht.2
    have hi1 := wsucc i (by omega)
    simp only [List.length_cons] at hk hb2
    simp only [gobitfield_Bitfield_Ones.l0]
    rw [if_pos (by omega), if_pos (by omega), if_pos (by omega), h1, c8 ht]
    rw [Option.bind_some]
    rw [hi1, wrap64_id (by omega) (by omega), ih (i + 1) k _ h3 (by omega) (by omega) (by omega)]
    simp only [sumC]
    congr 1
    omega
theorem Before_loop (L : List Int) (hb : ∀ x ∈ L, 0 ≤ x ∧ x ≤ 255) (hl : L.length ≤ 1000) : ∀ (ts : List Int) (i k : Nat) (acc : Int), L.drop i = ts → ts.length < k → 0 ≤ acc → acc ≤ 100000 - 8 * ts.length →
    gobitfield_Bitfield_OnesBefore.l0 k acc L (L.length : Int) (i : Int) = some (acc + sumC ts) := by
  intro ts
  induction ts with
  | nil =>
    intro i k acc hd hk ha hb2
    obtain ⟨k, rfl⟩ : ∃ m, k = m + 1 := ⟨k - 1, by omega⟩
    have hle : L.length ≤ i := List.drop_eq_nil_iff.1 hd
    simp only [gobitfield_Bitfield_OnesBefore.l0]
    rw [if_neg (by omega)]
    simp [sumC]
  | cons t ts ih =>
    intro i k acc hd hk ha hb2
    obtain ⟨k, rfl⟩ : ∃ m, k = m + 1 := ⟨k - 1, by omega⟩
    obtain ⟨h1, h2, h3⟩ := rd_drop hd
    have ht := hb t (List.mem_of_mem_drop (hd ▸ List.mem_cons_self))
    have ho := ones_le ht.1 ht.2
    have hi1 := wsucc i (by omega)
    simp only [List.length_cons] at hk hb2
    simp only [gobitfield_Bitfield_OnesBefore.l0]
    rw [if_pos (by omega), if_pos (by omega), if_pos (by omega), h1, c8 ht]
    rw [Option.bind_some]
    rw [hi1, wrap64_id (by omega) (by omega), ih (i + 1) k _ h3 (by omega) (by omega) (by omega)]
    simp only [sumC]
    congr 1
    omega
theorem After_loop (L : List Int) (hb : ∀ x ∈ L, 0 ≤ x ∧ x ≤ 255) (hl : L.length ≤ 1000) : ∀ (ts : List Int) (i k : Nat) (acc : Int), L.drop i = ts → ts.length < k → 0 ≤ acc → acc ≤ 100000 - 8 * ts.length →
    gobitfield_Bitfield_OnesAfter.l0 k acc L (L.length : Int) (i : Int) = some (acc + sumC ts) := by
  intro ts
  induction ts with
  | nil =>
    intro i k acc hd hk ha hb2
    obtain ⟨k, rfl⟩ : ∃ m, k = m + 1 := ⟨k - 1, by omega⟩
    have hle : L.length ≤ i := List.drop_eq_nil_iff.1 hd
    simp only [gobitfield_Bitfield_OnesAfter.l0]
    rw [if_neg (by omega)]
    simp [sumC]
  | cons t ts ih =>
    intro i k acc hd hk ha hb2
    obtain ⟨k, rfl⟩ : ∃ m, k = m + 1 := ⟨k - 1, by omega⟩
    obtain ⟨h1, h2, h3⟩ := rd_drop hd
    have ht := hb t (List.mem_of_mem_drop (hd ▸ List.mem_cons_self))
    have ho := ones_le ht.1 ht.2
    have hi1 := wsucc i (by omega)
    simp only [List.length_cons] at hk hb2
    simp only [gobitfield_Bitfield_OnesAfter.l0]
    rw [if_pos (by omega), if_pos (by omega), if_pos (by omega), h1, c8 ht]
    rw [Option.bind_some]
    rw [hi1, wrap64_id (by omega) (by omega), ih (i + 1) k _ h3 (by omega) (by omega) (by omega)]
    simp only [sumC]
    congr 1
    omega

/-! what the bytes count is what the bits count -/
theorem bsum_cnt {N : Nat} {L : List Int} {was : List Bool} (h : Rel N L was) (q : Nat) (hq : q < N) (n : Nat) (hn : n ≤ 8) : bsum (rd L ((N - 1 - q : Nat) : Int)) n = cnt was (8 * q) n := by
  induction n with
  | zero => rfl
  | succ n ih =>
    simp only [bsum, cnt]
    rw [ih (by omega)]
    have := h.2.2.2 (8 * q + n) (by omega)
    rw [show (8 * q + n) / 8 = q from by omega, show (8 * q + n) % 8 = n from by omega] at this
    rw [this]
theorem ones_cnt {N : Nat} {L : List Int} {was : List Bool} (h : Rel N L was) (q : Nat) (hq : q < N) : (Lib.onesCount (rd L ((N - 1 - q : Nat) : Int)).toNat : Int) = cnt was (8 * q) 8 := by
  have hb := rd_byte h.2.2.1 ((N - 1 - q : Nat) : Int)
  rw [← bsum_cnt h q hq 8 (Nat.le_refl _)]
  exact lift_byte (p := fun x => (Lib.onesCount x.toNat : Int) = bsum x 8) (fun b => by simpa using ones_nat b) hb.1 hb.2
theorem sum_drop {N : Nat} {L : List Int} {was : List Bool} (h : Rel N L was) : ∀ (d a : Nat), a + d = N → sumC (L.drop a) = cnt was 0 (8 * d) := by
  intro d
  induction d with
  | zero =>
    intro a ha
    rw [List.drop_eq_nil_of_le (by have := h.1; omega)]; rfl
  | succ d ih =>
    intro a ha
    have hl := h.1
    rw [List.drop_eq_getElem_cons (by omega)]
    simp only [sumC]
    rw [ih (a + 1) (by omega), ← rd_nat L a (by omega), show ((a : Nat) : Int) = ((N - 1 - d : Nat) : Int) from by omega, ones_cnt h d (by omega), show 8 * (d + 1) = 8 * d + 8 from by omega, cnt_add, Nat.zero_add]
    omega
theorem sum_all {N : Nat} {L : List Int} {was : List Bool} (h : Rel N L was) : sumC L = cnt was 0 (8 * N) := by
  have := sum_drop h N 0 (by omega)
  simpa using this
theorem sum_take {N : Nat} {L : List Int} {was : List Bool} (h : Rel N L was) (a : Nat) (ha : a ≤ N) : sumC (L.take a) = cnt was 0 (8 * N) - cnt was 0 (8 * (N - a)) := by
  have h1 := sum_all h
  have h2 := sum_drop h (N - a) a (by omega)
  have h3 := sumC_append (L.take a) (L.drop a)
  rw [List.take_append_drop] at h3
  omega

theorem ones_f {N : Nat} {L : List Int} {was : List Bool} (h : Rel N L was) (hN : N ≤ 1000) (k : Nat) (hk : 1000 < k) : gobitfield_Bitfield_Ones.f k L = some (cnt was 0 (8 * N)) := by
  have hl := h.1
  have := Ones_loop L h.2.2.1 (by omega) L 0 k 0 rfl (by omega) (by omega) (by omega)
  unfold gobitfield_Bitfield_Ones.f
  rw [show ((0 : Nat) : Int) = 0 from rfl] at this
  rw [this, sum_all h, Int.zero_add]
theorem bit_f {N : Nat} {L : List Int} {was : List Bool} (h : Rel N L was) (hN : N ≤ 1000) (p : Nat) (hp : p < 8 * N) : gobitfield_Bitfield_Bit.f L (p : Int) = some (was.getD p false) := by
  have hl := h.1
  have hb := rd_byte h.2.2.1 ((N - 1 - p / 8 : Nat) : Int)
  have key := (lift_byte (p := fun x => 0 ≤ shr .u8 x ((p % 8 : Nat) : Int) ∧ shr .u8 x ((p % 8 : Nat) : Int) ≤ 255 ∧ (Lib.onesCount (shr .u8 x ((p % 8 : Nat) : Int)).toNat : Int) = bsum x 8 - bsum x (p % 8) ∧ (Go.bits .and .u8 (shr .u8 x ((p % 8 : Nat) : Int)) 1 != 0) = decide (tb x (p % 8) = 1)) (shr_nat ⟨p % 8, by omega⟩) hb.1 hb.2).2.2.2
  unfold gobitfield_Bitfield_Bit.f
  rw [offset_eq L p (by omega) (by omega)]
  rw [Option.bind_some]
  rw [if_pos (Int.natCast_nonneg _), if_pos (by omega), if_pos (Int.natCast_nonneg _), hl, key, h.2.2.2 p hp]
  cases was.getD p false <;> simp
theorem before_f {N : Nat} {L : List Int} {was : List Bool} (h : Rel N L was) (hN : N ≤ 1000) (p : Nat) (hp : p < 8 * N) (k : Nat) (hk : 1000 < k) : gobitfield_Bitfield_OnesBefore.f k L (p : Int) = some (cnt was 0 p) := by
  have hl := h.1
  have hb := rd_byte h.2.2.1 ((N - 1 - p / 8 : Nat) : Int)
  obtain ⟨k1, k2, k3⟩ := lift_byte (p := fun x => 0 ≤ shl .u8 x ((8 - ((p % 8 : Nat) : Int)) % 256) ∧ shl .u8 x ((8 - ((p % 8 : Nat) : Int)) % 256) ≤ 255 ∧ (Lib.onesCount (shl .u8 x ((8 - ((p % 8 : Nat) : Int)) % 256)).toNat : Int) = bsum x (p % 8)) (shl_nat ⟨p % 8, by omega⟩) hb.1 hb.2
  have hq : p / 8 < N := by omega
  have hsum := sum_drop h (p / 8) (N - p / 8) (by omega)
  have hbc := bsum_cnt h (p / 8) hq (p % 8) (by omega)
  have hcl := cnt_le was (8 * (p / 8)) (p % 8)
  have hu : IntKind.u64.wrap (((N - 1 - p / 8 : Nat) : Int) + 1) = ((N - p / 8 : Nat) : Int) := by rw [u64_id (by omega) (by omega)]; omega
  have hadd := cnt_add was 0 (8 * (p / 8)) (p % 8)
  rw [Nat.zero_add, show 8 * (p / 8) + p % 8 = p from by omega] at hadd
  have hlen : (L.drop (N - p / 8)).length ≤ 1000 := by simp; omega
  have hloop := Before_loop (L.drop (N - p / 8)) (fun x hx => h.2.2.1 x (List.mem_of_mem_drop hx)) hlen _ 0 k (bsum (rd L ((N - 1 - p / 8 : Nat) : Int)) (p % 8)) rfl (by simp; omega) (by omega) (by simp; omega)
  rw [show ((0 : Nat) : Int) = 0 from rfl] at hloop
  unfold gobitfield_Bitfield_OnesBefore.f
  rw [offset_eq L p (by omega) (by omega)]
  rw [Option.bind_some]
  rw [if_pos (Int.natCast_nonneg _), if_pos (by omega), if_pos (by omega), hl, c8 ⟨k1, k2⟩, k3]
  rw [Option.bind_some]
  rw [hu, if_pos (Int.natCast_nonneg _), if_pos (by omega), Int.toNat_natCast]
  rw [Option.bind_some, hloop, List.drop_zero, hsum, hbc]
  congr 1
  omega
theorem after_f {N : Nat} {L : List Int} {was : List Bool} (h : Rel N L was) (hN : N ≤ 1000) (p : Nat) (hp : p < 8 * N) (k : Nat) (hk : 1000 < k) : gobitfield_Bitfield_OnesAfter.f k L (p : Int) = some (cnt was 0 (8 * N) - cnt was 0 p) := by
  have hl := h.1
  have hb := rd_byte h.2.2.1 ((N - 1 - p / 8 : Nat) : Int)
  obtain ⟨k1, k2, k3, _⟩ := lift_byte (p := fun x => 0 ≤ shr .u8 x ((p % 8 : Nat) : Int) ∧ shr .u8 x ((p % 8 : Nat) : Int) ≤ 255 ∧ (Lib.onesCount (shr .u8 x ((p % 8 : Nat) : Int)).toNat : Int) = bsum x 8 - bsum x (p % 8) ∧ (Go.bits .and .u8 (shr .u8 x ((p % 8 : Nat) : Int)) 1 != 0) = decide (tb x (p % 8) = 1)) (shr_nat ⟨p % 8, by omega⟩) hb.1 hb.2
  have hq : p / 8 < N := by omega
  have hsum := sum_take h (N - 1 - p / 8) (by omega)
  have hbc := bsum_cnt h (p / 8) hq (p % 8) (by omega)
  have hbc8 := bsum_cnt h (p / 8) hq 8 (by omega)
  have hcl := cnt_le was (8 * (p / 8)) (p % 8)
  have hcl8 := cnt_le was (8 * (p / 8)) 8
  have hadd := cnt_add was 0 (8 * (p / 8)) (p % 8)
  rw [Nat.zero_add, show 8 * (p / 8) + p % 8 = p from by omega] at hadd
  have hadd8 := cnt_add was 0 (8 * (p / 8)) 8
  rw [Nat.zero_add, show 8 * (p / 8) + 8 = 8 * (N - (N - 1 - p / 8)) from by omega] at hadd8
  have hmono : bsum (rd L ((N - 1 - p / 8 : Nat) : Int)) (p % 8) ≤ bsum (rd L ((N - 1 - p / 8 : Nat) : Int)) 8 := by
    have h8 := cnt_add was (8 * (p / 8)) (p % 8) (8 - p % 8)
    have h9 := cnt_le was (8 * (p / 8) + p % 8) (8 - p % 8)
    rw [show p % 8 + (8 - p % 8) = 8 from by omega] at h8
    omega
  have hlen : (L.take (N - 1 - p / 8)).length ≤ 1000 := by simp; omega
  have hloop := After_loop (L.take (N - 1 - p / 8)) (fun x hx => h.2.2.1 x (List.mem_of_mem_take hx)) hlen _ 0 k (bsum (rd L ((N - 1 - p / 8 : Nat) : Int)) 8 - bsum (rd L ((N - 1 - p / 8 : Nat) : Int)) (p % 8)) rfl (by simp; omega) (by omega) (by simp; omega)
  rw [show ((0 : Nat) : Int) = 0 from rfl] at hloop
  unfold gobitfield_Bitfield_OnesAfter.f
  rw [offset_eq L p (by omega) (by omega)]
  rw [Option.bind_some]
  rw [if_pos (Int.natCast_nonneg _), if_pos (by omega), if_pos (Int.natCast_nonneg _), hl, c8 ⟨k1, k2⟩, k3]
  rw [Option.bind_some]
  rw [if_pos (by omega), Int.toNat_natCast]
  rw [Option.bind_some, hloop, List.drop_zero, hsum, hbc, hbc8]
  congr 1
  omega

/-! the functions over the bits -/
theorem foldl_len (ts : List Int) : ∀ (was : List Bool), (ts.foldl upd was).length = was.length := by
  induction ts with
  | nil => intro was; rfl
  | cons t ts ih => intro was; rw [List.foldl_cons, ih]; unfold upd; split <;> simp

theorem BitsSet_eq (N : Nat) (hN : N ≤ 1000) (xs : List Int) (hx : ∀ t ∈ xs, -(8 * (N : Int)) ≤ t ∧ t < 8 * (N : Int)) (hxl : xs.length ≤ 3000) (k : Nat) (hk : 10000 ≤ k) :
    ∃ L z, Rel N L (xs.foldl upd (List.replicate (8 * N) false)) ∧ z ≤ N ∧ (∀ j, j < z → rd L (j : Int) = 0) ∧ impl_BitsSet.f k (8 * (N : Int)) xs = some (L.drop z, true) := by
  obtain ⟨m, rfl⟩ : ∃ m, k = m + 2 * xs.length + 1 := ⟨k - 2 * xs.length - 1, by omega⟩
  obtain ⟨L, hr, e⟩ := set_loop N hN xs hx hxl xs 0 m _ _ rfl (Rel.zero N)
  have hl := hr.1
  obtain ⟨z, h1, h2, h3⟩ := bytes_loop L (by omega) L.length 0 m (by omega) (by omega) (fun j hj => by omega)
  refine ⟨L, z, hr, by omega, h2, ?_⟩
  have e0 : ((0 : Nat) : Int) = 0 := rfl
  rw [e0] at e h3
  unfold impl_BitsSet.f
  rw [new_eq N hN, Option.bind_some]
  rw [if_pos (show (none : Option Int).isNone = true by rfl), e]
  unfold gobitfield_Bitfield_Bytes.f
  rw [h3, Option.bind_some]
  unfold bytes_Clone.f
  rw [if_pos (by simp; omega), Option.bind_some]

theorem BitsOnes_eq (N : Nat) (hN : N ≤ 1000) (h0 : 0 < N) {L : List Int} {was : List Bool} (hr : Rel N L was) (z : Nat) (hz : z ≤ N) (hzz : ∀ j, j < z → rd L (j : Int) = 0) (p : Nat) (hp : p < 8 * N) (k : Nat) (hk : 2000 ≤ k) :
    impl_BitsOnes.f k (8 * (N : Int)) (L.drop z) (p : Int) = some (was.getD p false, cnt was 0 (8 * N), cnt was 0 p, cnt was 0 (8 * N) - cnt was 0 p, true) := by
  have hl := hr.1
  obtain ⟨m, rfl⟩ : ∃ m, k = m + 1 := ⟨k - 1, by omega⟩
  unfold impl_BitsOnes.f bytes_Clone.f
  rw [if_pos (by simp; omega), Option.bind_some, from_eq N hN h0 L hl z hz hzz, Option.bind_some]
  rw [if_pos (show (none : Option Int).isNone = true by rfl), if_neg (by omega), impl_BitsOnes.j0, if_neg (by simp; omega)]
  rw [bit_f hr hN p hp, Option.bind_some, ones_f hr hN m (by omega), Option.bind_some, before_f hr hN p hp m (by omega), Option.bind_some, after_f hr hN p hp m (by omega), Option.bind_some]

/-- Where a number leads in a field. -/
def plc (S : Int) (x : Int) : Int := if x ≥ 0 then x % S else -1 - (-1 - x) % S
theorem wr_neg (y : Int) (h0 : 0 ≤ y) (h1 : y ≤ 100000) : wrap64 (-1 - y) = -1 - y := wrap64_id (by omega) (by omega)
theorem places_loop (S : Int) (hS : 0 < S) (hS2 : S ≤ 10000) (xs : List Int) (hx : ∀ x ∈ xs, -32768 ≤ x ∧ x ≤ 32767) (hxl : xs.length ≤ 3000) : ∀ (ts : List Int) (i k : Nat) (out : List Int), xs.drop i = ts → ts.length < k → out.length = i →
    laws_shardPlaces.l0 k S out xs (xs.length : Int) (i : Int) = some (out ++ ts.map (plc S)) := by
  intro ts
  induction ts with
  | nil =>
    intro i k out hd hk ho
    obtain ⟨k, rfl⟩ : ∃ m, k = m + 1 := ⟨k - 1, by omega⟩
    have hle : xs.length ≤ i := List.drop_eq_nil_iff.1 hd
    rw [laws_shardPlaces.l0, if_neg (by omega)]
    simp
  | cons t ts ih =>
    intro i k out hd hk ho
    obtain ⟨k, rfl⟩ : ∃ m, k = m + 1 := ⟨k - 1, by omega⟩
    obtain ⟨h1, h2, h3⟩ := rd_drop hd
    have ht := hx t (List.mem_of_mem_drop (hd ▸ List.mem_cons_self))
    simp only [List.length_cons] at hk
    have e1 : (i : Int) < (xs.length : Int) := by omega
    have e2 : out.length < 17592186044416 := by omega
    have e3 : ¬ S = 0 := by omega
    have e4 : i < 9223372036854775807 := by omega
    have e5 : (out ++ [plc S t]).length = i + 1 := by simp; omega
    have hrec := ih (i + 1) k (out ++ [plc S t]) h3 (by omega) e5
    rw [List.append_assoc, List.singleton_append] at hrec
    rw [laws_shardPlaces.l0, if_pos e1, if_pos (Int.natCast_nonneg _), if_pos e1, h1, wsucc i e4, List.map_cons]
    by_cases hc : t ≥ 0
    · have q1 : Int.tmod (wrap64 t) S = plc S t := by
        rw [wrap64_id (by omega) (by omega), Int.tmod_eq_emod_of_nonneg hc, plc, if_pos hc]
      rw [if_pos hc, if_neg e3, if_pos e2, q1]
      exact hrec
    · have hm0 : 0 ≤ (-1 - t) % S := Int.emod_nonneg _ (by omega)
      have hm1 : (-1 - t) % S < S := Int.emod_lt_of_pos _ hS
      have q1 : wrap64 (-1 - Int.tmod (wrap64 (IntKind.i16.wrap (-1 - t))) S) = plc S t := by
        rw [i16_id (by omega) (by omega), wrap64_id (x := -1 - t) (by omega) (by omega), Int.tmod_eq_emod_of_nonneg (by omega), wr_neg _ hm0 (by omega), plc, if_neg hc]
      rw [if_neg hc, if_neg e3, if_pos e2, q1]
      exact hrec
theorem plc_in (S : Int) (hS : 0 < S) (x : Int) : -S ≤ plc S x ∧ plc S x < S := by
  unfold plc
  split
  · have := Int.emod_nonneg x (show S ≠ 0 by omega); have := Int.emod_lt_of_pos x hS; omega
  · have := Int.emod_nonneg (-1 - x) (show S ≠ 0 by omega); have := Int.emod_lt_of_pos (-1 - x) hS; omega

theorem setting (k : Nat) (hk : 60 ≤ k) : laws_shardSetting.f k = some true := at_rounds laws_shardSetting.mono hk (by decide +kernel)

/-- The law's own bits. -/
theorem was_loop (N : Nat) (x1 : List Int) (x7 x8 : Int) (xs : List Int) (hx : ∀ t ∈ xs, -(8 * (N : Int)) ≤ t ∧ t < 8 * (N : Int)) (hN : N ≤ 1000) (hxl : xs.length ≤ 3000) : ∀ (ts : List Int) (i k : Nat) (was : List Bool), xs.drop i = ts → was.length = 8 * N →
    laws_FnBitsOnes.l0 (k + ts.length + 1) x1 x7 x8 was xs (xs.length : Int) (i : Int) = laws_FnBitsOnes.l1 k x1 x7 x8 (ts.foldl upd was) 0 0 (ts.foldl upd was) ((ts.foldl upd was).length : Int) 0 := by
  intro ts
  induction ts with
  | nil =>
    intro i k was hd hw
    have hle : xs.length ≤ i := List.drop_eq_nil_iff.1 hd
    rw [List.length_nil, Nat.add_zero, laws_FnBitsOnes.l0, if_neg (by omega), List.foldl_nil]
  | cons t ts ih =>
    intro i k was hd hw
    obtain ⟨h1, h2, h3⟩ := rd_drop hd
    have ht := hx t (List.mem_of_mem_drop (hd ▸ List.mem_cons_self))
    have e0 : k + (t :: ts).length + 1 = (k + ts.length + 1) + 1 := by simp only [List.length_cons]; omega
    have e1 : (i : Int) < (xs.length : Int) := by omega
    have e4 : i < 9223372036854775807 := by omega
    rw [e0, laws_FnBitsOnes.l0, if_pos e1, if_pos (Int.natCast_nonneg _), if_pos e1, h1, List.foldl_cons]
    by_cases hc : 0 ≤ t
    · have e5 : t < (was.length : Int) := by omega
      rw [if_pos hc, if_pos hc, if_pos e5, wsucc i e4, ih (i + 1) k _ h3 (by simpa using hw), upd, if_pos hc]
    · have e5 : -10000000 ≤ t := by omega
      have e6 : t < 0 := by omega
      have e7 : ((-1 - t).toNat : Int) < (was.length : Int) := by omega
      rw [if_neg hc, wm1 t e5 e6, if_pos (Int.natCast_nonneg _), if_pos e7, wsucc i e4, Int.toNat_natCast, ih (i + 1) k _ h3 (by simpa using hw), upd, if_neg hc]

theorem wadd1 (x : Int) (h0 : 0 ≤ x) (h1 : x ≤ 1000000) : wrap64 (x + 1) = x + 1 := wrap64_id (by omega) (by omega)
theorem count_loop (x1 : List Int) (x7 : Int) (pl : Nat) (was : List Bool) (hl : was.length ≤ 8000) : ∀ (d i k : Nat), i + d = was.length →
    laws_FnBitsOnes.l1 (k + d + 1) x1 x7 (pl : Int) was (cnt was 0 i) (cnt was 0 (min i pl)) was (was.length : Int) (i : Int) = laws_FnBitsOnes.l1 (k + 1) x1 x7 (pl : Int) was (cnt was 0 was.length) (cnt was 0 (min was.length pl)) was (was.length : Int) (was.length : Int) := by
  intro d
  induction d with
  | zero =>
    intro i k hi
    obtain rfl : i = was.length := by omega
    rw [Nat.add_zero]
  | succ d ih =>
    intro i k hi
    have e0 : k + (d + 1) + 1 = (k + d + 1) + 1 := by omega
    have e1 : (i : Int) < (was.length : Int) := by omega
    have e4 : i < 9223372036854775807 := by omega
    have hrec := ih (i + 1) k (by omega)
    have hc0 := cnt_le was 0 i
    have hc1 := cnt_le was 0 (min i pl)
    have hm : min i pl ≤ i := Nat.min_le_left _ _
    have eg : rdOf false was (i : Int) = was.getD i false := by unfold rdOf; rw [Int.toNat_natCast]
    have es : cnt was 0 (i + 1) = cnt was 0 i + if was.getD i false = true then 1 else 0 := by rw [cnt, Nat.zero_add]
    rw [e0, laws_FnBitsOnes.l1, if_pos e1, if_pos (Int.natCast_nonneg _), if_pos e1, eg, wsucc i e4]
    by_cases hb : was.getD i false = true
    · rw [if_pos hb] at es ⊢
      by_cases hp : (i : Int) < (pl : Int)
      · have em : min (i + 1) pl = i + 1 := by omega
        have em' : min i pl = i := by omega
        rw [em, es] at hrec
        rw [if_pos hp, em', wadd1 _ hc0.1 (by omega)]
        exact hrec
      · have em : min (i + 1) pl = min i pl := by omega
        rw [em, es] at hrec
        rw [if_neg hp, wadd1 _ hc0.1 (by omega)]
        exact hrec
    · rw [if_neg hb] at es ⊢
      rw [Int.add_zero] at es
      have em : cnt was 0 (min (i + 1) pl) = cnt was 0 (min i pl) := by
        by_cases hp : i < pl
        · rw [show min (i + 1) pl = i + 1 from by omega, show min i pl = i from by omega, es]
        · rw [show min (i + 1) pl = min i pl from by omega]
      rw [em, es] at hrec
      exact hrec

theorem wf_u8 {x : Int} (h : (Lit.int .u8 x).wf = true) : 0 ≤ x ∧ x ≤ 255 := by
  have h1 : IntKind.u8.min = 0 := rfl
  have h2 : IntKind.u8.max = 255 := rfl
  simp [Lit.wf, h1, h2] at h
  omega
theorem wf_u16 {x : Int} (h : (Lit.int .u16 x).wf = true) : 0 ≤ x ∧ x ≤ 65535 := by
  have h1 : IntKind.u16.min = 0 := rfl
  have h2 : IntKind.u16.max = 65535 := rfl
  simp [Lit.wf, h1, h2] at h
  omega
theorem wf_i16 {x : Int} (h : (Lit.int .i16 x).wf = true) : -32768 ≤ x ∧ x ≤ 32767 := by
  have h1 : IntKind.i16.min = -32768 := rfl
  have h2 : IntKind.i16.max = 32767 := rfl
  simp [Lit.wf, h1, h2] at h
  omega
theorem size_eq (n : Nat) (h : n ≤ 255) : wrap64 (8 * wrap64 (1 + wrap64 (n : Int))) = 8 * ((n + 1 : Nat) : Int) := by
  rw [wrap64_id (x := (n : Int)) (by omega) (by omega), wrap64_id (x := 1 + (n : Int)) (by omega) (by omega), wrap64_id (by omega) (by omega)]
  omega

theorem FnBitsOnes : laws_FnBitsOnes.Pure := by
  intro a0 l1 a2 w0 _ _ w1 w2
  have hw0 := wf_u8 w0
  have hw2 := wf_u16 w2
  have hx : ∀ x ∈ l1, -32768 ≤ x ∧ x ≤ 32767 := fun x hx => wf_i16 (w1 x hx)
  unfold laws_FnBitsOnes.f
  by_cases c1 : (l1.length : Int) > 2147483647
  · exact ⟨0, by rw [if_pos c1]⟩
  by_cases c2 : (l1.length : Int) > 3000
  · exact ⟨60, by rw [if_neg c1, if_pos c2, setting 60 (Nat.le_refl _), Option.bind_some]⟩
  obtain ⟨n, rfl⟩ : ∃ n : Nat, a0 = (n : Int) := ⟨a0.toNat, by omega⟩
  obtain ⟨N, hNdef⟩ : ∃ N, N = n + 1 := ⟨_, rfl⟩
  have hN : N ≤ 256 := by omega
  have hN1 : 0 < N := by omega
  have hS : wrap64 (8 * wrap64 (1 + wrap64 (n : Int))) = 8 * (N : Int) := by rw [size_eq n (by omega), hNdef]
  have ha2 : wrap64 a2 = a2 := wrap64_id (by omega) (by omega)
  obtain ⟨pl, hpl⟩ : ∃ pl : Nat, (pl : Int) = a2 % (8 * (N : Int)) := ⟨(a2 % (8 * (N : Int))).toNat, Int.toNat_of_nonneg (Int.emod_nonneg _ (by omega))⟩
  have hpl2 : pl < 8 * N := by have := Int.emod_lt_of_pos a2 (show 0 < 8 * (N : Int) by omega); omega
  have hmod : Int.tmod a2 (8 * (N : Int)) = (pl : Int) := by rw [Int.tmod_eq_emod_of_nonneg hw2.1, hpl]
  have hl3 : l1.length ≤ 3000 := by omega
  have hplc : ∀ t ∈ l1.map (plc (8 * (N : Int))), -(8 * (N : Int)) ≤ t ∧ t < 8 * (N : Int) := by
    intro t ht
    obtain ⟨x, _, rfl⟩ := List.mem_map.1 ht
    exact plc_in _ (by omega) x
  obtain ⟨xs, hxs⟩ : ∃ xs, xs = l1.map (plc (8 * (N : Int))) := ⟨_, rfl⟩
  rw [← hxs] at hplc
  have hxl : xs.length = l1.length := by rw [hxs, List.length_map]
  have hplaces : ∀ k, 3000 < k → laws_shardPlaces.f k (8 * (N : Int)) l1 = some xs := by
    intro k hk
    have := places_loop (8 * (N : Int)) (by omega) (by omega) l1 hx hl3 l1 0 k [] rfl (by omega) rfl
    have e0 : ((0 : Nat) : Int) = 0 := rfl
    rw [e0, List.nil_append, ← hxs] at this
    exact this
  obtain ⟨was, hwas⟩ : ∃ was, was = xs.foldl upd (List.replicate (8 * N) false) := ⟨_, rfl⟩
  have hwl : was.length = 8 * N := by rw [hwas, foldl_len, List.length_replicate]
  have n1 : ¬ 8 * (N : Int) = 0 := by omega
  have n2 : (0 : Int) ≤ 8 * (N : Int) := by omega
  have n3 : (8 * (N : Int)).toNat = 8 * N := by omega
  have n4 : 8 * N ≤ 281474976710656 := by omega
  refine ⟨(20000 + was.length + 1) + xs.length + 1, ?_⟩
  rw [if_neg c1, if_neg c2, hS, ha2, hmod, if_neg n1, if_pos n2, n3, if_pos n4, hplaces _ (by omega), Option.bind_some]
  have h1 := was_loop N l1 (8 * (N : Int)) (pl : Int) xs hplc (by omega) (by omega) xs 0 (20000 + was.length + 1) (List.replicate (8 * N) false) rfl (by simp)
  have e0 : ((0 : Nat) : Int) = 0 := rfl
  rw [e0, ← hwas] at h1
  rw [h1]
  have h2 := count_loop l1 (8 * (N : Int)) pl was (by omega) was.length 0 20000 (by omega)
  rw [Nat.zero_min, e0, show cnt was 0 0 = 0 from rfl] at h2
  rw [h2, show min was.length pl = pl from by omega, hwl]
  obtain ⟨L, z, hr, hz, hzz, hset⟩ := BitsSet_eq N (by omega) xs hplc (by omega) 20000 (by omega)
  rw [← hwas] at hr
  have hones := BitsOnes_eq N (by omega) hN1 hr z hz hzz pl hpl2 20000 (by omega)
  have n5 : ¬ ((8 * N : Nat) : Int) < ((8 * N : Nat) : Int) := by omega
  have n6 : (pl : Int) < (was.length : Int) := by omega
  have hcl := cnt_le was 0 (8 * N)
  have hcp := cnt_le was 0 pl
  have hw : wrap64 (cnt was 0 (8 * N) - cnt was 0 pl) = cnt was 0 (8 * N) - cnt was 0 pl := wrap64_id (by omega) (by omega)
  have eg : rdOf false was (pl : Int) = was.getD pl false := by unfold rdOf; rw [Int.toNat_natCast]
  rw [laws_FnBitsOnes.l1, if_neg n5, hplaces _ (by omega), Option.bind_some, hset, Option.bind_some, hones, Option.bind_some, if_pos rfl, if_pos rfl, if_pos (Int.natCast_nonneg _), if_pos n6, eg, if_pos (by simp), if_pos rfl, if_pos rfl, hw, if_pos rfl, setting 20000 (by omega), Option.bind_some]

end Go.Proofs.Ytbmeegkgcipmoaa.Pure
