/- FnBitsSet: the bytes of a field behind sets and unsets are those of the reference. -/
import Derived.Test.YtbmeegkgcipmoaaDoorPFnBitsSetx8
namespace Go.Proofs.YtbmeegkgcipmoaaDoor.Pure
open Go.RowKit Go.Proofs.YtbmeegkgcipmoaaDoor.PFnBitsSet Go.Proofs.YtbmeegkgcipmoaaDoorW.PrintWords Go.Proofs.YtbmeegkgcipmoaaDoorW.PrintLast Go.Proofs.YtbmeegkgcipmoaaDoorW.PrintMore

theorem wrap64_id {x : Int} (h0 : -9223372036854775808 ≤ x) (h1 : x ≤ 9223372036854775807) : wrap64 x = x := by unfold wrap64; omega
theorem wsucc (j : Nat) (h : j < 9223372036854775807) : wrap64 ((j : Int) + 1) = ((j + 1 : Nat) : Int) := by rw [wrap64_id (by omega) (by omega)]; omega
theorem wneg8 (N : Nat) (h : N ≤ 1000) : wrap64 (-(8 * (N : Int))) = -(8 * (N : Int)) := wrap64_id (by omega) (by omega)
theorem wm1 (t : Int) (h : -10000000 ≤ t) (h' : t < 0) : wrap64 (-1 - t) = ((-1 - t).toNat : Int) := by rw [wrap64_id (by omega) (by omega)]; omega
theorem u64_id {x : Int} (h0 : 0 ≤ x) (h1 : x < 18446744073709551616) : IntKind.u64.wrap x = x := by
  have e : IntKind.u64.wrap x = x % 18446744073709551616 := by rfl
  rw [e, Int.emod_eq_of_lt h0 h1]
theorem i16_id {x : Int} (h0 : -32768 ≤ x) (h1 : x ≤ 32767) : IntKind.i16.wrap x = x := by
  have e : IntKind.i16.wrap x = if x % 65536 ≥ 32768 then x % 65536 - 65536 else x % 65536 := by simp [IntKind.wrap, IntKind.bits, IntKind.signed]
  rw [e]; split <;> omega


theorem shl_byte : ∀ (b : Fin 8) (x : Fin 256), 0 ≤ Go.bits .or .u8 (x.val : Int) (shl .u8 1 (b.val : Int)) ∧ Go.bits .or .u8 (x.val : Int) (shl .u8 1 (b.val : Int)) ≤ 255 := by decide +kernel
theorem andn_byte : ∀ (b : Fin 8) (x : Fin 256), Go.bits .andNot .u8 (x.val : Int) (shl .u8 1 (b.val : Int)) = Go.bits .and .u8 (x.val : Int) (Go.bits .xor .u8 255 (shl .u8 1 (b.val : Int))) ∧ 0 ≤ Go.bits .and .u8 (x.val : Int) (Go.bits .xor .u8 255 (shl .u8 1 (b.val : Int))) ∧ Go.bits .and .u8 (x.val : Int) (Go.bits .xor .u8 255 (shl .u8 1 (b.val : Int))) ≤ 255 := by decide +kernel
theorem lift_byte {p : Int → Prop} (h : ∀ b : Fin 256, p (b.val : Int)) {x : Int} (h0 : 0 ≤ x) (h1 : x ≤ 255) : p x := by
  have := h ⟨x.toNat, by omega⟩
  simpa [Int.toNat_of_nonneg h0] using this

theorem rd_nat (l : List Int) (i : Nat) (h : i < l.length) : rd l (i : Int) = l[i] := by
  unfold rd; rw [Int.toNat_natCast, List.getD_eq_getElem?_getD, List.getElem?_eq_getElem h]; rfl
theorem rd_byte {l : List Int} (hl : ∀ x ∈ l, 0 ≤ x ∧ x ≤ 255) (i : Int) : 0 ≤ rd l i ∧ rd l i ≤ 255 := by
  unfold rd
  rw [List.getD_eq_getElem?_getD]
  rcases h : l[i.toNat]? with _ | x
  · simp
  · exact hl x (List.mem_of_getElem? h)
theorem offset_eq (L : List Int) (p : Nat) (h : p < 8 * L.length) (hl : L.length ≤ 1000) :
    gobitfield_Bitfield_offset.f L (p : Int) = some (((L.length - 1 - p / 8 : Nat) : Int), ((p % 8 : Nat) : Int)) := by
  unfold gobitfield_Bitfield_offset.f
  rw [u64_id (x := (p : Int)) (by omega) (by omega), Int.tdiv_eq_ediv_of_nonneg (by omega), u64_id (x := (p : Int) / 8) (by omega) (by omega), u64_id (x := (L.length : Int)) (by omega) (by omega), u64_id (x := (L.length : Int) - (p : Int) / 8) (by omega) (by omega), u64_id (by omega) (by omega)]
  congr 2 <;> omega

theorem rd_drop {xs : List Int} {i : Nat} {t : Int} {ts : List Int} (h : xs.drop i = t :: ts) : rd xs (i : Int) = t ∧ i < xs.length ∧ xs.drop (i + 1) = ts := by
  have hlt : i < xs.length := by
    rcases Nat.lt_or_ge i xs.length with h1 | h1
    · exact h1
    · rw [List.drop_eq_nil_of_le h1] at h; exact absurd h (by simp)
  have h2 := List.drop_eq_getElem_cons hlt
  rw [h2] at h
  injection h with h3 h4
  exact ⟨(rd_nat xs i hlt).trans h3, hlt, h4⟩

theorem new_eq (N : Nat) (hN : N ≤ 1000) : gobitfield_NewBitfield.f (8 * (N : Int)) = some (List.replicate N 0, none) := by
  unfold gobitfield_NewBitfield.f
  have h1 : Int.tmod (8 * (N : Int)) 8 = 0 := by rw [Int.tmod_eq_emod_of_nonneg (by omega)]; omega
  have h2 : wrap64 (Int.tdiv (8 * (N : Int)) 8) = (N : Int) := by rw [Int.tdiv_eq_ediv_of_nonneg (by omega), wrap64_id (by omega) (by omega)]; omega
  rw [if_neg (by omega), if_pos h1, h2, if_pos (by omega), Int.toNat_natCast, if_pos (by omega)]


/-- One set (t from 0 on) or unset (-1 - t). -/
def setp (N : Nat) (L : List Int) (p : Nat) : List Int := L.set (N - 1 - p / 8) (Go.bits .or .u8 (rd L ((N - 1 - p / 8 : Nat) : Int)) (shl .u8 1 ((p % 8 : Nat) : Int)))
def unsetp (N : Nat) (L : List Int) (p : Nat) : List Int := L.set (N - 1 - p / 8) (Go.bits .and .u8 (rd L ((N - 1 - p / 8 : Nat) : Int)) (Go.bits .xor .u8 255 (shl .u8 1 ((p % 8 : Nat) : Int))))
def stp (N : Nat) (L : List Int) (t : Int) : List Int := if 0 ≤ t then setp N L t.toNat else unsetp N L (-1 - t).toNat
def By (N : Nat) (L : List Int) : Prop := L.length = N ∧ ∀ x ∈ L, 0 ≤ x ∧ x ≤ 255
theorem By.set {N : Nat} {L : List Int} (h : By N L) (i : Nat) (x : Int) (h0 : 0 ≤ x ∧ x ≤ 255) : By N (L.set i x) :=
  ⟨by simpa using h.1, fun y hy => by rcases List.mem_or_eq_of_mem_set hy with hy | rfl; (· exact h.2 y hy); (· exact h0)⟩
theorem orb {N : Nat} {L : List Int} (h : By N L) (i p : Nat) : 0 ≤ Go.bits .or .u8 (rd L (i : Int)) (shl .u8 1 ((p % 8 : Nat) : Int)) ∧ Go.bits .or .u8 (rd L (i : Int)) (shl .u8 1 ((p % 8 : Nat) : Int)) ≤ 255 :=
  lift_byte (p := fun x => 0 ≤ Go.bits .or .u8 x (shl .u8 1 ((p % 8 : Nat) : Int)) ∧ Go.bits .or .u8 x (shl .u8 1 ((p % 8 : Nat) : Int)) ≤ 255) (shl_byte ⟨p % 8, by omega⟩) (rd_byte h.2 _).1 (rd_byte h.2 _).2
theorem andb {N : Nat} {L : List Int} (h : By N L) (i p : Nat) : Go.bits .andNot .u8 (rd L (i : Int)) (shl .u8 1 ((p % 8 : Nat) : Int)) = Go.bits .and .u8 (rd L (i : Int)) (Go.bits .xor .u8 255 (shl .u8 1 ((p % 8 : Nat) : Int))) ∧ 0 ≤ Go.bits .and .u8 (rd L (i : Int)) (Go.bits .xor .u8 255 (shl .u8 1 ((p % 8 : Nat) : Int))) ∧ Go.bits .and .u8 (rd L (i : Int)) (Go.bits .xor .u8 255 (shl .u8 1 ((p % 8 : Nat) : Int))) ≤ 255 :=
  lift_byte (p := fun x => Go.bits .andNot .u8 x (shl .u8 1 ((p % 8 : Nat) : Int)) = Go.bits .and .u8 x (Go.bits .xor .u8 255 (shl .u8 1 ((p % 8 : Nat) : Int))) ∧ 0 ≤ Go.bits .and .u8 x (Go.bits .xor .u8 255 (shl .u8 1 ((p % 8 : Nat) : Int))) ∧ Go.bits .and .u8 x (Go.bits .xor .u8 255 (shl .u8 1 ((p % 8 : Nat) : Int))) ≤ 255) (andn_byte ⟨p % 8, by omega⟩) (rd_byte h.2 _).1 (rd_byte h.2 _).2
theorem By.stp {N : Nat} {L : List Int} (h : By N L) (t : Int) : By N (stp N L t) := by
  unfold Pure.stp
  split
  · exact h.set _ _ (orb h _ _)
  · exact h.set _ _ (andb h _ _).2
theorem SetBit_eq {N : Nat} {L : List Int} (h : By N L) (hN : N ≤ 1000) (p : Nat) (hp : p < 8 * N) : gobitfield_Bitfield_SetBit.f L (p : Int) = some (setp N L p) := by
  have hl := h.1
  unfold gobitfield_Bitfield_SetBit.f
  rw [offset_eq L p (by omega) (by omega), Option.bind_some, if_pos (Int.natCast_nonneg _), if_pos (by omega), if_pos (Int.natCast_nonneg _), hl, Int.toNat_natCast]
  rfl
theorem UnsetBit_eq {N : Nat} {L : List Int} (h : By N L) (hN : N ≤ 1000) (p : Nat) (hp : p < 8 * N) : gobitfield_Bitfield_UnsetBit.f L (p : Int) = some (unsetp N L p) := by
  have hl := h.1
  unfold gobitfield_Bitfield_UnsetBit.f
  rw [offset_eq L p (by omega) (by omega), Option.bind_some, if_pos (Int.natCast_nonneg _), if_pos (by omega), if_pos (Int.natCast_nonneg _), hl, Int.toNat_natCast]
  rfl
theorem set_loop (N : Nat) (hN : N ≤ 1000) (xs : List Int) (hx : ∀ t ∈ xs, -(8 * (N : Int)) ≤ t ∧ t < 8 * (N : Int)) (hxl : xs.length ≤ 3000) :
    ∀ (ts : List Int) (i k : Nat) (L : List Int), xs.drop i = ts → By N L →
    impl_BitsSet.l0 (k + 2 * ts.length + 1) (8 * (N : Int)) L xs (xs.length : Int) (i : Int) = (gobitfield_Bitfield_Bytes.f k (ts.foldl (stp N) L)).bind fun t123 => ((bytes_Clone.f t123).bind fun t126 => (some (t126, true))) := by
  intro ts
  induction ts with
  | nil =>
    intro i k L hd hr
    have hle : xs.length ≤ i := List.drop_eq_nil_iff.1 hd
    simp only [List.length_nil, Nat.mul_zero, Nat.add_zero, impl_BitsSet.l0]
    rw [if_neg (by omega), List.foldl_nil]
  | cons t ts ih =>
    intro i k L hd hr
    obtain ⟨h1, h2, h3⟩ := rd_drop hd
    have ht := hx t (List.mem_of_mem_drop (hd ▸ List.mem_cons_self))
    have e0 : k + 2 * (t :: ts).length + 1 = (k + 2 * ts.length + 1) + 1 + 1 := by simp; omega
    have e1 : (i : Int) < (xs.length : Int) := by omega
    have e2 : ¬ t ≥ 8 * (N : Int) := by omega
    have e3 : ¬ (decide (t < -(8 * (N : Int))) = true) := by simp; omega
    have e4 : i < 9223372036854775807 := by omega
    have hrec := ih (i + 1) k (stp N L t) h3 (hr.stp t)
    rw [e0, impl_BitsSet.l0, if_pos e1, if_pos (Int.natCast_nonneg _), if_pos e1, h1, if_neg e2, wneg8 N hN, impl_BitsSet.j1, if_neg e3, List.foldl_cons]
    by_cases hc : 0 ≤ t
    · obtain ⟨p, rfl⟩ : ∃ p : Nat, t = (p : Int) := ⟨t.toNat, by omega⟩
      rw [Pure.stp, if_pos hc, Int.toNat_natCast] at hrec ⊢
      rw [if_pos hc, SetBit_eq hr hN p (by omega), Option.bind_some, wsucc i e4, hrec]
    · have e5 : -10000000 ≤ t := by omega
      have e6 : t < 0 := by omega
      have e7 : (-1 - t).toNat < 8 * N := by omega
      rw [Pure.stp, if_neg hc] at hrec ⊢
      rw [if_neg hc, wm1 t e5 e6, UnsetBit_eq hr hN _ e7, Option.bind_some, wsucc i e4, hrec]
theorem ix (N p : Nat) (h : p < 8 * N) (hN : N ≤ 1000) : wrap64 (wrap64 ((N : Int) - 1) - wrap64 (Int.tdiv (p : Int) 8)) = ((N - 1 - p / 8 : Nat) : Int) := by
  rw [Int.tdiv_eq_ediv_of_nonneg (by omega), wrap64_id (x := (p : Int) / 8) (by omega) (by omega), wrap64_id (x := (N : Int) - 1) (by omega) (by omega), wrap64_id (by omega) (by omega)]
  omega
theorem md (p : Nat) : Int.tmod (p : Int) 8 = ((p % 8 : Nat) : Int) := by
  rw [Int.tmod_eq_emod_of_nonneg (by omega)]; omega
theorem spec_loop (N : Nat) (hN : N ≤ 1000) (xs : List Int) (hx : ∀ t ∈ xs, -(8 * (N : Int)) ≤ t ∧ t < 8 * (N : Int)) (hxl : xs.length ≤ 3000) :
    ∀ (ts : List Int) (i k : Nat) (L : List Int), xs.drop i = ts → By N L →
    spec_BitsSet.l0 (k + ts.length + 1) L xs (xs.length : Int) (i : Int) = (bytes_TrimLeft.f k (ts.foldl (stp N) L) (⟨#[0]⟩ : ByteArray)).bind fun t169 => (some t169) := by
  intro ts
  induction ts with
  | nil =>
    intro i k L hd hr
    have hle : xs.length ≤ i := List.drop_eq_nil_iff.1 hd
    rw [List.length_nil, Nat.add_zero, spec_BitsSet.l0, if_neg (by omega), List.foldl_nil]
  | cons t ts ih =>
    intro i k L hd hr
    obtain ⟨h1, h2, h3⟩ := rd_drop hd
    have ht := hx t (List.mem_of_mem_drop (hd ▸ List.mem_cons_self))
    have e0 : k + (t :: ts).length + 1 = (k + ts.length + 1) + 1 := by simp only [List.length_cons]; omega
    have e1 : (i : Int) < (xs.length : Int) := by omega
    have e4 : i < 9223372036854775807 := by omega
    have hl := hr.1
    have hrec := ih (i + 1) k (stp N L t) h3 (hr.stp t)
    rw [e0, spec_BitsSet.l0, if_pos e1, if_pos (Int.natCast_nonneg _), if_pos e1, h1, List.foldl_cons]
    by_cases hc : 0 ≤ t
    · obtain ⟨p, rfl⟩ : ∃ p : Nat, t = (p : Int) := ⟨t.toNat, by omega⟩
      have hp : p < 8 * N := by omega
      have e5 : ((N - 1 - p / 8 : Nat) : Int) < (N : Int) := by omega
      rw [Pure.stp, if_pos hc, Int.toNat_natCast] at hrec ⊢
      rw [if_pos hc, hl, ix N p hp hN, md p, if_pos (Int.natCast_nonneg _), if_pos e5, if_pos (Int.natCast_nonneg _), Int.toNat_natCast, wsucc i e4]
      exact hrec
    · have e5 : -10000000 ≤ t := by omega
      have e6 : t < 0 := by omega
      obtain ⟨p, hp⟩ : ∃ p : Nat, p = (-1 - t).toNat := ⟨_, rfl⟩
      have e7 : p < 8 * N := by omega
      have e8 : ((N - 1 - p / 8 : Nat) : Int) < (N : Int) := by omega
      rw [Pure.stp, if_neg hc, ← hp] at hrec ⊢
      rw [if_neg hc, wm1 t e5 e6, ← hp, hl, ix N p e7 hN, md p, if_pos (Int.natCast_nonneg _), if_pos e8, if_pos (Int.natCast_nonneg _), Int.toNat_natCast, wsucc i e4, (andb hr _ p).1]
      exact hrec

/-- Without the zeros ahead. -/
def strip : List Int → List Int
  | [] => []
  | x :: t => if x = 0 then strip t else x :: t
theorem strip_len : ∀ l, (strip l).length ≤ l.length
  | [] => by simp [strip]
  | x :: t => by
    have := strip_len t
    unfold strip
    split
    · simp; omega
    · simp
theorem bytes_loop (L : List Int) (hl : L.length ≤ 1000) : ∀ (ts : List Int) (i k : Nat), L.drop i = ts → ts.length < k → gobitfield_Bitfield_Bytes.l0 k L L (L.length : Int) (i : Int) = some (strip ts) := by
  intro ts
  induction ts with
  | nil =>
    intro i k hd hk
    obtain ⟨k, rfl⟩ : ∃ m, k = m + 1 := ⟨k - 1, by omega⟩
    have hle : L.length ≤ i := List.drop_eq_nil_iff.1 hd
    rw [gobitfield_Bitfield_Bytes.l0, if_neg (by omega)]; rfl
  | cons t ts ih =>
    intro i k hd hk
    obtain ⟨k, rfl⟩ : ∃ m, k = m + 1 := ⟨k - 1, by omega⟩
    simp only [List.length_cons] at hk
    obtain ⟨h1, h2, h3⟩ := rd_drop hd
    have e1 : (i : Int) < (L.length : Int) := by omega
    have e2 : (i : Int) ≤ (L.length : Int) := by omega
    rw [gobitfield_Bitfield_Bytes.l0, if_pos e1, if_pos (Int.natCast_nonneg _), if_pos e1, h1, strip]
    by_cases hc : t = 0
    · rw [if_pos hc, if_pos hc, wsucc i (by omega), ih (i + 1) k h3 (by omega)]
    · rw [if_neg hc, if_neg hc, if_pos e2, Int.toNat_natCast, hd]
theorem trim_loop : ∀ (l : List Int) (k : Nat), l.length < k → bytes_trimLeftByte.l0 k l 0 = some (strip l) := by
  intro l
  induction l with
  | nil =>
    intro k hk
    obtain ⟨k, rfl⟩ : ∃ m, k = m + 1 := ⟨k - 1, by omega⟩
    rw [bytes_trimLeftByte.l0, if_neg (by simp), if_pos (by simp)]; rfl
  | cons x t ih =>
    intro k hk
    obtain ⟨k, rfl⟩ : ∃ m, k = m + 1 := ⟨k - 1, by omega⟩
    simp only [List.length_cons] at hk
    have e1 : (((x :: t).length : Nat) : Int) > 0 := by simp only [List.length_cons]; omega
    have e2 : (1 : Int) ≤ (((x :: t).length : Nat) : Int) := by omega
    have e3 : rd (x :: t) 0 = x := rfl
    have e4 : (x :: t).drop 1 = t := rfl
    rw [bytes_trimLeftByte.l0, if_pos e1, if_pos e1, e3, strip]
    by_cases hc : x = 0
    · rw [if_pos hc, if_pos hc, if_pos e2, e4, ih k (by omega)]
    · rw [if_neg hc, if_neg hc, if_neg (by omega)]
theorem Trim_eq (l : List Int) (h0 : 0 < l.length) (k : Nat) (hk : l.length + 1 < k) : bytes_TrimLeft.f k l (⟨#[0]⟩ : ByteArray) = some (strip l) := by
  obtain ⟨k, rfl⟩ : ∃ m, k = m + 1 := ⟨k - 1, by omega⟩
  have e1 : ¬ (⟨#[0]⟩ : ByteArray).toList = ([] : List UInt8) := by rw [Go.ByteArray.toList_eq]; simp
  have e2 : ((⟨#[0]⟩ : ByteArray).size : Int) = 1 := rfl
  have e3 : bt (⟨#[0]⟩ : ByteArray) 0 = 0 := rfl
  rw [bytes_TrimLeft.f, if_neg (by omega), if_neg e1, e2, if_pos rfl, if_pos (by omega), e3, bytes_TrimLeft.j0, if_pos (by decide), e2, if_pos (by omega), e3, bytes_trimLeftByte.f, trim_loop l k (by omega), Option.bind_some]
def plc (S : Int) (x : Int) : Int := if x ≥ 0 then x % S else -1 - (-1 - x) % S
theorem wr_neg (y : Int) (h0 : 0 ≤ y) (h1 : y ≤ 100000) : wrap64 (-1 - y) = -1 - y := wrap64_id (by omega) (by omega)
theorem places_loop (S : Int) (hS : 0 < S) (hS2 : S ≤ 10000) (xs : List Int) (hx : ∀ x ∈ xs, -32768 ≤ x ∧ x ≤ 32767) (hxl : xs.length ≤ 3000) : ∀ (ts : List Int) (i k : Nat) (out : List Int), xs.drop i = ts → ts.length < k → out.length = i →
    laws_shardPlaces.l0 k S out xs (xs.length : Int) (i : Int) = some (out ++ ts.map (plc S)) := by
  intro ts
  induction ts with
  | nil =>
    intro i k out hd hk ho
    obtain ⟨k, rfl⟩ : ∃ m, k = m + 1 := ⟨k - 1, by omega⟩
    have hle : xs.length ≤ i := List.drop_eq_nil_iff.1 hd
    rw [laws_shardPlaces.l0, if_neg (by omega)]
    simp
  | cons t ts ih =>
    intro i k out hd hk ho
    obtain ⟨k, rfl⟩ : ∃ m, k = m + 1 := ⟨k - 1, by omega⟩
    obtain ⟨h1, h2, h3⟩ := rd_drop hd
    have ht := hx t (List.mem_of_mem_drop (hd ▸ List.mem_cons_self))
    simp only [List.length_cons] at hk
    have e1 : (i : Int) < (xs.length : Int) := by omega
    have e2 : out.length < 17592186044416 := by omega
    have e3 : ¬ S = 0 := by omega
    have e4 : i < 9223372036854775807 := by omega
    have e5 : (out ++ [plc S t]).length = i + 1 := by simp; omega
    have hrec := ih (i + 1) k (out ++ [plc S t]) h3 (by omega) e5
    rw [List.append_assoc, List.singleton_append] at hrec
    rw [laws_shardPlaces.l0, if_pos e1, if_pos (Int.natCast_nonneg _), if_pos e1, h1, wsucc i e4, List.map_cons]
    by_cases hc : t ≥ 0
    · have q1 : Int.tmod (wrap64 t) S = plc S t := by
        rw [wrap64_id (by omega) (by omega), Int.tmod_eq_emod_of_nonneg hc, plc, if_pos hc]
      rw [if_pos hc, if_neg e3, if_pos e2, q1]
      exact hrec
    · have hm0 : 0 ≤ (-1 - t) % S := Int.emod_nonneg _ (by omega)
      have hm1 : (-1 - t) % S < S := Int.emod_lt_of_pos _ hS
      have q1 : wrap64 (-1 - Int.tmod (wrap64 (IntKind.i16.wrap (-1 - t))) S) = plc S t := by
        rw [i16_id (by omega) (by omega), wrap64_id (x := -1 - t) (by omega) (by omega), Int.tmod_eq_emod_of_nonneg (by omega), wr_neg _ hm0 (by omega), plc, if_neg hc]
      rw [if_neg hc, if_neg e3, if_pos e2, q1]
      exact hrec
theorem plc_in (S : Int) (hS : 0 < S) (x : Int) : -S ≤ plc S x ∧ plc S x < S := by
  unfold plc
  split
  · have := Int.emod_nonneg x (show S ≠ 0 by omega); have := Int.emod_lt_of_pos x hS; omega
  · have := Int.emod_nonneg (-1 - x) (show S ≠ 0 by omega); have := Int.emod_lt_of_pos (-1 - x) hS; omega

theorem setting (k : Nat) (hk : 60 ≤ k) : laws_shardSetting.f k = some true := at_rounds laws_shardSetting.mono hk (by decide +kernel)

theorem wf_u8 {x : Int} (h : (Lit.int .u8 x).wf = true) : 0 ≤ x ∧ x ≤ 255 := by
  have h1 : IntKind.u8.min = 0 := rfl
  have h2 : IntKind.u8.max = 255 := rfl
  simp [Lit.wf, h1, h2] at h
  omega
theorem wf_i16 {x : Int} (h : (Lit.int .i16 x).wf = true) : -32768 ≤ x ∧ x ≤ 32767 := by
  have h1 : IntKind.i16.min = -32768 := rfl
  have h2 : IntKind.i16.max = 32767 := rfl
  simp [Lit.wf, h1, h2] at h
  omega
theorem size_eq (n : Nat) (h : n ≤ 255) : wrap64 (8 * wrap64 (1 + wrap64 (n : Int))) = 8 * ((n + 1 : Nat) : Int) := by
  rw [wrap64_id (x := (n : Int)) (by omega) (by omega), wrap64_id (x := 1 + (n : Int)) (by omega) (by omega), wrap64_id (by omega) (by omega)]
  omega

theorem FnBitsSet : laws_FnBitsSet.Pure := by
  intro a0 l1 w0 _ _ w1
  have hw0 := wf_u8 w0
  have hx : ∀ x ∈ l1, -32768 ≤ x ∧ x ≤ 32767 := fun x hx => wf_i16 (w1 x hx)
  unfold laws_FnBitsSet.f
  by_cases c1 : (l1.length : Int) > 2147483647
  · exact ⟨0, by rw [if_pos c1]⟩
  by_cases c2 : (l1.length : Int) > 3000
  · exact ⟨60, by rw [if_neg c1, if_pos c2, setting 60 (Nat.le_refl _), Option.bind_some]⟩
  obtain ⟨n, rfl⟩ : ∃ n : Nat, a0 = (n : Int) := ⟨a0.toNat, by omega⟩
  obtain ⟨N, hNdef⟩ : ∃ N, N = n + 1 := ⟨_, rfl⟩
  have hN : N ≤ 256 := by omega
  have hN1 : 0 < N := by omega
  have hS : wrap64 (8 * wrap64 (1 + wrap64 (n : Int))) = 8 * (N : Int) := by rw [size_eq n (by omega), hNdef]
  have hl3 : l1.length ≤ 3000 := by omega
  have hplc : ∀ t ∈ l1.map (plc (8 * (N : Int))), -(8 * (N : Int)) ≤ t ∧ t < 8 * (N : Int) := by
    intro t ht
    obtain ⟨x, _, rfl⟩ := List.mem_map.1 ht
    exact plc_in _ (by omega) x
  obtain ⟨xs, hxs⟩ : ∃ xs, xs = l1.map (plc (8 * (N : Int))) := ⟨_, rfl⟩
  rw [← hxs] at hplc
  have hxl : xs.length = l1.length := by rw [hxs, List.length_map]
  have hplaces : ∀ k, 3000 < k → laws_shardPlaces.f k (8 * (N : Int)) l1 = some xs := by
    intro k hk
    have := places_loop (8 * (N : Int)) (by omega) (by omega) l1 hx hl3 l1 0 k [] rfl (by omega) rfl
    have e0 : ((0 : Nat) : Int) = 0 := rfl
    rw [e0, List.nil_append, ← hxs] at this
    exact this
  have hz : By N (List.replicate N 0) := ⟨by simp, fun x hx => by obtain rfl := (List.mem_replicate.1 hx).2; omega⟩
  have hfold : ∀ (ts : List Int) (L : List Int), By N L → By N (ts.foldl (stp N) L) := by
    intro ts
    induction ts with
    | nil => intro L h; exact h
    | cons t ts ih => intro L h; exact ih _ (h.stp t)
  have hL := hfold xs _ hz
  obtain ⟨R, hR⟩ : ∃ R, R = xs.foldl (stp N) (List.replicate N 0) := ⟨_, rfl⟩
  rw [← hR] at hL
  have e0 : ((0 : Nat) : Int) = 0 := rfl
  have hst := strip_len R
  have hset : ∀ k, 2000 < k → impl_BitsSet.f (k + 2 * xs.length + 1) (8 * (N : Int)) xs = some (strip R, true) := by
    intro k hk
    have h := set_loop N (by omega) xs hplc (by omega) xs 0 k (List.replicate N 0) rfl hz
    rw [e0, ← hR, gobitfield_Bitfield_Bytes.f, ← e0, bytes_loop R (by rw [hL.1]; omega) R 0 k rfl (by rw [hL.1]; omega), e0, Option.bind_some, bytes_Clone.f, if_pos (by have := hL.1; omega), Option.bind_some] at h
    rw [impl_BitsSet.f, new_eq N (by omega), Option.bind_some, if_pos (show (List.replicate N (0 : Int), (none : Option Int)).2.isNone = true from rfl)]
    exact h
  have hspec : ∀ k, 2000 < k → spec_BitsSet.f (k + xs.length + 1) (8 * (N : Int)) xs = some (strip R) := by
    intro k hk
    have h := spec_loop N (by omega) xs hplc (by omega) xs 0 k (List.replicate N 0) rfl hz
    rw [e0, ← hR, Trim_eq R (by rw [hL.1]; omega) k (by rw [hL.1]; omega), Option.bind_some] at h
    have h2 : wrap64 (Int.tdiv (8 * (N : Int)) 8) = (N : Int) := by rw [Int.tdiv_eq_ediv_of_nonneg (by omega), wrap64_id (by omega) (by omega)]; omega
    rw [spec_BitsSet.f, h2, if_pos (Int.natCast_nonneg _), Int.toNat_natCast, if_pos (by omega)]
    exact h
  refine ⟨20000, ?_⟩
  have k1 : (20000 : Nat) = (20000 - 2 * xs.length - 1) + 2 * xs.length + 1 := by omega
  have k2 : (20000 : Nat) = (20000 - xs.length - 1) + xs.length + 1 := by omega
  have q1 := hset (20000 - 2 * xs.length - 1) (by omega)
  rw [← k1] at q1
  have q2 := hspec (20000 - xs.length - 1) (by omega)
  rw [← k2] at q2
  rw [if_neg c1, if_neg c2, hS, hplaces _ (by omega), Option.bind_some, q1, Option.bind_some, if_pos (show (strip R, true).2 = true from rfl), Option.bind_some, q2, Option.bind_some, bytes_Equal.f, Option.bind_some, if_pos (by simp), setting _ (by omega), Option.bind_some]

end Go.Proofs.YtbmeegkgcipmoaaDoor.Pure
