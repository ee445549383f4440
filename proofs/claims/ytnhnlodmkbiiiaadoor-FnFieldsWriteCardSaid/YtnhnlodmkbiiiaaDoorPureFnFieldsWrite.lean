/- FnFieldsWrite: the message of a node of a file with data and sizes of parts is that of the reference: the plain law, over lists of numbers. -/
import Derived.Test.YtnhnlodmkbiiiaaDoorPFnFieldsWritex7
namespace Go.Proofs.YtnhnlodmkbiiiaaDoor.Pure
open Go.RowKit Go.Proofs.YtnhnlodmkbiiiaaDoor.PFnFieldsWrite Go.Proofs.YtnhnlodmkbiiiaaDoorW.PrintWords Go.Proofs.YtnhnlodmkbiiiaaDoorW.PrintLast
open Go.Proofs.YtnhnlodmkbiiiaaDoor.HandFields (Fit marsh parse parse_marsh fsDat fsbF newSz newSz_val newSz_lt sumSz uv uvF uv_len blkF blkF_cons fsDat_true fsDat_false)

theorem wf_u8 {x : Int} (h : (Lit.int .u8 x).wf = true) : 0 ≤ x ∧ x ≤ 255 := by
  have h1 : IntKind.u8.min = 0 := rfl
  have h2 : IntKind.u8.max = 255 := rfl
  simp [Lit.wf, h1, h2] at h
  omega
theorem wf_u64 {x : Int} (h : (Lit.int .u64 x).wf = true) : 0 ≤ x ∧ x < 18446744073709551616 := by
  have h1 : IntKind.u64.min = 0 := rfl
  have h2 : IntKind.u64.max = 18446744073709551615 := rfl
  simp [Lit.wf, h1, h2] at h
  omega
theorem wsucc (j : Nat) (h : j < 9223372036854775807) : wrap64 ((j : Int) + 1) = ((j + 1 : Nat) : Int) := by unfold wrap64; omega
theorem u64_id {x : Int} (h0 : 0 ≤ x) (h1 : x < 18446744073709551616) : IntKind.u64.wrap x = x := by
  have e : IntKind.u64.wrap x = x % 18446744073709551616 := by rfl
  rw [e, Int.emod_eq_of_lt h0 h1]
theorem wmod (y : Int) : ∃ q : Int, wrap64 y = y + 18446744073709551616 * q := ⟨(wrap64 y - y) / 18446744073709551616, by unfold wrap64; omega⟩
theorem newSz_eq (m : Nat) (x : Int) : (newSz (some m) (wrap64 x) : Int) = IntKind.u64.wrap ((m : Int) + x) := by
  rw [← newSz_val]
  show IntKind.u64.wrap (wrap64 (wrap64 (m : Int) + wrap64 x)) = _
  obtain ⟨q1, h1⟩ := wmod (m : Int)
  obtain ⟨q2, h2⟩ := wmod x
  obtain ⟨q3, h3⟩ := wmod (wrap64 (m : Int) + wrap64 x)
  rw [h3, h1, h2]
  have e : ∀ z : Int, IntKind.u64.wrap z = z % 18446744073709551616 := fun z => rfl
  rw [e, e]
  have : (m : Int) + 18446744073709551616 * q1 + (x + 18446744073709551616 * q2) + 18446744073709551616 * q3 = ((m : Int) + x) + 18446744073709551616 * (q1 + q2 + q3) := by omega
  rw [this, Int.add_mul_emod_self_left]
theorem rd_at {l : List Int} {j : Nat} (hj : j < l.length) : rd l (j : Int) = l[j] := by
  unfold rd; rw [Int.toNat_natCast, List.getD_eq_getElem?_getD, List.getElem?_eq_getElem hj]; rfl
theorem drop_at {l : List Int} {j : Nat} (hj : j < l.length) : l.drop j = rd l (j : Int) :: l.drop (j + 1) := by
  rw [rd_at hj]; exact List.drop_eq_getElem_cons hj
theorem or128 : ∀ b : Fin 256, Go.bits .or .u8 (b.val : Int) 128 = ((b.val % 128 + 128 : Nat) : Int) := by decide +kernel
theorem or128_eq (v : Nat) : Go.bits .or .u8 ((v : Int) % 256) 128 = ((v % 128 + 128 : Nat) : Int) := by
  have h := or128 ⟨v % 256, by omega⟩
  have e : ((v % 256 : Nat) : Int) = (v : Int) % 256 := by omega
  have e2 : v % 256 % 128 = v % 128 := by omega
  simp only [e2] at h
  rw [← e]
  exact h
theorem uvar_l0 : ∀ (n k v : Nat) (out : List Int), v < 128 ^ (n + 1) → n < k → out.length + n < 140737488355328 → spec_Uvarint.l0 k (v : Int) out = some (out ++ uvF n v)
  | n, 0, v, out, _, hk, _ => absurd hk (by omega)
  | n, k + 1, v, out, hv, hk, hl => by
    unfold spec_Uvarint.l0
    by_cases h : v < 128
    · have e : uvF n v = [(v : Int)] := by
        cases n with
        | zero => rfl
        | succ n => unfold uvF; rw [if_pos h]
      rw [if_neg (by omega), if_pos (by omega), e, Int.emod_eq_of_lt (by omega) (by omega)]
    · cases n with
      | zero => simp at hv; omega
      | succ n =>
        have e : uvF (n + 1) v = ((v % 128 + 128 : Nat) : Int) :: uvF n (v / 128) := by
          conv => { lhs; unfold uvF }
          rw [if_neg h]
        rw [if_pos (by omega), if_pos (by omega), or128_eq, show (v : Int) / 128 = ((v / 128 : Nat) : Int) by omega, uvar_l0 n k (v / 128) _ (by rw [Nat.div_lt_iff_lt_mul (by decide), ← Nat.pow_succ]; exact hv) (by omega) (by rw [List.length_append, List.length_singleton]; omega), e, List.append_assoc, List.singleton_append]
theorem uvar_eq (k v : Nat) (hk : 10 < k) (hv : v < 2 ^ 64) : spec_Uvarint.f k (v : Int) = some (uv v) := by
  unfold spec_Uvarint.f
  rw [uvar_l0 10 k v [] (Nat.lt_of_lt_of_le hv (by decide)) hk (by simp), List.nil_append]
  rfl
theorem pbNum_eq (k a v : Nat) (hk : 10 < k) (ha : a < 32) (hv : v < 2 ^ 64) : spec_pbNumber.f k (a : Int) (v : Int) = some (((8 * a : Nat) : Int) :: uv v) := by
  unfold spec_pbNumber.f
  have h1 := uv_len v hv
  rw [Option.bind_some, uvar_eq k v hk hv, Option.bind_some, if_pos (by rw [List.length_singleton]; omega)]
  have e : ((a : Int) * 8) % 256 = ((8 * a : Nat) : Int) := by omega
  rw [e]
  rfl
theorem pbFld_eq (k : Nat) (l : List Int) (hk : 10 < k) (hl : l.length ≤ 1000000) : spec_pbField.f k 2 l = some (18 :: (uv l.length ++ l)) := by
  unfold spec_pbField.f
  have h1 := uv_len l.length (by omega)
  have e : Go.bits .or .u8 (((2 : Int) * 8) % 256) 2 = 18 := by decide +kernel
  rw [Option.bind_some, u64_id (by omega) (by omega), uvar_eq k l.length hk (by omega), Option.bind_some, if_pos (by rw [List.length_singleton]; omega), Option.bind_some, if_pos (by rw [List.length_append, List.length_singleton]; omega), e]
  rfl
theorem ff_l1 (l : List Int) (hl : l.length ≤ 1000) (hb : ∀ x ∈ l, 0 ≤ x ∧ x < 18446744073709551616) : ∀ (n j k : Nat) (out : List Int), j + n = l.length → n + 20 < k → out.length + 11 * n < 140737488355000 → spec_FileFields.l1 k out l (l.length : Int) (j : Int) = some (out ++ blkF (l.drop j))
  | 0, j, k, out, hj, hk, ho => by
    obtain ⟨k, rfl⟩ : ∃ m, k = m + 1 := ⟨k - 1, by omega⟩
    unfold spec_FileFields.l1
    rw [if_neg (by omega), List.drop_of_length_le (by omega)]
    show some out = some (out ++ [])
    rw [List.append_nil]
  | n + 1, j, k, out, hj, hk, ho => by
    obtain ⟨k, rfl⟩ : ∃ m, k = m + 1 := ⟨k - 1, by omega⟩
    have hjl : j < l.length := by omega
    have hx := hb (rd l (j : Int)) (by rw [rd_at hjl]; exact List.getElem_mem hjl)
    obtain ⟨v, hv⟩ : ∃ v : Nat, rd l (j : Int) = (v : Int) := ⟨(rd l (j : Int)).toNat, by omega⟩
    have hv64 : v < 2 ^ 64 := by omega
    have h1 := uv_len v hv64
    unfold spec_FileFields.l1
    rw [if_pos (by omega), if_pos (by omega), if_pos (by omega), hv, show (4 : Int) = ((4 : Nat) : Int) from rfl, pbNum_eq k 4 v (by omega) (by decide) hv64, Option.bind_some, if_pos (by rw [List.length_cons]; omega), wsucc j (by omega), ff_l1 l hl hb n (j + 1) k _ (by omega) (by omega) (by rw [List.length_append, List.length_cons]; omega), drop_at hjl, hv, blkF_cons, Int.toNat_natCast, List.append_assoc]
    rfl
theorem ff_l0 (l : List Int) (hl : l.length ≤ 1000) (hb : ∀ x ∈ l, 0 ≤ x ∧ x < 18446744073709551616) : ∀ (n j k m : Nat) (out : List Int), j + n = l.length → n + 1100 < k → m < 2 ^ 64 → out.length ≤ 1000100 → spec_FileFields.l0 k l out (m : Int) l (l.length : Int) (j : Int) = some (out ++ (24 :: (uv (sumSz m (l.drop j)) ++ blkF l)))
  | 0, j, k, m, out, hj, hk, hm, ho => by
    obtain ⟨k, rfl⟩ : ∃ m, k = m + 1 := ⟨k - 1, by omega⟩
    have h1 := uv_len m hm
    have e : sumSz m [] = m := by unfold sumSz; rw [List.foldl_nil]
    unfold spec_FileFields.l0
    rw [if_neg (by omega), List.drop_of_length_le (by omega), e, show (3 : Int) = ((3 : Nat) : Int) from rfl, pbNum_eq k 3 m (by omega) (by decide) hm, Option.bind_some, if_pos (by rw [List.length_cons]; omega), show (0 : Int) = ((0 : Nat) : Int) from rfl, ff_l1 l hl hb l.length 0 k _ (by omega) (by omega) (by rw [List.length_append, List.length_cons]; omega), List.drop_zero, List.append_assoc]
    rfl
  | n + 1, j, k, m, out, hj, hk, hm, ho => by
    obtain ⟨k, rfl⟩ : ∃ m, k = m + 1 := ⟨k - 1, by omega⟩
    have hjl : j < l.length := by omega
    have e : ∀ x r, sumSz m (x :: r) = sumSz (newSz (some m) (wrap64 x)) r := fun x r => by unfold sumSz; rw [List.foldl_cons]
    unfold spec_FileFields.l0
    rw [if_pos (by omega), if_pos (by omega), if_pos (by omega), wsucc j (by omega), ← newSz_eq, ff_l0 l hl hb n (j + 1) k _ out (by omega) (by omega) (newSz_lt _ _) ho, drop_at hjl, e]
theorem ff_j0 (l : List Int) (hl : l.length ≤ 1000) (hb : ∀ x ∈ l, 0 ≤ x ∧ x < 18446744073709551616) (k m : Nat) (out : List Int) (hk : l.length + 1200 < k) (hm : m < 2 ^ 64) (ho : out.length ≤ 1000100) : spec_FileFields.j0 k l out (m : Int) = some (out ++ (24 :: (uv (sumSz m l) ++ blkF l))) := by
  obtain ⟨k, rfl⟩ : ∃ m, k = m + 1 := ⟨k - 1, by omega⟩
  rw [spec_FileFields.j0, show (0 : Int) = ((0 : Nat) : Int) from rfl, ff_l0 l hl hb l.length 0 k m out (by omega) (by omega) hm ho, List.drop_zero]
theorem newSz_len (n : Nat) (h : n ≤ 1000000) : newSz (some 0) (n : Int) = n := by
  have e : wrap64 (n : Int) = (n : Int) := by unfold wrap64; omega
  have := newSz_eq 0 (n : Int)
  rw [e, u64_id (by omega) (by omega)] at this
  omega
theorem ff_eq (k a : Nat) (has : Bool) (xs l : List Int) (hk : l.length + 1300 < k) (ha : a < 1000) (hl : l.length ≤ 1000) (hx : xs.length ≤ 1000000) (hb : ∀ x ∈ l, 0 ≤ x ∧ x < 18446744073709551616) : spec_FileFields.f k (a : Int) has (if has = true then xs else []) l = some (marsh (fsDat a has xs l)) := by
  unfold spec_FileFields.f
  have h1 := uv_len a (by omega)
  rw [u64_id (by omega) (by omega), show (1 : Int) = ((1 : Nat) : Int) from rfl, pbNum_eq k 1 a (by omega) (by decide) (by omega), Option.bind_some]
  cases has
  · rw [if_neg (by decide), if_neg (by decide), List.length_nil, u64_id (by decide) (by decide), show ((0 : Nat) : Int) = ((0 : Nat) : Int) from rfl, ff_j0 l hl hb k 0 _ (by omega) (by decide) (by rw [List.length_cons]; omega), fsDat_false]
    rfl
  · have h2 := uv_len xs.length (by omega)
    rw [if_pos rfl, if_pos rfl, pbFld_eq k xs (by omega) hx, Option.bind_some, if_pos (by simp only [List.length_cons, List.length_append]; omega), u64_id (by omega) (by omega), ff_j0 l hl hb k xs.length _ (by omega) (by omega) (by simp only [List.length_cons, List.length_append]; omega), fsDat_true, newSz_len _ hx, List.append_assoc]
    rfl
theorem few_l0 (l2 l3 : List Int) (h3 : l3.length ≤ 4611686018427387904) : ∀ (n j k : Nat), j + n = l3.length → n < k → ∃ b, laws_fewSizes.l0 k l2 l3 l3 (l3.length : Int) (j : Int) = some b ∧ (b = true → (∀ i, j ≤ i → i < l3.length → rd l3 (i : Int) < 1125899906842624) ∧ l2.length ≤ 2000 ∧ l3.length ≤ 200)
  | 0, j, k, hj, hk => by
    obtain ⟨k, rfl⟩ : ∃ m, k = m + 1 := ⟨k - 1, by omega⟩
    unfold laws_fewSizes.l0
    rw [if_neg (by omega)]
    by_cases h2 : (l2.length : Int) ≤ 2000
    · rw [if_pos h2]
      refine ⟨_, rfl, fun h => ⟨fun i h1 h2 => by omega, by omega, ?_⟩⟩
      have := of_decide_eq_true h
      omega
    · rw [if_neg h2]
      exact ⟨false, rfl, fun h => by cases h⟩
  | n + 1, j, k, hj, hk => by
    obtain ⟨k, rfl⟩ : ∃ m, k = m + 1 := ⟨k - 1, by omega⟩
    unfold laws_fewSizes.l0
    rw [if_pos (by omega), if_pos (by omega), if_pos (by omega)]
    by_cases h : rd l3 (j : Int) ≥ 1125899906842624
    · rw [if_pos h]
      exact ⟨false, rfl, fun h => by cases h⟩
    · rw [if_neg h, wsucc j (by omega)]
      obtain ⟨b, h1, h2⟩ := few_l0 l2 l3 h3 n (j + 1) k (by omega) (by omega)
      refine ⟨b, h1, fun hb => ?_⟩
      obtain ⟨h4, h5⟩ := h2 hb
      refine ⟨fun i hi hil => ?_, h5⟩
      by_cases e : i = j
      · subst e; omega
      · exact h4 i (by omega) hil
theorem few_eq (l2 l3 : List Int) (k : Nat) (h3 : l3.length ≤ 4611686018427387904) (hk : l3.length < k) : ∃ b, laws_fewSizes.f k l2 l3 = some b ∧ (b = true → (∀ x ∈ l3, x < 1125899906842624) ∧ l2.length ≤ 2000 ∧ l3.length ≤ 200) := by
  unfold laws_fewSizes.f
  obtain ⟨b, h1, h2⟩ := few_l0 l2 l3 h3 l3.length 0 k (by omega) hk
  refine ⟨b, h1, fun hb => ?_⟩
  obtain ⟨h4, h5⟩ := h2 hb
  refine ⟨fun x hx => ?_, h5⟩
  obtain ⟨i, hi, rfl⟩ := List.getElem_of_mem hx
  rw [← rd_at hi]
  exact h4 i (by omega) hi
theorem same_refl (l : List Int) : spec_SameBytes.f l l = some true := by unfold spec_SameBytes.f; rw [beq_self_eq_true]
theorem awake : laws_folderAwake.f = some true := rfl
theorem FnFieldsWrite : laws_FnFieldsWrite.Pure := by
  intro a0 a1 l2 l3 w0 hm2 hb2 hw2 hm3 hb3 hw3
  refine ⟨l3.length + 1399 + 1, ?_⟩
  have ha := wf_u8 w0
  have hb : ∀ x ∈ l3, 0 ≤ x ∧ x < 18446744073709551616 := fun x hx => wf_u64 (hw3 x hx)
  have hj : ∀ x, x = true → laws_FnFieldsWrite.j0 (l3.length + 1399 + 1) a0 a1 l2 l3 x = some true := fun x hx => by
    subst hx
    rw [laws_FnFieldsWrite.j0, if_pos rfl]
  unfold laws_FnFieldsWrite.f
  by_cases h1 : (l2.length : Int) > 2147483647
  · rw [if_pos h1]; exact hj _ rfl
  rw [if_neg h1]
  by_cases h2 : (l3.length : Int) > 2147483647
  · exact hj _ (decide_eq_true h2)
  rw [decide_eq_false h2]
  rw [laws_FnFieldsWrite.j0, if_neg (by decide)]
  obtain ⟨b, e1, e2⟩ := few_eq l2 l3 (l3.length + 1399) (by omega) (by omega)
  rw [e1, Option.bind_some]
  by_cases hbt : b = true
  · subst hbt
    obtain ⟨h3, h4, h5⟩ := e2 rfl
    obtain ⟨a, haa⟩ : ∃ a : Nat, wrap64 (Int.tmod a0 6) = (a : Int) ∧ a < 6 := by
      refine ⟨(a0 % 6).toNat, ?_, by omega⟩
      rw [Int.tmod_eq_emod_of_nonneg ha.1]
      unfold wrap64; omega
    rw [if_pos rfl, Option.bind_some, if_pos (by simp; omega), List.nil_append, haa.1]
    have e3 : impl_FSBytes.f (a : Int) a1 l2 l3 = some (marsh (fsDat a a1 l2 l3), true) := by
      unfold impl_FSBytes.f
      rw [if_pos ⟨by omega, by omega, by omega, by omega, List.all_eq_true.2 (fun x hx => by have := hb x hx; simp; omega)⟩, Int.toNat_natCast]
      rfl
    have e4 := fun has => ff_eq (l3.length + 1399) a has l2 l3 (by omega) (by omega) (by omega) (by omega) hb
    rw [e3, Option.bind_some]
    cases a1
    · have e5 := e4 false
      rw [if_neg (by decide)] at e5
      rw [if_neg (by decide), if_pos rfl, e5, Option.bind_some, same_refl, Option.bind_some, if_pos rfl, awake]
      rfl
    · have e5 := e4 true
      rw [if_pos rfl] at e5
      rw [if_pos rfl, if_pos rfl, e5, Option.bind_some, same_refl, Option.bind_some, if_pos rfl, awake]
      rfl
  · rw [if_neg hbt, awake]
    rfl
end Go.Proofs.YtnhnlodmkbiiiaaDoor.Pure
