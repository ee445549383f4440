/- FnFieldsBack: what is written of a node of a file is read back: the plain law, over lists of numbers. -/
import Derived.Test.YtnhnlodmkbiiiaaDoorPFnFieldsBackx7
namespace Go.Proofs.YtnhnlodmkbiiiaaDoor.Pure
open Go.RowKit Go.Proofs.YtnhnlodmkbiiiaaDoor.PFnFieldsBack Go.Proofs.YtnhnlodmkbiiiaaDoorW.PrintWords Go.Proofs.YtnhnlodmkbiiiaaDoorW.PrintLast
open Go.Proofs.YtnhnlodmkbiiiaaDoor.HandFields (Dat Fit marsh parse parse_marsh fsDat fsDat_fit fsbF newSz newSz_val newSz_lt sumSz fsDat_true fsDat_false fsz)

theorem wf_u8 {x : Int} (h : (Lit.int .u8 x).wf = true) : 0 ≤ x ∧ x ≤ 255 := by
  have h1 : IntKind.u8.min = 0 := rfl
  have h2 : IntKind.u8.max = 255 := rfl
  simp [Lit.wf, h1, h2] at h
  omega
theorem wf_u64 {x : Int} (h : (Lit.int .u64 x).wf = true) : 0 ≤ x ∧ x < 18446744073709551616 := by
  have h1 : IntKind.u64.min = 0 := rfl
  have h2 : IntKind.u64.max = 18446744073709551615 := rfl
  simp [Lit.wf, h1, h2] at h
  omega
theorem wsucc (j : Nat) (h : j < 9223372036854775807) : wrap64 ((j : Int) + 1) = ((j + 1 : Nat) : Int) := by unfold wrap64; omega
theorem u64_id {x : Int} (h0 : 0 ≤ x) (h1 : x < 18446744073709551616) : IntKind.u64.wrap x = x := by
  have e : IntKind.u64.wrap x = x % 18446744073709551616 := by rfl
  rw [e, Int.emod_eq_of_lt h0 h1]
theorem wmod (y : Int) : ∃ q : Int, wrap64 y = y + 18446744073709551616 * q := ⟨(wrap64 y - y) / 18446744073709551616, by unfold wrap64; omega⟩
theorem newSz_eq (m : Nat) (x : Int) : (newSz (some m) (wrap64 x) : Int) = IntKind.u64.wrap ((m : Int) + x) := by
  rw [← newSz_val]
  show IntKind.u64.wrap (wrap64 (wrap64 (m : Int) + wrap64 x)) = _
  obtain ⟨q1, h1⟩ := wmod (m : Int)
  obtain ⟨q2, h2⟩ := wmod x
  obtain ⟨q3, h3⟩ := wmod (wrap64 (m : Int) + wrap64 x)
  rw [h3, h1, h2]
  have e : ∀ z : Int, IntKind.u64.wrap z = z % 18446744073709551616 := fun z => rfl
  rw [e, e]
  have : (m : Int) + 18446744073709551616 * q1 + (x + 18446744073709551616 * q2) + 18446744073709551616 * q3 = ((m : Int) + x) + 18446744073709551616 * (q1 + q2 + q3) := by omega
  rw [this, Int.add_mul_emod_self_left]
theorem rd_at {l : List Int} {j : Nat} (hj : j < l.length) : rd l (j : Int) = l[j] := by
  unfold rd; rw [Int.toNat_natCast, List.getD_eq_getElem?_getD, List.getElem?_eq_getElem hj]; rfl
theorem drop_at {l : List Int} {j : Nat} (hj : j < l.length) : l.drop j = rd l (j : Int) :: l.drop (j + 1) := by
  rw [rd_at hj]; exact List.drop_eq_getElem_cons hj
theorem newSz_len (n : Nat) (h : n ≤ 1000000) : newSz (some 0) (n : Int) = n := by
  have e : wrap64 (n : Int) = (n : Int) := by unfold wrap64; omega
  have := newSz_eq 0 (n : Int)
  rw [e, u64_id (by omega) (by omega)] at this
  omega
theorem few_l0 (l2 l3 : List Int) (h3 : l3.length ≤ 4611686018427387904) : ∀ (n j k : Nat), j + n = l3.length → n < k → ∃ b, laws_fewSizes.l0 k l2 l3 l3 (l3.length : Int) (j : Int) = some b ∧ (b = true → (∀ i, j ≤ i → i < l3.length → rd l3 (i : Int) < 1125899906842624) ∧ l2.length ≤ 2000 ∧ l3.length ≤ 200)
  | 0, j, k, hj, hk => by
    obtain ⟨k, rfl⟩ : ∃ m, k = m + 1 := ⟨k - 1, by omega⟩
    unfold laws_fewSizes.l0
    rw [if_neg (by omega)]
    by_cases h2 : (l2.length : Int) ≤ 2000
    · rw [if_pos h2]
      refine ⟨_, rfl, fun h => ⟨fun i h1 h2 => by omega, by omega, ?_⟩⟩
      have := of_decide_eq_true h
      omega
    · rw [if_neg h2]
      exact ⟨false, rfl, fun h => by cases h⟩
  | n + 1, j, k, hj, hk => by
    obtain ⟨k, rfl⟩ : ∃ m, k = m + 1 := ⟨k - 1, by omega⟩
    unfold laws_fewSizes.l0
    rw [if_pos (by omega), if_pos (by omega), if_pos (by omega)]
    by_cases h : rd l3 (j : Int) ≥ 1125899906842624
    · rw [if_pos h]
      exact ⟨false, rfl, fun h => by cases h⟩
    · rw [if_neg h, wsucc j (by omega)]
      obtain ⟨b, h1, h2⟩ := few_l0 l2 l3 h3 n (j + 1) k (by omega) (by omega)
      refine ⟨b, h1, fun hb => ?_⟩
      obtain ⟨h4, h5⟩ := h2 hb
      refine ⟨fun i hi hil => ?_, h5⟩
      by_cases e : i = j
      · subst e; omega
      · exact h4 i (by omega) hil
theorem few_eq (l2 l3 : List Int) (k : Nat) (h3 : l3.length ≤ 4611686018427387904) (hk : l3.length < k) : ∃ b, laws_fewSizes.f k l2 l3 = some b ∧ (b = true → (∀ x ∈ l3, x < 1125899906842624) ∧ l2.length ≤ 2000 ∧ l3.length ≤ 200) := by
  unfold laws_fewSizes.f
  obtain ⟨b, h1, h2⟩ := few_l0 l2 l3 h3 l3.length 0 k (by omega) hk
  refine ⟨b, h1, fun hb => ?_⟩
  obtain ⟨h4, h5⟩ := h2 hb
  refine ⟨fun x hx => ?_, h5⟩
  obtain ⟨i, hi, rfl⟩ := List.getElem_of_mem hx
  rw [← rd_at hi]
  exact h4 i (by omega) hi
theorem same_refl (l : List Int) : spec_SameBytes.f l l = some true := by unfold spec_SameBytes.f; rw [beq_self_eq_true]
theorem awake : laws_folderAwake.f = some true := rfl
theorem sfs_l0 (a : Int) (l1 : List Int) (s : Int) (l3 : List Int) (h f : Int) (hl : l3.length ≤ 4611686018427387904) : ∀ (n j k : Nat), j + n = l3.length → n < k → spec_SameFS.l0 k (l3.length : Int) (j : Int) a l1 s l3 h f a l1 s l3 h f = some true
  | 0, j, k, hj, hk => by
    obtain ⟨k, rfl⟩ : ∃ m, k = m + 1 := ⟨k - 1, by omega⟩
    rw [spec_SameFS.l0, if_neg (by omega)]
  | n + 1, j, k, hj, hk => by
    obtain ⟨k, rfl⟩ : ∃ m, k = m + 1 := ⟨k - 1, by omega⟩
    rw [spec_SameFS.l0, if_pos (by omega), if_pos (by omega), if_pos (by omega), if_pos (by omega), if_pos rfl, wsucc j (by omega)]
    exact sfs_l0 a l1 s l3 h f hl n (j + 1) k (by omega) (by omega)
theorem sfs_refl (a : Int) (l1 : List Int) (s : Int) (l3 : List Int) (h f : Int) (k : Nat) (hl : l3.length ≤ 4611686018427387904) (hk : l3.length + 1 < k) : spec_SameFS.f k a l1 s l3 h f a l1 s l3 h f = some true := by
  obtain ⟨k, rfl⟩ : ∃ m, k = m + 1 := ⟨k - 1, by omega⟩
  unfold spec_SameFS.f
  rw [if_pos rfl, same_refl, Option.bind_some, if_pos rfl, if_pos rfl, if_pos rfl, if_pos rfl, spec_SameFS.j0, if_neg (by simp)]
  exact sfs_l0 a l1 s l3 h f hl l3.length 0 k (by omega) (by omega)
theorem told_eq (a n : Nat) (l1 : List Int) (d : Dat) (l3 : List Int) (k : Nat) (hk : 0 < k) (hl : l1.length ≤ 1000000) (hd : d.ty = a) (hs : d.size = some n) (hx : d.data.getD [] = l1) : spec_Told.f k (a : Int) l1 (n : Int) l3 0 0 = some ((a : Int), l1, fsz d, l3, 0, 0) := by
  obtain ⟨k, rfl⟩ : ∃ m, k = m + 1 := ⟨k - 1, by omega⟩
  have hz : fsz d = if a = 0 ∨ a = 2 then (n : Int) else if a = 4 then (l1.length : Int) else 0 := by unfold fsz; rw [hd, hs, hx]; rfl
  have e : ∀ b c, spec_SizeOf.f (k + 1) (a : Int) l1 (n : Int) l3 b c = some (fsz d, (spec_SizeOf.f (k + 1) (a : Int) l1 (n : Int) l3 b c).elim false (fun p => p.2)) := by
    intro b c
    unfold spec_SizeOf.f
    by_cases h0 : a = 0
    · have hz0 : fsz d = (n : Int) := by rw [hz]; exact if_pos (.inl h0)
      rw [hz0]
      subst h0
      simp [spec_SizeOf.j0]
    by_cases h2 : a = 2
    · have hz0 : fsz d = (n : Int) := by rw [hz]; exact if_pos (.inr h2)
      rw [hz0]
      subst h2
      simp [spec_SizeOf.j0]
    have n1 : ¬ (a = 0 ∨ a = 2) := by omega
    have n2 : ¬ ((a : Int) = 0) := by omega
    have n3 : ¬ (((a : Int) == 2) = true) := by simp; omega
    rw [if_neg n1] at hz
    rw [if_neg n2, spec_SizeOf.j0, if_neg n3]
    by_cases h4 : a = 4
    · rw [if_pos h4] at hz
      have n4 : (a : Int) = 4 := by omega
      rw [hz, if_pos n4, u64_id (by omega) (by omega)]
      rfl
    · rw [if_neg h4] at hz
      have n4 : ¬ ((a : Int) = 4) := by omega
      rw [hz, if_neg n4]
      rfl
  unfold spec_Told.f
  rw [e]
  rfl
theorem back_l0 (l1 l2 : List Int) (a z : Int) (r : Option Bool) (hl : l2.length ≤ 1000) (X : Nat → Option Bool) : ∀ (n j k m : Nat) (y : Int) (ys : List Int) (y2 : Int) (ys3 : List Int) (y4 y5 : Int), j + n = l2.length → n < k →
    (∀ k', k ≤ k' + n + 1 → ((spec_Told.f k' a l1 (sumSz m (l2.drop j) : Int) l2 0 0).bind fun bt141 => ((spec_SameFS.f k' y ys y2 ys3 y4 y5 bt141.1 bt141.2.1 bt141.2.2.1 bt141.2.2.2.1 bt141.2.2.2.2.1 bt141.2.2.2.2.2).bind fun t151 => (if t151 = true then ((laws_folderAwake.f).bind fun t152 => (some t152)) else (some false)))) = r) →
    laws_FnFieldsBack.l0 k l1 l2 a true true (m : Int) l2 (l2.length : Int) (j : Int) y ys y2 ys3 y4 y5 = r
  | 0, j, k, m, y, ys, y2, ys3, y4, y5, hj, hk, hr => by
    obtain ⟨k, rfl⟩ : ∃ m, k = m + 1 := ⟨k - 1, by omega⟩
    have e : sumSz m [] = m := by unfold sumSz; rw [List.foldl_nil]
    have h1 := hr k (by omega)
    rw [List.drop_of_length_le (by omega), e] at h1
    rw [laws_FnFieldsBack.l0, if_neg (by omega), if_pos rfl, if_pos rfl]
    exact h1
  | n + 1, j, k, m, y, ys, y2, ys3, y4, y5, hj, hk, hr => by
    obtain ⟨k, rfl⟩ : ∃ m, k = m + 1 := ⟨k - 1, by omega⟩
    have hjl : j < l2.length := by omega
    have e : ∀ x r, sumSz m (x :: r) = sumSz (newSz (some m) (wrap64 x)) r := fun x r => by unfold sumSz; rw [List.foldl_cons]
    rw [laws_FnFieldsBack.l0, if_pos (by omega), if_pos (by omega), if_pos (by omega), wsucc j (by omega), ← newSz_eq]
    refine back_l0 l1 l2 a z r hl X n (j + 1) k _ y ys y2 ys3 y4 y5 (by omega) (by omega) (fun k' hk' => ?_)
    have h1 := hr k' (by omega)
    rw [drop_at hjl, e] at h1
    exact h1
theorem FnFieldsBack : laws_FnFieldsBack.Pure := by
  intro a0 l2 l3 w0 hm2 hb2 hw2 hm3 hb3 hw3
  refine ⟨l3.length + 1399 + 1, ?_⟩
  have ha := wf_u8 w0
  have hb : ∀ x ∈ l3, 0 ≤ x ∧ x < 18446744073709551616 := fun x hx => wf_u64 (hw3 x hx)
  have hj : ∀ x, x = true → laws_FnFieldsBack.j0 (l3.length + 1399 + 1) a0 l2 l3 x = some true := fun x hx => by
    subst hx
    rw [laws_FnFieldsBack.j0, if_pos rfl]
  unfold laws_FnFieldsBack.f
  by_cases h1 : (l2.length : Int) > 2147483647
  · rw [if_pos h1]; exact hj _ rfl
  rw [if_neg h1]
  by_cases h2 : (l3.length : Int) > 2147483647
  · exact hj _ (decide_eq_true h2)
  rw [decide_eq_false h2, laws_FnFieldsBack.j0, if_neg (by decide)]
  obtain ⟨b, e1, e2⟩ := few_eq l2 l3 (l3.length + 1399) (by omega) (by omega)
  rw [e1, Option.bind_some]
  by_cases hbt : b = true
  · subst hbt
    obtain ⟨h3, h4, h5⟩ := e2 rfl
    obtain ⟨a, haa⟩ : ∃ a : Nat, wrap64 (Int.tmod a0 6) = (a : Int) ∧ a < 6 := by
      refine ⟨(a0 % 6).toNat, ?_, by omega⟩
      rw [Int.tmod_eq_emod_of_nonneg ha.1]
      unfold wrap64; omega
    rw [if_pos rfl, Option.bind_some, if_pos (by simp; omega), List.nil_append, haa.1]
    have e3 : impl_FSBytes.f (a : Int) true l2 l3 = some (marsh (fsDat a true l2 l3), true) := by
      unfold impl_FSBytes.f
      rw [if_pos ⟨by omega, by omega, by omega, by omega, List.all_eq_true.2 (fun x hx => by have := hb x hx; simp; omega)⟩, Int.toNat_natCast]
      rfl
    have hf : Fit (fsDat a true l2 l3) := fsDat_fit (by omega) (by omega) (by omega) hb
    obtain ⟨d, hd⟩ : ∃ d, d = fsDat a true l2 l3 := ⟨_, rfl⟩
    have d1 : d.ty = a ∧ d.data.getD [] = l2 ∧ d.size = some (sumSz l2.length l3) ∧ d.blocks = l3 := by rw [hd, fsDat_true, newSz_len _ (by omega)]; exact ⟨rfl, rfl, rfl, rfl⟩
    rw [← hd] at e3 hf
    have e4 : impl_FSOf.f (marsh d) = some ((a : Int), l2, fsz d, l3, 0, 0, true) := by
      unfold impl_FSOf.f
      rw [parse_marsh hf, Option.bind_some, d1.1, d1.2.1, d1.2.2.2]
    rw [e3, Option.bind_some, e4, Option.bind_some, u64_id (by omega) (by omega), show (0 : Int) = ((0 : Nat) : Int) from rfl]
    refine back_l0 l2 l3 (a : Int) 0 (some true) (by omega) (fun _ => none) l3.length 0 _ l2.length _ _ _ _ _ _ (by omega) (by omega) (fun k' hk' => ?_)
    have e5 := told_eq a (sumSz l2.length l3) l2 d l3 k' (by omega) (by omega) d1.1 d1.2.2.1 d1.2.1
    have e6 := sfs_refl (a : Int) l2 (fsz d) l3 0 0 k' (by omega) (by omega)
    rw [List.drop_zero, e5, Option.bind_some]
    show (spec_SameFS.f k' (a : Int) l2 (fsz d) l3 0 0 (a : Int) l2 (fsz d) l3 0 0).bind _ = _
    rw [e6, Option.bind_some, if_pos rfl, awake]
    rfl
  · rw [if_neg hbt, awake]
    rfl
end Go.Proofs.YtnhnlodmkbiiiaaDoor.Pure
