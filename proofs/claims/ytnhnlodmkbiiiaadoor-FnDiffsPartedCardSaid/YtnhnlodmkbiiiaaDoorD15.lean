/- What the law's own loops say, in plain lists. -/
import Derived.Test.YtnhnlodmkbiiiaaDoorD14
namespace Go.Proofs.YtnhnlodmkbiiiaaDoor.HandDif
open Go Go.RowKit Go.Proofs.YtnhnlodmkbiiiaaDoorL Go.Proofs.YtnhnlodmkbiiiaaDoorW.PrintWords Go.Proofs.YtnhnlodmkbiiiaaDoorW.PrintLast Go.Proofs.YtnhnlodmkbiiiaaDoorW.PrintMore Go.Proofs.YtnhnlodmkbiiiaaDoor.PDif
attribute [local go_sem] max2_int min2_int max_two min_two max_three min_three max_four min_four
set_option linter.unusedVariables false
set_option linter.unusedSimpArgs false
theorem toList_inj_ {s t : ByteArray} (h : s.toList = t.toList) : s = t := by
  rw [ByteArray.toList_eq, ByteArray.toList_eq] at h
  cases s; cases t
  simp only [ByteArray.mk.injEq]
  exact Array.ext' h
theorem idx_l0 (l : List ByteArray) (s : ByteArray) (hl : l.length ≤ 1000000) : ∀ (k j : Nat), j ≤ l.length → l.length - j < k → ∃ i : Int, slices_Index_string_string.l0 k l s (l.length : Int) (j : Int) = some i ∧ (0 ≤ i ↔ s ∈ l.drop j) := by
  intro k
  induction k with
  | zero => intro j _ h; omega
  | succ k ih =>
    intro j hj hk
    unfold slices_Index_string_string.l0
    by_cases h1 : j < l.length
    · rw [if_pos (show (j : Int) < (l.length : Int) by omega), if_pos (show (0 : Int) ≤ (j : Int) by omega), if_pos (show (j : Int) < (l.length : Int) by omega)]
      have e : rdOf ByteArray.empty l (j : Int) = l[j] := by
        unfold rdOf
        rw [Int.toNat_natCast, List.getD_eq_getElem?_getD, List.getElem?_eq_getElem h1]
        rfl
      rw [e, List.drop_eq_getElem_cons h1]
      by_cases h2 : s.toList = l[j].toList
      · rw [if_pos h2]
        exact ⟨(j : Int), rfl, fun _ => by rw [toList_inj_ h2]; exact List.mem_cons_self .., fun _ => by omega⟩
      · rw [if_neg h2]
        have hw : wrap64 ((j : Int) + 1) = ((j + 1 : Nat) : Int) := by unfold wrap64; omega
        rw [hw]
        obtain ⟨i, hi, hm⟩ := ih (j + 1) (by omega) (by omega)
        refine ⟨i, hi, hm.trans ⟨fun h => List.mem_cons_of_mem _ h, fun h => ?_⟩⟩
        rcases List.mem_cons.1 h with h | h
        · exact absurd (by rw [h]) h2
        · exact h
    · rw [if_neg (show ¬ (j : Int) < (l.length : Int) by omega)]
      refine ⟨-1, rfl, fun h => by omega, fun h => ?_⟩
      rw [List.drop_eq_nil_of_le (by omega)] at h
      cases h
theorem contains_f (l : List ByteArray) (s : ByteArray) (hl : l.length ≤ 1000000) : slices_Contains_string_string.f (l.length + 1) l s = some (decide (s ∈ l)) := by
  obtain ⟨i, hi, hm⟩ := idx_l0 l s hl (l.length + 1) 0 (Nat.zero_le _) (by omega)
  unfold slices_Contains_string_string.f slices_Index_string_string.f
  have h0 : ((0 : Nat) : Int) = 0 := rfl
  rw [h0] at hi
  rw [hi, Option.bind_some]
  congr 1
  rw [List.drop_zero] at hm
  exact decide_eq_decide.2 hm
theorem eq_l0 (l : List S78) (hl : l.length ≤ 1000000) : ∀ (k j : Nat), j ≤ l.length → l.length - j < k → impl_Diff_46_sameDiff.l0 k l l (l.length : Int) (j : Int) = some true := by
  intro k
  induction k with
  | zero => intro j _ h; omega
  | succ k ih =>
    intro j hj hk
    unfold impl_Diff_46_sameDiff.l0
    by_cases h1 : j < l.length
    · rw [if_pos (show (j : Int) < (l.length : Int) by omega), if_pos (show (0 : Int) ≤ (j : Int) by omega), if_pos (show (j : Int) < (l.length : Int) by omega), if_pos (show (j : Int) < (l.length : Int) by omega)]
      have hw : wrap64 ((j : Int) + 1) = ((j + 1 : Nat) : Int) := by unfold wrap64; omega
      have hs := sd_refl (rd_T78 l (j : Int))
      unfold sdF at hs
      rw [hs, Option.bind_some, if_pos rfl, hw]
      exact ih (j + 1) (by omega) (by omega)
    · rw [if_neg (show ¬ (j : Int) < (l.length : Int) by omega)]
theorem equal_f (l : List S78) (hl : l.length ≤ 1000000) : impl_Diff_46_sameDiff.f (l.length + 1) l l () = some true := by
  unfold impl_Diff_46_sameDiff.f
  rw [if_pos rfl]
  exact eq_l0 l hl (l.length + 1) 0 (Nat.zero_le _) (by omega)
theorem drop_tds (xs ys : List S78) : (tds xs ys).drop (xs.length - (tcs xs ys).length) = ys.filter (fun h => decide (h.f1 ∉ tps xs ys)) := by
  have h := tds_len xs ys
  rw [tds_eq, show xs.length - (tcs xs ys).length = (tst xs ys).ds.length by omega, List.drop_left]
theorem len_tds (xs ys : List S78) : (tds xs ys).length = (xs.length - (tcs xs ys).length) + (ys.filter (fun h => decide (h.f1 ∉ tps xs ys))).length := by
  have h := tds_len xs ys
  rw [tds_eq, List.length_append]
  omega
theorem tcs_new (xs ys : List S78) (j : Nat) (hj : j < (tcs xs ys).length) : ((tcs xs ys)[j]).1.f1 ∉ ((tcs xs ys).take j).map (fun p => p.1.f1) := by
  have h := tps_nodup xs ys
  unfold tps at h
  rw [← List.take_append_drop j (tcs xs ys), List.map_append, List.drop_eq_getElem_cons hj, List.map_cons] at h
  intro hm
  exact (List.nodup_append.1 h).2.2 _ hm _ (List.mem_cons_self ..) rfl
end Go.Proofs.YtnhnlodmkbiiiaaDoor.HandDif
