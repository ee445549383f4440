/- What the steps of a want list give, in plain lists. -/
import Derived.Test.YteekkpofcbcikaaDoorJ0
namespace Go.Proofs.YteekkpofcbcikaaDoor.HandWan
open Go Go.RowKit Go.Proofs.YteekkpofcbcikaaDoorL Go.Proofs.YteekkpofcbcikaaDoorW.PrintWords Go.Proofs.YteekkpofcbcikaaDoorW.PrintLast Go.Proofs.YteekkpofcbcikaaDoorW.PrintMore Go.Proofs.YteekkpofcbcikaaDoor.PWan
attribute [local go_sem] max2_int min2_int max_two min_two max_three min_three max_four min_four
set_option linter.unusedVariables false
set_option linter.unusedSimpArgs false
/-! What the steps of a want list give, in plain lists. -/
structure WSt where
  f : WF
  c : Nat
def ht (h : Bool) : Int := if h = true then 1 else 0
def nm (x : S31) : ByteArray := strOfNums x.f1.f0
def wB (st : WSt) (x : S31) : Bool := if x.f0 = 0 then addB st.f (nm x) (ht x.f1.f2) else if x.f0 = 1 then (st.f (nm x)).isSome else if x.f0 = 2 then rtyB st.f (nm x) (ht x.f1.f2) else if x.f0 = 3 then (st.f (nm x)).isSome else false
def wS (st : WSt) (x : S31) : WSt := if x.f0 = 0 then ⟨addF st.f (nm x) x.f1.f1 (ht x.f1.f2), addC st.f (nm x) (ht x.f1.f2) st.c⟩ else if x.f0 = 1 then ⟨fdel st.f (nm x), cdel st.f (nm x) st.c⟩ else if x.f0 = 2 then ⟨rtyF st.f (nm x) (ht x.f1.f2), rtyC st.f (nm x) (ht x.f1.f2) st.c⟩ else st
def entS (s : ByteArray) (v : Int × Int) : S27 := ⟨numsB s, v.1, v.2 == 1⟩
def wE (st : WSt) (x : S31) : S27 := if x.f0 = 3 then (match st.f (nm x) with | some v => entS (nm x) v | none => z27) else z27
def allF (ns : List ByteArray) (f : WF) : List S27 := ns.filterMap (fun s => (f s).map (entS s))
def wTold (ns : List ByteArray) (st : WSt) (x : S31) : S36 := ⟨wB st x, wE st x, ((wS st x).c : Int), allF ns (wS st x).f⟩
def wRun (ns : List ByteArray) : WSt → List S31 → List S36
  | _, [] => []
  | st, x :: l => wTold ns st x :: wRun ns (wS st x) l
theorem wRun_snoc (ns : List ByteArray) (x : S31) (l : List S31) : ∀ st, wRun ns st (l ++ [x]) = wRun ns st l ++ [wTold ns (l.foldl wS st) x] := by
  induction l with
  | nil => intro st; rfl
  | cons y l ih => intro st; show wTold ns st y :: wRun ns (wS st y) (l ++ [x]) = _; rw [ih]; rfl
theorem wRun_len (ns : List ByteArray) (l : List S31) : ∀ st, (wRun ns st l).length = l.length := by
  induction l with
  | nil => intro st; rfl
  | cons y l ih => intro st; show (wRun ns (wS st y) l).length + 1 = _; rw [ih]; rfl
def st0 : WSt := ⟨fun _ => none, 0⟩
instance decMemName (k : ByteArray) (l : List ByteArray) : Decidable (k ∈ l) := @List.instDecidableMemOfLawfulBEq ByteArray instBEqOfDecidableEq inferInstance k l
def insN (ns : List ByteArray) (x : S31) : List ByteArray := if nm x ∈ ns then ns else ns ++ [nm x]
def ded (l : List S31) : List ByteArray := l.foldl insN []
theorem ded_len (l : List S31) : ∀ ns : List ByteArray, (l.foldl insN ns).length ≤ ns.length + l.length := by
  induction l with
  | nil => intro ns; exact Nat.le_refl _
  | cons x l ih =>
    intro ns
    rw [List.foldl_cons]
    have h1 := ih (insN ns x)
    have h2 : (insN ns x).length ≤ ns.length + 1 := by
      unfold insN
      split
      · omega
      · simp
    simp only [List.length_cons]
    omega
theorem ded_mem (l : List S31) : ∀ (ns : List ByteArray) (s : ByteArray), s ∈ l.foldl insN ns → s ∈ ns ∨ ∃ x ∈ l, s = nm x := by
  induction l with
  | nil => intro ns s h; exact .inl h
  | cons x l ih =>
    intro ns s h
    rw [List.foldl_cons] at h
    rcases ih _ _ h with h | ⟨y, hy, e⟩
    · unfold insN at h
      split at h
      · exact .inl h
      · rcases List.mem_append.1 h with h | h
        · exact .inl h
        · exact .inr ⟨x, List.mem_cons_self .., List.mem_singleton.1 h⟩
    · exact .inr ⟨y, List.mem_cons_of_mem _ hy, e⟩
theorem ded_grow (l : List S31) : ∀ ns : List ByteArray, 0 < ns.length → 0 < (l.foldl insN ns).length := by
  induction l with
  | nil => intro ns h; exact h
  | cons x l ih =>
    intro ns h
    rw [List.foldl_cons]
    refine ih _ ?_
    unfold insN
    split
    · exact h
    · simp
theorem ded_pos (l : List S31) (h : 0 < l.length) : 0 < (ded l).length := by
  cases l with
  | nil => cases h
  | cons x l =>
    unfold ded
    rw [List.foldl_cons]
    refine ded_grow l _ ?_
    unfold insN
    rw [if_neg (by simp)]
    simp
def leB (x y : List UInt8) : Bool := decide (x ≤ y)
def sortN (ns : List ByteArray) : List ByteArray := ((ns.map fun s => s.data.toList).mergeSort leB).map fun l => ⟨l.toArray⟩
theorem sortN_mem (ns : List ByteArray) (s : ByteArray) : s ∈ sortN ns ↔ s ∈ ns := by
  unfold sortN
  rw [List.mem_map]
  constructor
  · rintro ⟨l, hl, rfl⟩
    obtain ⟨t, ht, rfl⟩ := List.mem_map.1 (List.mem_mergeSort.1 hl)
    exact ht
  · intro h
    exact ⟨s.data.toList, List.mem_mergeSort.2 (List.mem_map.2 ⟨s, h, rfl⟩), rfl⟩
theorem sortN_len (ns : List ByteArray) : (sortN ns).length = ns.length := by
  unfold sortN
  rw [List.length_map, List.length_mergeSort, List.length_map]
/-- A step whose identifier is one. -/
structure OkW (x : S31) : Prop where
  cast : gocid_Cast.f 100 x.f1.f0 = some (strOfNums x.f1.f0, none)
  byte : ∀ y ∈ x.f1.f0, 0 ≤ y ∧ y < 256
  pos : 0 < x.f1.f0.length
  len : x.f1.f0.length ≤ 1000
theorem OkW.size {x : S31} (h : OkW x) : (nm x).size = x.f1.f0.length := strOfNums_size _
theorem OkW.nums {x : S31} (h : OkW x) : numsB (nm x) = x.f1.f0 := numsB_strOf h.byte
theorem toList_inj_ {s t : ByteArray} (h : s.toList = t.toList) : s = t := by
  rw [ByteArray.toList_eq, ByteArray.toList_eq] at h
  cases s; cases t
  simp only [ByteArray.mk.injEq]
  exact Array.ext' h
theorem idx_l0 (l : List ByteArray) (s : ByteArray) (hl : l.length ≤ 1000000) : ∀ (k j : Nat), j ≤ l.length → l.length - j < k → ∃ i : Int, slices_Index_string_string.l0 k l s (l.length : Int) (j : Int) = some i ∧ (0 ≤ i ↔ s ∈ l.drop j) := by
  intro k
  induction k with
  | zero => intro j _ h; omega
  | succ k ih =>
    intro j hj hk
    unfold slices_Index_string_string.l0
    by_cases h1 : j < l.length
    · rw [if_pos (show (j : Int) < (l.length : Int) by omega), if_pos (show (0 : Int) ≤ (j : Int) by omega), if_pos (show (j : Int) < (l.length : Int) by omega)]
      have e : rdOf ByteArray.empty l (j : Int) = l[j] := by
        unfold rdOf
        rw [Int.toNat_natCast, List.getD_eq_getElem?_getD, List.getElem?_eq_getElem h1]
        rfl
      rw [e, List.drop_eq_getElem_cons h1]
      by_cases h2 : s.toList = l[j].toList
      · rw [if_pos h2]
        exact ⟨(j : Int), rfl, fun _ => by rw [toList_inj_ h2]; exact List.mem_cons_self .., fun _ => by omega⟩
      · rw [if_neg h2]
        have hw : wrap64 ((j : Int) + 1) = ((j + 1 : Nat) : Int) := by unfold wrap64; omega
        rw [hw]
        obtain ⟨i, hi, hm⟩ := ih (j + 1) (by omega) (by omega)
        refine ⟨i, hi, hm.trans ⟨fun h => List.mem_cons_of_mem _ h, fun h => ?_⟩⟩
        rcases List.mem_cons.1 h with h | h
        · exact absurd (by rw [h]) h2
        · exact h
    · rw [if_neg (show ¬ (j : Int) < (l.length : Int) by omega)]
      refine ⟨-1, rfl, fun h => by omega, fun h => ?_⟩
      rw [List.drop_eq_nil_of_le (by omega)] at h
      cases h
theorem contains_f (l : List ByteArray) (s : ByteArray) (hl : l.length ≤ 1000000) : slices_Contains_string_string.f (l.length + 1) l s = some (decide (s ∈ l)) := by
  obtain ⟨i, hi, hm⟩ := idx_l0 l s hl (l.length + 1) 0 (Nat.zero_le _) (by omega)
  unfold slices_Contains_string_string.f slices_Index_string_string.f
  have h0 : ((0 : Nat) : Int) = 0 := rfl
  rw [h0] at hi
  rw [hi, Option.bind_some]
  congr 1
  rw [List.drop_zero] at hm
  exact decide_eq_decide.2 hm
end Go.Proofs.YteekkpofcbcikaaDoor.HandWan
