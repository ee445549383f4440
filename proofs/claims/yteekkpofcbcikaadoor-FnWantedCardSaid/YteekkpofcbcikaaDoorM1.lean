/- What FnWantedAgain asks, of the steps alone. -/
import Derived.Test.YteekkpofcbcikaaDoorK0
namespace Go.Proofs.YteekkpofcbcikaaDoor.HandWan
open Go Go.RowKit Go.Proofs.YteekkpofcbcikaaDoorL Go.Proofs.YteekkpofcbcikaaDoorW.PrintWords Go.Proofs.YteekkpofcbcikaaDoorW.PrintLast Go.Proofs.YteekkpofcbcikaaDoorW.PrintMore Go.Proofs.YteekkpofcbcikaaDoor.PWan
attribute [local go_sem] max2_int min2_int max_two min_two max_three min_three max_four min_four
set_option linter.unusedVariables false
set_option linter.unusedSimpArgs false
/-! What FnWantedAgain asks, of the steps alone. -/
def evE (e : S27) : ByteArray := strOfNums e.f0
theorem wS_0 (S : WSt) (e : S27) : wS S ⟨0, e⟩ = ⟨addF S.f (strOfNums e.f0) e.f1 (ht e.f2), addC S.f (strOfNums e.f0) (ht e.f2) S.c⟩ := rfl
theorem wS_1 (S : WSt) (e : S27) : wS S ⟨1, e⟩ = ⟨fdel S.f (strOfNums e.f0), cdel S.f (strOfNums e.f0) S.c⟩ := rfl
theorem wS_2 (S : WSt) (e : S27) : wS S ⟨2, e⟩ = ⟨rtyF S.f (strOfNums e.f0) (ht e.f2), rtyC S.f (strOfNums e.f0) (ht e.f2) S.c⟩ := rfl
theorem wS_3 (S : WSt) (e : S27) : wS S ⟨3, e⟩ = S := rfl
theorem wB_0 (S : WSt) (e : S27) : wB S ⟨0, e⟩ = addB S.f (strOfNums e.f0) (ht e.f2) := rfl
theorem wB_1 (S : WSt) (e : S27) : wB S ⟨1, e⟩ = (S.f (strOfNums e.f0)).isSome := rfl
theorem wB_2 (S : WSt) (e : S27) : wB S ⟨2, e⟩ = rtyB S.f (strOfNums e.f0) (ht e.f2) := rfl
theorem wB_3 (S : WSt) (e : S27) : wB S ⟨3, e⟩ = (S.f (strOfNums e.f0)).isSome := rfl
theorem wE_3 (S : WSt) (e : S27) : wE S ⟨3, e⟩ = (match S.f (strOfNums e.f0) with | some v => entS (strOfNums e.f0) v | none => z27) := rfl
theorem wS_keep (st : WSt) (x : S31) (s : ByteArray) (p : Int) (h : st.f s = some (p, 0)) (h1 : x.f0 ≠ 1) (h2 : x.f0 ≠ 2) (hc : 1 ≤ st.c) : (wS st x).f s = some (p, 0) ∧ 1 ≤ (wS st x).c := by
  unfold wS
  by_cases h0 : x.f0 = 0
  · rw [if_pos h0]
    show addF st.f (nm x) x.f1.f1 (ht x.f1.f2) s = _ ∧ 1 ≤ addC st.f (nm x) (ht x.f1.f2) st.c
    unfold addF addC
    by_cases hb : addB st.f (nm x) (ht x.f1.f2) = true
    · rw [if_pos hb, if_pos hb]
      constructor
      · unfold fput
        by_cases e : s = nm x
        · exfalso
          unfold addB at hb
          rw [← e, h] at hb
          simp at hb
        · rw [if_neg e]; exact h
      · unfold cput
        split <;> omega
    · rw [if_neg hb, if_neg hb]
      exact ⟨h, hc⟩
  · rw [if_neg h0, if_neg h1, if_neg h2]
    exact ⟨h, hc⟩
theorem wS_keep_all (s : ByteArray) (p : Int) (l : List S31) : ∀ st : WSt, st.f s = some (p, 0) → 1 ≤ st.c → (∀ x ∈ l, x.f0 ≠ 1 ∧ x.f0 ≠ 2) → (l.foldl wS st).f s = some (p, 0) ∧ 1 ≤ (l.foldl wS st).c := by
  induction l with
  | nil => intro st h hc _; exact ⟨h, hc⟩
  | cons x l ih =>
    intro st h hc hl
    rw [List.foldl_cons]
    have hx := hl x (List.mem_cons_self ..)
    obtain ⟨h1, h2⟩ := wS_keep st x s p h hx.1 hx.2 hc
    exact ih _ h1 h2 (fun y hy => hl y (List.mem_cons_of_mem _ hy))
theorem wRun_at (ns : List ByteArray) (a : List S31) (x : S31) (b : List S31) : ∀ st, (wRun ns st (a ++ x :: b))[a.length]? = some (wTold ns (a.foldl wS st) x) := by
  induction a with
  | nil => intro st; rfl
  | cons y a ih =>
    intro st
    show (wTold ns st y :: wRun ns (wS st y) (a ++ x :: b))[a.length + 1]? = _
    rw [List.getElem?_cons_succ]
    exact ih _
theorem wS_c (st : WSt) (x : S31) : (wS st x).c ≤ st.c + 1 := by
  unfold wS
  split
  · show addC _ _ _ _ ≤ _
    unfold addC cput
    split
    · split <;> omega
    · omega
  · split
    · show cdel _ _ _ ≤ _
      unfold cdel
      split <;> omega
    · split
      · show rtyC _ _ _ _ ≤ _
        unfold rtyC cdel
        split
        · split <;> omega
        · omega
      · omega
theorem wS_cs (l : List S31) : ∀ st : WSt, (l.foldl wS st).c ≤ st.c + l.length := by
  induction l with
  | nil => intro st; exact Nat.le_refl _
  | cons x l ih =>
    intro st
    rw [List.foldl_cons]
    have h1 := ih (wS st x)
    have h2 := wS_c st x
    simp only [List.length_cons]
    omega
/-- The steps of the law. -/
def agL (A B : List S31) (e : S27) : List S31 := A ++ [⟨1, e⟩, ⟨0, e⟩] ++ B ++ [⟨3, e⟩, ⟨2, ⟨e.f0, 0, true⟩⟩, ⟨1, e⟩, ⟨3, e⟩]
theorem agL_len (A B : List S31) (e : S27) : (agL A B e).length = A.length + B.length + 6 := by
  unfold agL
  simp only [List.length_append, List.length_cons, List.length_nil]
  omega
theorem again_law (ns : List ByteArray) (A B : List S31) (e : S27) (he : e.f2 = false) (hb : ∀ y ∈ e.f0, 0 ≤ y ∧ y < 256) (hB : ∀ x ∈ B, x.f0 ≠ 1 ∧ x.f0 ≠ 2) :
    ∃ t0 t4 t3 t2 t1 : S36, (wRun ns st0 (agL A B e))[A.length + 1]? = some t0 ∧ (wRun ns st0 (agL A B e))[A.length + B.length + 2]? = some t4 ∧ (wRun ns st0 (agL A B e))[A.length + B.length + 3]? = some t3 ∧ (wRun ns st0 (agL A B e))[A.length + B.length + 4]? = some t2 ∧ (wRun ns st0 (agL A B e))[A.length + B.length + 5]? = some t1
      ∧ t0.f0 = true ∧ t4.f0 = true ∧ t4.f1 = e ∧ t3.f0 = false ∧ t2.f0 = true ∧ t1.f0 = false ∧ t2.f2 = t4.f2 - 1 ∧ 0 ≤ t2.f2 ∧ t4.f2 ≤ ((A.length + B.length + 2 : Nat) : Int) := by
  obtain ⟨s, hs⟩ : ∃ s, s = strOfNums e.f0 := ⟨_, rfl⟩
  -- behind the removal
  obtain ⟨S1, hS1⟩ : ∃ S, S = (A ++ ([⟨1, e⟩] : List S31)).foldl wS st0 := ⟨_, rfl⟩
  have hf1 : S1.f s = none := by
    rw [hS1, List.foldl_append]
    show (wS (A.foldl wS st0) ⟨1, e⟩).f s = none
    rw [wS_1]
    show fdel _ (strOfNums e.f0) s = none
    unfold fdel
    rw [if_pos hs]
  have hb1 : addB S1.f s (ht e.f2) = true := by unfold addB; rw [hf1]
  -- behind the add
  obtain ⟨S2, hS2⟩ : ∃ S, S = wS S1 ⟨0, e⟩ := ⟨_, rfl⟩
  have hf2 : S2.f s = some (e.f1, 0) ∧ 1 ≤ S2.c := by
    rw [hS2, wS_0, ← hs]
    show addF S1.f s e.f1 (ht e.f2) s = _ ∧ 1 ≤ addC S1.f s (ht e.f2) S1.c
    unfold addF addC
    rw [if_pos hb1, if_pos hb1]
    constructor
    · unfold fput
      rw [if_pos rfl, he]
      rfl
    · unfold cput
      rw [hf1]
      simp
  obtain ⟨S3, hS3⟩ : ∃ S, S = B.foldl wS S2 := ⟨_, rfl⟩
  obtain ⟨hf3, hc3⟩ := wS_keep_all s e.f1 B S2 hf2.1 hf2.2 hB
  rw [← hS3] at hf3 hc3
  have e23 : (A ++ ([⟨1, e⟩, ⟨0, e⟩] : List S31) ++ B).foldl wS st0 = S3 := by
    rw [hS3, hS2, hS1]
    simp [List.foldl_append]
  have w3 : ∀ (S : WSt) (e' : S27), wS S ⟨3, e'⟩ = S := wS_3
  have hrt : rtyB S3.f s 1 = false := by unfold rtyB; rw [hf3]; rfl
  have w2 : wS S3 ⟨2, ⟨e.f0, 0, true⟩⟩ = S3 := by
    rw [wS_2]
    show (⟨rtyF S3.f (strOfNums e.f0) 1, rtyC S3.f (strOfNums e.f0) 1 S3.c⟩ : WSt) = S3
    rw [← hs]
    unfold rtyF rtyC
    rw [hrt, if_neg (by decide), if_neg (by decide)]
  have w1 : wS S3 ⟨1, e⟩ = ⟨fdel S3.f s, cdel S3.f s S3.c⟩ := by rw [wS_1, ← hs]
  have hcd : cdel S3.f s S3.c = S3.c - 1 := by unfold cdel; rw [hf3]; rfl
  refine ⟨wTold ns S1 ⟨0, e⟩, wTold ns S3 ⟨3, e⟩, wTold ns S3 ⟨2, ⟨e.f0, 0, true⟩⟩, wTold ns S3 ⟨1, e⟩, wTold ns ⟨fdel S3.f s, cdel S3.f s S3.c⟩ ⟨3, e⟩, ?_, ?_, ?_, ?_, ?_, ?_, ?_, ?_, ?_, ?_, ?_, ?_, ?_, ?_⟩
  · have := wRun_at ns (A ++ ([⟨1, e⟩] : List S31)) ⟨0, e⟩ (B ++ [⟨3, e⟩, ⟨2, ⟨e.f0, 0, true⟩⟩, ⟨1, e⟩, ⟨3, e⟩]) st0
    rw [← hS1] at this
    rw [← this]
    unfold agL
    simp
  · have := wRun_at ns (A ++ ([⟨1, e⟩, ⟨0, e⟩] : List S31) ++ B) ⟨3, e⟩ [⟨2, ⟨e.f0, 0, true⟩⟩, ⟨1, e⟩, ⟨3, e⟩] st0
    rw [e23] at this
    rw [← this]
    unfold agL
    congr 1
    simp only [List.length_append, List.length_cons, List.length_nil]
    omega
  · have := wRun_at ns (A ++ ([⟨1, e⟩, ⟨0, e⟩] : List S31) ++ B ++ [⟨3, e⟩]) ⟨2, ⟨e.f0, 0, true⟩⟩ [⟨1, e⟩, ⟨3, e⟩] st0
    rw [List.foldl_append, e23, List.foldl_cons, List.foldl_nil, w3] at this
    rw [← this]
    unfold agL
    congr 1
    · simp
    · simp only [List.length_append, List.length_cons, List.length_nil]
      omega
  · have := wRun_at ns (A ++ ([⟨1, e⟩, ⟨0, e⟩] : List S31) ++ B ++ [⟨3, e⟩, ⟨2, ⟨e.f0, 0, true⟩⟩]) ⟨1, e⟩ [⟨3, e⟩] st0
    rw [List.foldl_append, e23, List.foldl_cons, List.foldl_cons, List.foldl_nil, w3, w2] at this
    rw [← this]
    unfold agL
    congr 1
    · simp
    · simp only [List.length_append, List.length_cons, List.length_nil]
      omega
  · have := wRun_at ns (A ++ ([⟨1, e⟩, ⟨0, e⟩] : List S31) ++ B ++ [⟨3, e⟩, ⟨2, ⟨e.f0, 0, true⟩⟩, ⟨1, e⟩]) ⟨3, e⟩ [] st0
    rw [List.foldl_append, e23, List.foldl_cons, List.foldl_cons, List.foldl_cons, List.foldl_nil, w3, w2, w1] at this
    rw [← this]
    unfold agL
    congr 1
    · simp
    · simp only [List.length_append, List.length_cons, List.length_nil]
      omega
  · show wB S1 ⟨0, e⟩ = true
    rw [wB_0, ← hs]
    exact hb1
  · show wB S3 ⟨3, e⟩ = true
    rw [wB_3, ← hs, hf3]
    rfl
  · show wE S3 ⟨3, e⟩ = e
    rw [wE_3, ← hs, hf3]
    show entS s (e.f1, 0) = e
    unfold entS
    rw [hs, numsB_strOf hb]
    cases e
    simp_all
  · show wB S3 ⟨2, ⟨e.f0, 0, true⟩⟩ = false
    rw [wB_2]
    show rtyB S3.f (strOfNums e.f0) 1 = false
    rw [← hs]
    exact hrt
  · show wB S3 ⟨1, e⟩ = true
    rw [wB_1, ← hs, hf3]
    rfl
  · show wB ⟨fdel S3.f s, cdel S3.f s S3.c⟩ ⟨3, e⟩ = false
    rw [wB_3, ← hs]
    show (fdel S3.f s s).isSome = false
    unfold fdel
    rw [if_pos rfl]
    rfl
  · show ((wS S3 ⟨1, e⟩).c : Int) = ((wS S3 ⟨3, e⟩).c : Int) - 1
    rw [w1, w3]
    show ((cdel S3.f s S3.c : Nat) : Int) = (S3.c : Int) - 1
    rw [hcd]
    omega
  · show (0 : Int) ≤ ((wS S3 ⟨1, e⟩).c : Int)
    omega
  · show ((wS S3 ⟨3, e⟩).c : Int) ≤ _
    rw [w3, ← e23]
    have := wS_cs (A ++ ([⟨1, e⟩, ⟨0, e⟩] : List S31) ++ B) st0
    simp only [List.length_append, List.length_cons, List.length_nil] at this
    have h0 : st0.c = 0 := rfl
    omega
end Go.Proofs.YteekkpofcbcikaaDoor.HandWan
