/- Several texts of this claim, joined. -/
import Derived.Test.YteekkpofcbcikaaDoorQB
/- What spec.Wanted gives, in plain lists, and that impl.Wanted gives the same. -/
section
namespace Go.Proofs.YteekkpofcbcikaaDoor.HandWan
open Go Go.RowKit Go.Proofs.YteekkpofcbcikaaDoorL Go.Proofs.YteekkpofcbcikaaDoorW.PrintWords Go.Proofs.YteekkpofcbcikaaDoorW.PrintLast Go.Proofs.YteekkpofcbcikaaDoorW.PrintMore Go.Proofs.YteekkpofcbcikaaDoor.PWan
attribute [local go_sem] max2_int min2_int max_two min_two max_three min_three max_four min_four
set_option linter.unusedVariables false
set_option linter.unusedSimpArgs false
/-! What spec.Wanted gives, in plain lists, and that impl.Wanted gives the same. -/
def nmE (e : S27) : ByteArray := strOfNums e.f0
def spHit (l : List S27) (x : S31) : Bool := decide (0 ≤ fI l x.f1.f0 0)
def spAt (l : List S27) (x : S31) : S27 := rd_T27 l (fI l x.f1.f0 0)
def spDel (l : List S27) (x : S31) : Bool := spHit l x && (x.f0 == 1 || (spAt l x).f2 || !x.f1.f2)
def spL (l : List S27) (x : S31) : List S27 := if x.f0 = 0 then (if spHit l x = true then (if (x.f1.f2 || !(spAt l x).f2) = true then l else l.set (fI l x.f1.f0 0).toNat x.f1) else l ++ [x.f1]) else if x.f0 = 1 ∨ x.f0 = 2 then (if spDel l x = true then l.eraseIdx (fI l x.f1.f0 0).toNat else l) else l
def spB (l : List S27) (x : S31) : Bool := if x.f0 = 0 then !(spHit l x && (x.f1.f2 || !(spAt l x).f2)) else if x.f0 = 1 ∨ x.f0 = 2 then spDel l x else if x.f0 = 3 then spHit l x else true
def spE (l : List S27) (x : S31) : S27 := if x.f0 = 3 then (if spHit l x = true then spAt l x else z27) else z27
def spTold (l : List S27) (x : S31) : S36 := ⟨spB l x, spE l x, ((spL l x).length : Int), sortE (spL l x)⟩
def spRun : List S27 → List S31 → List S36
  | _, [] => []
  | l, x :: r => spTold l x :: spRun (spL l x) r
theorem eqB_iff (xs ys : List Int) : eqB xs ys = true ↔ strOfNums xs = strOfNums ys := by
  unfold eqB
  rw [beq_iff_eq]
  exact ⟨toList_inj_, fun h => by rw [h]⟩
theorem fI_split (ys : List Int) : ∀ (l : List S27) (k : Nat), (fI l ys k = -1 ∧ ∀ e ∈ l, nmE e ≠ strOfNums ys) ∨ ∃ a e b, l = a ++ e :: b ∧ fI l ys k = ((k + a.length : Nat) : Int) ∧ nmE e = strOfNums ys ∧ ∀ y ∈ a, nmE y ≠ strOfNums ys
  | [], k => .inl ⟨rfl, fun e h => by cases h⟩
  | x :: l, k => by
    unfold fI
    by_cases h : eqB x.f0 ys = true
    · rw [if_pos h]
      exact .inr ⟨[], x, l, rfl, rfl, (eqB_iff _ _).1 h, fun y hy => by cases hy⟩
    · rw [if_neg h]
      have hx : nmE x ≠ strOfNums ys := fun e => h ((eqB_iff _ _).2 e)
      rcases fI_split ys l (k + 1) with ⟨h1, h2⟩ | ⟨a, e, b, h1, h2, h3, h4⟩
      · refine .inl ⟨h1, fun e he => ?_⟩
        rcases List.mem_cons.1 he with rfl | he
        · exact hx
        · exact h2 e he
      · refine .inr ⟨x :: a, e, b, by rw [h1]; rfl, by rw [h2, List.length_cons]; congr 1; omega, h3, fun y hy => ?_⟩
        rcases List.mem_cons.1 hy with rfl | hy
        · exact hx
        · exact h4 y hy
/-- The list of the reference and the map of the package tell the same. -/
structure Rel (l : List S27) (st : WSt) : Prop where
  nd : (l.map nmE).Nodup
  ok : ∀ e ∈ l, numsB (nmE e) = e.f0
  eq : ∀ s v, st.f s = some v ↔ ∃ e ∈ l, nmE e = s ∧ (e.f1, ht e.f2) = v
  len : st.c = l.length
theorem rel_start : Rel [] st0 := ⟨List.nodup_nil, fun e h => by (cases h), fun s v => ⟨fun h => by (cases h), fun ⟨e, h, _⟩ => by (cases h)⟩, rfl⟩
theorem nd_parts {a b : List S27} {e : S27} (h : ((a ++ e :: b).map nmE).Nodup) : ((a ++ b).map nmE).Nodup ∧ (∀ y ∈ a, nmE y ≠ nmE e) ∧ ∀ y ∈ b, nmE y ≠ nmE e := by
  rw [List.map_append, List.map_cons, List.nodup_append, List.nodup_cons] at h
  obtain ⟨h1, ⟨h2, h3⟩, h4⟩ := h
  refine ⟨?_, fun y hy e' => h4 _ (List.mem_map.2 ⟨y, hy, rfl⟩) _ (List.mem_cons_self ..) e', fun y hy e' => h2 (List.mem_map.2 ⟨y, hy, e'⟩)⟩
  rw [List.map_append, List.nodup_append]
  exact ⟨h1, h3, fun p hp q hq => h4 p hp q (List.mem_cons_of_mem _ hq)⟩
theorem Rel.miss {l : List S27} {st : WSt} (h : Rel l st) {s : ByteArray} (hm : ∀ e ∈ l, nmE e ≠ s) : st.f s = none := by
  cases hf : st.f s with
  | none => rfl
  | some v =>
    obtain ⟨e, he, h1, _⟩ := (h.eq s v).1 hf
    exact absurd h1 (hm e he)
theorem Rel.add {l : List S27} {st : WSt} (h : Rel l st) (e : S27) (he : numsB (nmE e) = e.f0) (hm : ∀ y ∈ l, nmE y ≠ nmE e) : Rel (l ++ [e]) ⟨fput st.f (nmE e) e.f1 (ht e.f2), st.c + 1⟩ where
  nd := by
    rw [List.map_append, List.nodup_append]
    refine ⟨h.nd, by simp, fun p hp q hq => ?_⟩
    obtain ⟨y, hy, rfl⟩ := List.mem_map.1 hp
    rw [List.map_cons, List.map_nil, List.mem_singleton] at hq
    rw [hq]
    exact hm y hy
  ok y hy := by
    rcases List.mem_append.1 hy with hy | hy
    · exact h.ok y hy
    · rw [List.mem_singleton.1 hy]; exact he
  eq s v := by
    show fput st.f (nmE e) e.f1 (ht e.f2) s = some v ↔ _
    unfold fput
    by_cases hs : s = nmE e
    · rw [if_pos hs]
      constructor
      · intro hv
        exact ⟨e, List.mem_append_right _ (List.mem_singleton.2 rfl), hs.symm, Option.some.inj hv⟩
      · rintro ⟨y, hy, h1, h2⟩
        rcases List.mem_append.1 hy with hy | hy
        · exact absurd (h1.trans hs) (hm y hy)
        · rw [List.mem_singleton.1 hy] at h2; rw [h2]
    · rw [if_neg hs, h.eq]
      constructor
      · rintro ⟨y, hy, h1⟩
        exact ⟨y, List.mem_append_left _ hy, h1⟩
      · rintro ⟨y, hy, h1, h2⟩
        rcases List.mem_append.1 hy with hy | hy
        · exact ⟨y, hy, h1, h2⟩
        · rw [List.mem_singleton.1 hy] at h1; exact absurd h1.symm hs
  len := by rw [List.length_append, ← h.len]; rfl
theorem Rel.del {a b : List S27} {e : S27} {st : WSt} (h : Rel (a ++ e :: b) st) : Rel (a ++ b) ⟨fdel st.f (nmE e), st.c - 1⟩ where
  nd := (nd_parts h.nd).1
  ok y hy := h.ok y (by rcases List.mem_append.1 hy with hy | hy; exact List.mem_append_left _ hy; exact List.mem_append_right _ (List.mem_cons_of_mem _ hy))
  eq s v := by
    obtain ⟨_, hA, hB⟩ := nd_parts h.nd
    show fdel st.f (nmE e) s = some v ↔ _
    unfold fdel
    by_cases hs : s = nmE e
    · rw [if_pos hs]
      constructor
      · intro hv; cases hv
      · rintro ⟨y, hy, h1, _⟩
        rcases List.mem_append.1 hy with hy | hy
        · exact absurd (h1.trans hs) (hA y hy)
        · exact absurd (h1.trans hs) (hB y hy)
    · rw [if_neg hs, h.eq]
      constructor
      · rintro ⟨y, hy, h1, h2⟩
        rcases List.mem_append.1 hy with hy | hy
        · exact ⟨y, List.mem_append_left _ hy, h1, h2⟩
        · rcases List.mem_cons.1 hy with rfl | hy
          · exact absurd h1.symm hs
          · exact ⟨y, List.mem_append_right _ hy, h1, h2⟩
      · rintro ⟨y, hy, h1, h2⟩
        rcases List.mem_append.1 hy with hy | hy
        · exact ⟨y, List.mem_append_left _ hy, h1, h2⟩
        · exact ⟨y, List.mem_append_right _ (List.mem_cons_of_mem _ hy), h1, h2⟩
  len := by
    show st.c - 1 = _
    rw [h.len, List.length_append, List.length_append, List.length_cons]
    omega
theorem Rel.put {a b : List S27} {e : S27} {st : WSt} (h : Rel (a ++ e :: b) st) (x : S27) (hx : numsB (nmE x) = x.f0) (hn : nmE x = nmE e) : Rel (a ++ x :: b) ⟨fput st.f (nmE e) x.f1 (ht x.f2), st.c⟩ where
  nd := by
    have := h.nd
    rw [List.map_append, List.map_cons] at this ⊢
    rw [hn]
    exact this
  ok y hy := by
    rcases List.mem_append.1 hy with hy | hy
    · exact h.ok y (List.mem_append_left _ hy)
    · rcases List.mem_cons.1 hy with rfl | hy
      · exact hx
      · exact h.ok y (List.mem_append_right _ (List.mem_cons_of_mem _ hy))
  eq s v := by
    obtain ⟨_, hA, hB⟩ := nd_parts h.nd
    show fput st.f (nmE e) x.f1 (ht x.f2) s = some v ↔ _
    unfold fput
    by_cases hs : s = nmE e
    · rw [if_pos hs]
      constructor
      · intro hv
        exact ⟨x, List.mem_append_right _ (List.mem_cons_self ..), hn.trans hs.symm, Option.some.inj hv⟩
      · rintro ⟨y, hy, h1, h2⟩
        rcases List.mem_append.1 hy with hy | hy
        · exact absurd (h1.trans hs) (hA y hy)
        · rcases List.mem_cons.1 hy with rfl | hy
          · rw [h2]
          · exact absurd (h1.trans hs) (hB y hy)
    · rw [if_neg hs, h.eq]
      constructor
      · rintro ⟨y, hy, h1, h2⟩
        rcases List.mem_append.1 hy with hy | hy
        · exact ⟨y, List.mem_append_left _ hy, h1, h2⟩
        · rcases List.mem_cons.1 hy with rfl | hy
          · exact absurd h1.symm hs
          · exact ⟨y, List.mem_append_right _ (List.mem_cons_of_mem _ hy), h1, h2⟩
      · rintro ⟨y, hy, h1, h2⟩
        rcases List.mem_append.1 hy with hy | hy
        · exact ⟨y, List.mem_append_left _ hy, h1, h2⟩
        · rcases List.mem_cons.1 hy with rfl | hy
          · exact absurd (h1.symm.trans hn) hs
          · exact ⟨y, List.mem_append_right _ (List.mem_cons_of_mem _ hy), h1, h2⟩
  len := by
    show st.c = _
    rw [h.len, List.length_append, List.length_append, List.length_cons, List.length_cons]
theorem rd_mid (a b : List S27) (e : S27) : rd_T27 (a ++ e :: b) ((0 + a.length : Nat) : Int) = e := by
  unfold rd_T27
  rw [Int.toNat_natCast, Nat.zero_add, List.getD_eq_getElem?_getD]
  simp
theorem set_mid (a b : List S27) (e x : S27) : (a ++ e :: b).set ((0 + a.length : Nat) : Int).toNat x = a ++ x :: b := by
  rw [Int.toNat_natCast, Nat.zero_add]
  simp
theorem erase_mid (a b : List S27) (e : S27) : (a ++ e :: b).eraseIdx ((0 + a.length : Nat) : Int).toNat = a ++ b := by
  rw [Int.toNat_natCast, Nat.zero_add, List.eraseIdx_append_of_length_le (Nat.le_refl _)]
  simp
theorem n01 : ¬ (0 : Int) = 1 := by decide
theorem n02 : ¬ (0 : Int) = 2 := by decide
theorem n03 : ¬ (0 : Int) = 3 := by decide
theorem n10 : ¬ (1 : Int) = 0 := by decide
theorem n13 : ¬ (1 : Int) = 3 := by decide
theorem n20 : ¬ (2 : Int) = 0 := by decide
theorem n21 : ¬ (2 : Int) = 1 := by decide
theorem n23 : ¬ (2 : Int) = 3 := by decide
theorem n30 : ¬ (3 : Int) = 0 := by decide
theorem n31 : ¬ (3 : Int) = 1 := by decide
theorem n32 : ¬ (3 : Int) = 2 := by decide
theorem rel_step (l : List S27) (st : WSt) (x : S31) (h : Rel l st) (hx : OkW x) (hk : x.f0 = 0 ∨ x.f0 = 1 ∨ x.f0 = 2 ∨ x.f0 = 3) : Rel (spL l x) (wS st x) ∧ spB l x = wB st x ∧ spE l x = wE st x := by
  have hn : nmE x.f1 = nm x := rfl
  have hxo : numsB (nmE x.f1) = x.f1.f0 := hx.nums
  unfold spL spB spE wS wB wE
  rcases fI_split x.f1.f0 l 0 with ⟨h1, h2⟩ | ⟨a, e, b, rfl, h2, h3, _⟩
  · have hH : spHit l x = false := by unfold spHit; rw [h1]; rfl
    have hD : spDel l x = false := by unfold spDel; rw [hH]; rfl
    have hf : st.f (nm x) = none := h.miss h2
    rw [hH, hD, hf]
    rcases hk with hk | hk | hk | hk
    · have hb : addB st.f (nm x) (ht x.f1.f2) = true := by unfold addB; rw [hf]
      have hc : cput st.f (nm x) st.c = st.c + 1 := by unfold cput; rw [hf]; rfl
      simp only [hk, n03, if_true, if_false, Bool.false_eq_true, addF, addC, hb, hc]
      exact ⟨h.add x.f1 hxo h2, by first | trivial | rfl, by first | trivial | rfl⟩
    · have hc : cdel st.f (nm x) st.c = st.c := by unfold cdel; rw [hf]; rfl
      have hd : fdel st.f (nm x) = st.f := by
        funext k
        unfold fdel
        by_cases hk : k = nm x
        · rw [if_pos hk, hk, hf]
        · rw [if_neg hk]
      simp only [n10, n13, hk, if_true, if_false, true_or, hc, hd, Bool.false_eq_true]
      exact ⟨h, by first | trivial | rfl, by first | trivial | rfl⟩
    · have hb : rtyB st.f (nm x) (ht x.f1.f2) = false := by unfold rtyB; rw [hf]
      simp only [n20, n21, n23, hk, if_true, if_false, or_true, hb, rtyF, rtyC, Bool.false_eq_true]
      exact ⟨h, by first | trivial | rfl, by first | trivial | rfl⟩
    · have e0 : ¬ x.f0 = 0 := by rw [hk]; decide
      simp only [n30, n31, n32, hk, if_true, if_false, or_false, or_self, Bool.false_eq_true]
      exact ⟨h, by first | trivial | rfl, by first | trivial | rfl⟩
  · have hH : spHit (a ++ e :: b) x = true := by unfold spHit; rw [h2]; exact decide_eq_true (by omega)
    have hA : spAt (a ++ e :: b) x = e := by unfold spAt; rw [h2]; exact rd_mid a b e
    have hD : spDel (a ++ e :: b) x = (x.f0 == 1 || e.f2 || !x.f1.f2) := by unfold spDel; rw [hH, hA]; rfl
    have hne : nmE e = nm x := h3
    have hf : st.f (nm x) = some (e.f1, ht e.f2) := (h.eq _ _).2 ⟨e, List.mem_append_right _ (List.mem_cons_self ..), hne, rfl⟩
    have hso : (st.f (nm x)).isSome = true := by rw [hf]; rfl
    have hcd : cdel st.f (nm x) st.c = st.c - 1 := by unfold cdel; rw [if_pos hso]
    have hcp : cput st.f (nm x) st.c = st.c := by unfold cput; rw [if_pos hso]
    have hdel : Rel (a ++ b) ⟨fdel st.f (nm x), st.c - 1⟩ := by rw [← hne]; exact h.del
    have hput : Rel (a ++ x.f1 :: b) ⟨fput st.f (nm x) x.f1.f1 (ht x.f1.f2), st.c⟩ := by rw [← hne]; exact h.put x.f1 hxo (hn.trans hne.symm)
    rw [hH, hA, hD, h2, set_mid, erase_mid]
    rcases hk with hk | hk | hk | hk
    · have hb : addB st.f (nm x) (ht x.f1.f2) = !(x.f1.f2 || !e.f2) := by
        unfold addB
        rw [hf]
        unfold ht
        cases x.f1.f2 <;> cases e.f2 <;> rfl
      simp only [hk, n03, if_true, if_false, addF, addC, hb, hcp]
      refine ⟨?_, by rw [Bool.true_and], by simp⟩
      rcases Bool.eq_false_or_eq_true (x.f1.f2 || !e.f2) with hv | hv
      · simp only [hv, if_true, Bool.not_true, Bool.false_eq_true, if_false]; exact h
      · simp only [hv, if_false, Bool.not_false, Bool.false_eq_true, if_true]; exact hput
    · have e0 : ¬ x.f0 = 0 := by rw [hk]; decide
      simp only [n10, n13, hk, if_true, if_false, true_or, hcd, hso, beq_self_eq_true, Bool.true_or]
      exact ⟨hdel, by first | trivial | rfl, by first | trivial | rfl⟩
    · have e0 : ¬ x.f0 = 0 := by rw [hk]; decide
      have hb : rtyB st.f (nm x) (ht x.f1.f2) = (e.f2 || !x.f1.f2) := by
        unfold rtyB
        rw [hf]
        unfold ht
        cases x.f1.f2 <;> cases e.f2 <;> rfl
      simp only [n20, n21, n23, hk, show ((2 : Int) == 1) = false from rfl, if_true, if_false, or_true, rtyF, rtyC, hb, hcd, Bool.false_or]
      refine ⟨?_, by first | trivial | rfl, by first | trivial | rfl⟩
      rcases Bool.eq_false_or_eq_true (e.f2 || !x.f1.f2) with hv | hv
      · simp only [hv, if_true]; exact hdel
      · simp only [hv, if_false, Bool.false_eq_true]; exact h
    · have e0 : ¬ x.f0 = 0 := by rw [hk]; decide
      simp only [n30, n31, n32, hk, if_true, if_false, or_false, or_self, hso]
      refine ⟨h, trivial, ?_⟩
      rw [hf]
      show e = entS (nm x) (e.f1, ht e.f2)
      unfold entS
      rw [← hne, h.ok e (List.mem_append_right _ (List.mem_cons_self ..))]
      cases e with
      | mk q p u => unfold ht; cases u <;> rfl
end Go.Proofs.YteekkpofcbcikaaDoor.HandWan
end
/- The entries told in the order of names; the runs of both. -/
section
namespace Go.Proofs.YteekkpofcbcikaaDoor.HandWan
open Go Go.RowKit Go.Proofs.YteekkpofcbcikaaDoorL Go.Proofs.YteekkpofcbcikaaDoorW.PrintWords Go.Proofs.YteekkpofcbcikaaDoorW.PrintLast Go.Proofs.YteekkpofcbcikaaDoorW.PrintMore Go.Proofs.YteekkpofcbcikaaDoor.PWan
attribute [local go_sem] max2_int min2_int max_two min_two max_three min_three max_four min_four
set_option linter.unusedVariables false
set_option linter.unusedSimpArgs false
/-! The entries told in the order of names; the runs of both. -/
theorem nmE_bytes (e : S27) : (nmE e).data.toList = Lib.bytesOf e.f0 := rfl
def leE (a b : S27) : Bool := !(decide (cmpI b.f0 a.f0 < 0))
theorem leE_iff (a b : S27) : leE a b = true ↔ (nmE a).data.toList ≤ (nmE b).data.toList := by
  unfold leE
  rw [nmE_bytes, nmE_bytes, Bool.not_eq_true', decide_eq_false_iff_not, cmpI_lt]
  exact List.not_lt
theorem leE_sorted (l : List S27) : (sortE l).Pairwise fun a b => leE a b = true :=
  List.pairwise_mergeSort (le := leE) (fun a b c h1 h2 => (leE_iff _ _).2 (List.le_trans ((leE_iff _ _).1 h1) ((leE_iff _ _).1 h2))) (fun a b => by
    rcases List.le_total (nmE a).data.toList (nmE b).data.toList with h | h
    · rw [(leE_iff _ _).2 h]; rfl
    · rw [(leE_iff b a).2 h, Bool.or_true]) l
theorem data_inj {s t : ByteArray} (h : s.data.toList = t.data.toList) : s = t := by
  cases s; cases t
  simp only [ByteArray.mk.injEq]
  exact Array.ext' h
theorem sortN_sorted (D : List ByteArray) : (sortN D).Pairwise fun s t => s.data.toList ≤ t.data.toList := by
  unfold sortN
  rw [List.pairwise_map]
  have h := List.pairwise_mergeSort (le := leB) (fun a b c h1 h2 => by unfold leB at *; exact decide_eq_true (List.le_trans (of_decide_eq_true h1) (of_decide_eq_true h2))) (fun a b => by
    unfold leB
    rcases List.le_total a b with h | h
    · rw [decide_eq_true h]; rfl
    · rw [decide_eq_true h, Bool.or_true]) (D.map fun s => s.data.toList)
  exact h.imp (fun h => of_decide_eq_true h)
theorem sortN_nodup (D : List ByteArray) (h : D.Nodup) : (sortN D).Nodup := by
  unfold sortN
  show List.Pairwise (· ≠ ·) _
  rw [List.pairwise_map]
  have h1 : (D.map fun s => s.data.toList).Nodup := by
    show List.Pairwise (· ≠ ·) _
    rw [List.pairwise_map]
    exact List.Pairwise.imp (fun hne e => hne (data_inj e)) h
  have h2 : ((D.map fun s => s.data.toList).mergeSort leB).Nodup := h1.perm (List.mergeSort_perm _ _).symm
  exact List.Pairwise.imp (fun hne e => hne (by have := congrArg (fun s : ByteArray => s.data.toList) e; simpa using this)) h2
theorem nm_ent (s : ByteArray) (v : Int × Int) : nmE (entS s v) = s := strOf_numsB s
theorem ent_back (e : S27) (h : numsB (nmE e) = e.f0) : entS (nmE e) (e.f1, ht e.f2) = e := by
  unfold entS
  rw [h]
  cases e with
  | mk q p u => unfold ht; cases u <;> rfl
theorem mem_allF (ns : List ByteArray) (f : WF) (e : S27) : e ∈ allF ns f ↔ ∃ s ∈ ns, ∃ v, f s = some v ∧ entS s v = e := by
  unfold allF
  rw [List.mem_filterMap]
  constructor
  · rintro ⟨s, hs, h⟩
    obtain ⟨v, hv, h2⟩ := Option.map_eq_some_iff.1 h
    exact ⟨s, hs, v, hv, h2⟩
  · rintro ⟨s, hs, v, hv, h2⟩
    exact ⟨s, hs, Option.map_eq_some_iff.2 ⟨v, hv, h2⟩⟩
theorem allF_sort (D : List ByteArray) (hD : D.Nodup) (l : List S27) (st : WSt) (h : Rel l st) (hm : ∀ e ∈ l, nmE e ∈ D) : allF (sortN D) st.f = sortE l := by
  have hin : ∀ e, e ∈ allF (sortN D) st.f ↔ e ∈ l := fun e => by
    rw [mem_allF]
    constructor
    · rintro ⟨s, _, v, hv, rfl⟩
      obtain ⟨e, he, rfl, rfl⟩ := (h.eq s v).1 hv
      rw [ent_back e (h.ok e he)]
      exact he
    · intro he
      exact ⟨nmE e, (sortN_mem _ _).2 (hm e he), _, (h.eq _ _).2 ⟨e, he, rfl, rfl⟩, ent_back e (h.ok e he)⟩
  have hnd : (allF (sortN D) st.f).Nodup := by
    show List.Pairwise (· ≠ ·) _
    unfold allF
    rw [List.pairwise_filterMap]
    refine List.Pairwise.imp (fun {s t} hne b hb b' hb' e => hne ?_) (sortN_nodup D hD)
    obtain ⟨v, _, h1⟩ := Option.map_eq_some_iff.1 hb
    obtain ⟨v', _, h2⟩ := Option.map_eq_some_iff.1 hb'
    rw [← nm_ent s v, ← nm_ent t v', h1, h2, e]
  have hln : l.Nodup := List.Pairwise.imp (fun hne e => hne (by rw [e])) (List.pairwise_map.1 h.nd)
  have hp : List.Perm (allF (sortN D) st.f) (sortE l) := ((List.perm_ext_iff_of_nodup hnd hln).2 hin).trans (List.mergeSort_perm _ _).symm
  refine List.Perm.eq_of_pairwise (le := fun a b => leE a b = true) (fun a b ha hb h1 h2 => ?_) ?_ (leE_sorted l) hp
  · have ha := (hin a).1 ha
    have hb : b ∈ l := (List.mergeSort_perm _ _).mem_iff.1 hb
    have e : nmE a = nmE b := data_inj (List.le_antisymm ((leE_iff _ _).1 h1) ((leE_iff _ _).1 h2))
    have ea := (h.eq (nmE a) _).2 ⟨a, ha, rfl, rfl⟩
    have eb := (h.eq (nmE b) _).2 ⟨b, hb, rfl, rfl⟩
    rw [e, eb] at ea
    rw [← ent_back a (h.ok a ha), ← ent_back b (h.ok b hb), e, Option.some.inj ea]
  · unfold allF
    rw [List.pairwise_filterMap]
    refine List.Pairwise.imp (fun {s t} hle b hb b' hb' => ?_) (sortN_sorted D)
    obtain ⟨v, _, h1⟩ := Option.map_eq_some_iff.1 hb
    obtain ⟨v', _, h2⟩ := Option.map_eq_some_iff.1 hb'
    rw [leE_iff, ← h1, ← h2, nm_ent, nm_ent]
    exact hle
theorem spL_mem (l : List S27) (x : S31) (e : S27) (h : e ∈ spL l x) : e ∈ l ∨ e = x.f1 := by
  unfold spL at h
  split at h
  · split at h
    · split at h
      · exact .inl h
      · exact List.mem_or_eq_of_mem_set h
    · rcases List.mem_append.1 h with h | h
      · exact .inl h
      · exact .inr (List.mem_singleton.1 h)
  · split at h
    · split at h
      · exact .inl (List.mem_of_mem_eraseIdx h)
      · exact .inl h
    · exact .inl h
theorem spL_len (l : List S27) (x : S31) : (spL l x).length ≤ l.length + 1 := by
  unfold spL
  split
  · split
    · split
      · omega
      · rw [List.length_set]; omega
    · rw [List.length_append]; exact Nat.le_refl _
  · split
    · split
      · have := List.length_eraseIdx_le l (fI l x.f1.f0 0).toNat; omega
      · omega
    · omega
theorem run_eq (D : List ByteArray) (hD : D.Nodup) : ∀ (L : List S31) (l : List S27) (st : WSt), Rel l st → (∀ e ∈ l, nmE e ∈ D) → (∀ x ∈ L, OkW x ∧ (x.f0 = 0 ∨ x.f0 = 1 ∨ x.f0 = 2 ∨ x.f0 = 3) ∧ nm x ∈ D) → wRun (sortN D) st L = spRun l L
  | [], l, st, _, _, _ => rfl
  | x :: L, l, st, h, hm, hL => by
    obtain ⟨h1, h2, h3⟩ := hL x (List.mem_cons_self ..)
    obtain ⟨g1, g2, g3⟩ := rel_step l st x h h1 h2
    have hm' : ∀ e ∈ spL l x, nmE e ∈ D := fun e he => by
      rcases spL_mem l x e he with h4 | rfl
      · exact hm e h4
      · exact h3
    show wTold (sortN D) st x :: wRun (sortN D) (wS st x) L = spTold l x :: spRun (spL l x) L
    rw [run_eq D hD L _ _ g1 hm' (fun y hy => hL y (List.mem_cons_of_mem _ hy))]
    unfold wTold spTold
    rw [g2, g3, allF_sort D hD _ _ g1 hm', g1.len]
theorem ded_nodup (L : List S31) : ∀ ns : List ByteArray, ns.Nodup → (L.foldl insN ns).Nodup := by
  induction L with
  | nil => intro ns h; exact h
  | cons x L ih =>
    intro ns h
    rw [List.foldl_cons]
    refine ih _ ?_
    unfold insN
    split
    · exact h
    · next hn =>
      rw [List.nodup_append]
      refine ⟨h, by simp, fun p hp q hq e => hn ?_⟩
      rw [← List.mem_singleton.1 hq, ← e]
      exact hp
theorem ded_keep (L : List S31) : ∀ (ns : List ByteArray) (s : ByteArray), s ∈ ns → s ∈ L.foldl insN ns := by
  induction L with
  | nil => intro ns s h; exact h
  | cons x L ih =>
    intro ns s h
    rw [List.foldl_cons]
    refine ih _ s ?_
    unfold insN
    split
    · exact h
    · exact List.mem_append_left _ h
theorem ded_all (L : List S31) : ∀ (ns : List ByteArray) (x : S31), x ∈ L → nm x ∈ L.foldl insN ns := by
  induction L with
  | nil => intro ns x h; cases h
  | cons y L ih =>
    intro ns x h
    rw [List.foldl_cons]
    rcases List.mem_cons.1 h with rfl | h
    · refine ded_keep L _ _ ?_
      unfold insN
      split
      · assumption
      · exact List.mem_append_right _ (List.mem_singleton.2 rfl)
    · exact ih _ x h
theorem wanted_eq (L : List S31) (hL : ∀ x ∈ L, OkW x ∧ (x.f0 = 0 ∨ x.f0 = 1 ∨ x.f0 = 2 ∨ x.f0 = 3)) : wRun (sortN (ded L)) st0 L = spRun [] L :=
  run_eq (ded L) (ded_nodup L [] List.nodup_nil) L [] st0 rel_start (fun e h => by cases h) (fun x hx => ⟨(hL x hx).1, (hL x hx).2, ded_all L [] x hx⟩)
theorem Rel.of (L : List S31) : ∀ (l : List S27) (st : WSt), Rel l st → (∀ x ∈ L, OkW x ∧ (x.f0 = 0 ∨ x.f0 = 1 ∨ x.f0 = 2 ∨ x.f0 = 3)) → Rel (L.foldl spL l) (L.foldl wS st) := by
  induction L with
  | nil => intro l st h _; exact h
  | cons x L ih =>
    intro l st h hL
    rw [List.foldl_cons, List.foldl_cons]
    obtain ⟨h1, h2⟩ := hL x (List.mem_cons_self ..)
    exact ih _ _ (rel_step l st x h h1 h2).1 (fun y hy => hL y (List.mem_cons_of_mem _ hy))
theorem spRun_snoc (x : S31) (L : List S31) : ∀ l, spRun l (L ++ [x]) = spRun l L ++ [spTold (L.foldl spL l) x] := by
  induction L with
  | nil => intro l; rfl
  | cons y L ih => intro l; show spTold l y :: spRun (spL l y) (L ++ [x]) = _; rw [ih]; rfl
theorem spRun_len (L : List S31) : ∀ l, (spRun l L).length = L.length := by
  induction L with
  | nil => intro l; rfl
  | cons y L ih => intro l; show (spRun (spL l y) L).length + 1 = _; rw [ih]; rfl
/-- No two names in a list that tells a map are the same. -/
theorem Rel.apart {l : List S27} {st : WSt} (h : Rel l st) (i j : Fin l.length) (e : Lib.bytesOf l[i.val].f0 = Lib.bytesOf l[j.val].f0) : i = j := by
  have e : nmE l[i.val] = nmE l[j.val] := data_inj e
  have hnd := h.nd
  rw [List.Nodup, List.pairwise_iff_getElem] at hnd
  apply Fin.ext
  rcases Nat.lt_trichotomy i.val j.val with hlt | he | hlt
  · exact absurd (by simpa using e) (hnd i.val j.val (by simp) (by simp) hlt)
  · exact he
  · exact absurd (by simpa using e.symm) (hnd j.val i.val (by simp) (by simp) hlt)
end Go.Proofs.YteekkpofcbcikaaDoor.HandWan
end
