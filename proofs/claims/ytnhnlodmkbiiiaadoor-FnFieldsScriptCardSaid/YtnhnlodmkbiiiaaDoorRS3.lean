/- What the law FnFieldsScript holds while it goes through the edits. Plain lists and numbers. -/
import Derived.Test.YtnhnlodmkbiiiaaDoorRS1
import Derived.Test.YtnhnlodmkbiiiaaDoorRS2
namespace Go.Proofs.YtnhnlodmkbiiiaaDoor.HandFields
open Go Go.RowKit Go.Proofs.YtnhnlodmkbiiiaaDoorL Go.Proofs.YtnhnlodmkbiiiaaDoorW.PrintWords Go.Proofs.YtnhnlodmkbiiiaaDoorW.PrintLast Go.Proofs.YtnhnlodmkbiiiaaDoorW.PrintMore Go.Proofs.YtnhnlodmkbiiiaaDoor.PFieldsBase Go.Proofs.YtnhnlodmkbiiiaaDoor.PScr
attribute [local go_sem] max2_int min2_int max_two min_two max_three min_three max_four min_four
set_option linter.unusedVariables false
set_option linter.unusedSimpArgs false
/-- What the law holds while it goes through the edits. -/
structure LS where
 st : List S65
 sz : List Int
 da : List Int
 sum : Nat
 has : Bool
/-- Where a size is taken out. -/
def lix (i : Int) (n : Nat) : Nat := (IntKind.u64.wrap i).toNat % n
def lstep (s : LS) (x : S65) : LS :=
 if x.f0 = 0 then ⟨s.st ++ [x], s.sz, x.f1, s.sum + x.f1.length - s.da.length, true⟩
 else if x.f0 = 1 then ⟨s.st ++ [x], s.sz ++ [x.f2], s.da, s.sum + x.f2.toNat, s.has⟩
 else if x.f0 = 2 then (if s.sz = [] then s else ⟨s.st ++ [⟨2, x.f1, x.f2, (lix x.f3 s.sz.length : Int)⟩], s.sz.eraseIdx (lix x.f3 s.sz.length), s.da, s.sum - (rd s.sz (lix x.f3 s.sz.length : Int)).toNat, s.has⟩)
 else if x.f0 = 3 then ⟨s.st ++ [x], [], s.da, s.da.length, s.has⟩
 else if x.f0 = 4 then ⟨s.st ++ [x], s.sz, s.da, s.sum + x.f2.toNat, s.has⟩
 else s
def lsum (l : List Int) : Nat := l.foldr (fun x n => x.toNat + n) 0
theorem lsum_nil : lsum [] = 0 := rfl
theorem lsum_cons (x : Int) (l : List Int) : lsum (x :: l) = x.toNat + lsum l := rfl
theorem lsum_append (a b : List Int) : lsum (a ++ b) = lsum a + lsum b := by
 induction a with
 | nil => simp [lsum_nil]
 | cons x a ih => rw [List.cons_append, lsum_cons, lsum_cons, ih]; omega
theorem lsum_erase : ∀ (l : List Int) (i : Nat), i < l.length → lsum l = lsum (l.eraseIdx i) + (rd l (i : Int)).toNat
 | [], i, h => by simp at h
 | x :: l, 0, _ => by
  rw [List.eraseIdx_zero, List.tail_cons, lsum_cons]
  have : rd (x :: l) ((0 : Nat) : Int) = x := rfl
  rw [this]; omega
 | x :: l, i + 1, h => by
  rw [List.eraseIdx_cons_succ, lsum_cons, lsum_cons, lsum_erase l i (by simp at h; omega)]
  have : rd (x :: l) ((i + 1 : Nat) : Int) = rd l (i : Int) := by unfold rd; rw [Int.toNat_natCast, Int.toNat_natCast, List.getD_cons_succ]
  rw [this]; omega
/-- What holds while the law goes through the edits. -/
structure LI (k : Nat) (s : LS) (j : Nat) : Prop where
 ed : edits ⟨k, none, some 0, []⟩ s.st = ⟨k, if s.has = true then some s.da else none, some s.sum, s.sz⟩
 no : s.has = false → s.da = []
 lo : s.da.length + lsum s.sz ≤ s.sum
 hi : s.sum ≤ j * 1125899906842624
 st : s.st.length ≤ j
 sz : s.sz.length ≤ j
 da : s.da.length ≤ 100
 szb : ∀ x ∈ s.sz, 0 ≤ x ∧ x < 1125899906842624
 dab : ∀ x ∈ s.da, (0 : Int) ≤ x ∧ x ≤ 255
 ok : ∀ x ∈ s.st, OkE x
/-- An edit that the law lets in. -/
structure OkL (x : S65) : Prop where
 d : x.f1.length ≤ 100
 s0 : 0 ≤ x.f2
 s1 : x.f2 < 1125899906842624
 b : ∀ y ∈ x.f1, (0 : Int) ≤ y ∧ y ≤ 255
theorem newSz_add (n : Nat) (y : Int) (m : Nat) (hn : n < 4611686018427387904) (hm : (n : Int) + y = (m : Int)) (hmb : m < 4611686018427387904) : newSz (some n) y = m := by
 unfold newSz
 rw [Option.getD_some]
 have e1 : wrap64 (n : Int) = (n : Int) := by unfold wrap64; omega
 have e2 : wrap64 ((n : Int) + y) = (m : Int) := by rw [hm]; unfold wrap64; omega
 rw [e1, e2, words_u64 _ (by omega) (by omega), Int.toNat_natCast]
theorem edits_snoc (d : Dat) (l : List S65) (x : S65) : edits d (l ++ [x]) = edit (edits d l) x := by
 unfold edits; rw [List.foldl_append]; rfl
theorem getD_if (b : Bool) (da : List Int) (h : b = false → da = []) : ((if b = true then some da else none : Option (List Int)).getD []) = da := by
 cases b with
 | true => rfl
 | false => rw [h rfl]; rfl
theorem w64i (z : Int) (h0 : -4611686018427387904 ≤ z) (h1 : z < 9223372036854775808) : wrap64 z = z := by unfold wrap64; omega
theorem lix_lt (i : Int) (n : Nat) (h : 0 < n) : lix i n < n := Nat.mod_lt _ h
theorem LI.start (k : Nat) : LI k ⟨[], [], [], 0, false⟩ 0 := ⟨rfl, fun _ => rfl, Nat.le_refl _, Nat.le_refl _, Nat.le_refl _, Nat.le_refl _, Nat.zero_le _, fun _ h => (by cases h), fun _ h => (by cases h), fun _ h => (by cases h)⟩
set_option maxRecDepth 100000 in
theorem LI.step {k : Nat} {s : LS} {j : Nat} (h : LI k s j) (hj : j < 1000) {x : S65} (hx : OkL x) : LI k (lstep s x) (j + 1) := by
 obtain ⟨ed, no, lo, hi, st, sz, da, szb, dab, ok⟩ := h
 obtain ⟨st0, sz0, da0, sum0, has0⟩ := s
 obtain ⟨a, xs, z, ix⟩ := x
 obtain ⟨hd, hs0, hs1, hb⟩ := hx
 dsimp only at ed no lo hi st sz da szb dab ok hd hs0 hs1 hb
 have okx : ∀ (a ix : Int), ∀ y ∈ st0 ++ [(⟨a, xs, z, ix⟩ : S65)], OkE y := fun a ix y hy => by
  rcases List.mem_append.1 hy with hy | hy
  ·exact ok y hy
  ·obtain rfl := List.mem_singleton.1 hy
   exact ⟨hd, hs0, by show z < _; omega⟩
 have ln : ∀ (a ix : Int), (st0 ++ [(⟨a, xs, z, ix⟩ : S65)]).length ≤ j + 1 := fun a ix => by rw [List.length_append, List.length_singleton]; omega
 have hi' : sum0 + 1125899906842624 ≤ (j + 1) * 1125899906842624 := by rw [Nat.succ_mul]; omega
 have hsb : sum0 < 2305843009213693952 := by
  have : j * 1125899906842624 ≤ 1000 * 1125899906842624 := Nat.mul_le_mul_right _ (by omega)
  omega
 have hg := getD_if has0 da0 no
 unfold lstep
 split
 ·next h0 =>
  dsimp only at h0
  subst h0
  refine ⟨?_, fun h => (by cases h), by show xs.length + lsum sz0 ≤ sum0 + xs.length - da0.length; omega, by show sum0 + xs.length - da0.length ≤ _; omega, ln _ _, Nat.le_succ_of_le sz, hd, szb, hb, okx _ _⟩
  show edits _ (st0 ++ [_]) = _
  rw [edits_snoc, ed, edit_0]
  dsimp only
  rw [hg, w64i _ (by omega) (by omega), newSz_add sum0 _ (sum0 + xs.length - da0.length) (by omega) (by omega) (by omega)]
  rfl
 split
 ·next h0 =>
  dsimp only at h0
  subst h0
  refine ⟨?_, no, ?_, by show sum0 + z.toNat ≤ _; omega, ln _ _, ?_, da, ?_, dab, okx _ _⟩
  ·show edits _ (st0 ++ [_]) = _
   rw [edits_snoc, ed, edit_1]
   dsimp only
   rw [w64i _ (by omega) (by omega), newSz_add sum0 _ (sum0 + z.toNat) (by omega) (by omega) (by omega)]
  ·show da0.length + lsum (sz0 ++ [z]) ≤ sum0 + z.toNat
   rw [lsum_append, lsum_cons, lsum_nil]; omega
  ·show (sz0 ++ [z]).length ≤ _
   rw [List.length_append, List.length_singleton]; omega
  ·intro y hy
   rcases List.mem_append.1 hy with hy | hy
   ·exact szb y hy
   ·obtain rfl := List.mem_singleton.1 hy
    exact ⟨hs0, hs1⟩
 split
 ·next h0 =>
  dsimp only at h0
  subst h0
  split
  ·exact ⟨ed, no, lo, Nat.le_trans (Nat.le_add_right _ _) hi', Nat.le_succ_of_le st, Nat.le_succ_of_le sz, da, szb, dab, ok⟩
  ·next hne =>
   have hp : 0 < sz0.length := List.length_pos_iff.2 hne
   have hlt := lix_lt ix sz0.length hp
   have her := lsum_erase sz0 (lix ix sz0.length) hlt
   have hy := szb (rd sz0 (lix ix sz0.length : Int)) (rd_mem hlt)
   refine ⟨?_, no, ?_, Nat.le_trans (Nat.sub_le _ _) (Nat.le_trans (Nat.le_add_right _ _) hi'), ln _ _, ?_, da, fun y hy => szb y (mem_erase hy), dab, okx _ _⟩
   ·obtain ⟨m, hm⟩ : ∃ m, m = lix ix sz0.length := ⟨_, rfl⟩
    change edits _ (st0 ++ [⟨2, xs, z, (lix ix sz0.length : Int)⟩]) = ⟨k, _, some (sum0 - (rd sz0 (lix ix sz0.length : Int)).toNat), sz0.eraseIdx (lix ix sz0.length)⟩
    rw [← hm] at hlt her hy ⊢
    rw [edits_snoc, ed, edit_2 _ _ _ _ ⟨Int.natCast_nonneg m, Int.ofNat_lt.2 hlt⟩]
    dsimp only
    rw [Int.toNat_natCast, w64i (rd sz0 (m : Int)) (by omega) (by omega), w64i (-(rd sz0 (m : Int))) (by omega) (by omega), newSz_add sum0 _ (sum0 - (rd sz0 (m : Int)).toNat) (by omega) (by omega) (by omega)]
   ·show da0.length + lsum (sz0.eraseIdx (lix ix sz0.length)) ≤ sum0 - (rd sz0 (lix ix sz0.length : Int)).toNat
    omega
   ·have : (sz0.eraseIdx (lix ix sz0.length)).length ≤ sz0.length := List.length_eraseIdx_le ..
    show (sz0.eraseIdx (lix ix sz0.length)).length ≤ _
    omega
 split
 ·next h0 =>
  dsimp only at h0
  subst h0
  refine ⟨?_, no, by show da0.length + lsum [] ≤ da0.length; rw [lsum_nil]; omega, by show da0.length ≤ _; omega, ln _ _, Nat.zero_le _, da, fun y hy => (by cases hy), dab, okx _ _⟩
  show edits _ (st0 ++ [_]) = _
  rw [edits_snoc, ed, edit_3]
  dsimp only
  rw [hg]
 split
 ·next h0 =>
  dsimp only at h0
  subst h0
  refine ⟨?_, no, by show da0.length + lsum sz0 ≤ sum0 + z.toNat; omega, by show sum0 + z.toNat ≤ _; omega, ln _ _, Nat.le_succ_of_le sz, da, szb, dab, okx _ _⟩
  show edits _ (st0 ++ [_]) = _
  rw [edits_snoc, ed, edit_4]
  dsimp only
  rw [w64i _ (by omega) (by omega), newSz_add sum0 _ (sum0 + z.toNat) (by omega) (by omega) (by omega)]
 ·exact ⟨ed, no, lo, Nat.le_trans (Nat.le_add_right _ _) hi', Nat.le_succ_of_le st, Nat.le_succ_of_le sz, da, szb, dab, ok⟩
def lrun (l : List S65) : LS := l.foldl lstep ⟨[], [], [], 0, false⟩
theorem lrun_next (l : List S65) (j : Nat) (hj : j < l.length) : lrun (l.take (j + 1)) = lstep (lrun (l.take j)) (rd_T65 l (j : Int)) := by
 unfold lrun
 rw [List.take_succ_eq_append_getElem hj, List.foldl_append, rdT_eq l j hj]
 rfl
end Go.Proofs.YtnhnlodmkbiiiaaDoor.HandFields
