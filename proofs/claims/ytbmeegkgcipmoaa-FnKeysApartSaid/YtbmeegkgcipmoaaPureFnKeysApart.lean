/- FnKeysApart: different bytes have different keys, and the key of n bytes has 1 + (8 n + 4) / 5 characters. -/
import Derived.Test.YtbmeegkgcipmoaaPFnKeysApartx3
import Derived.Test.YtbmeegkgcipmoaaB32b
import Derived.Test.YtbmeegkgcipmoaaB32c
namespace Go.Proofs.Ytbmeegkgcipmoaa.Pure
open Go.RowKit Go.Proofs.YtbmeegkgcipmoaaL Go.Proofs.Ytbmeegkgcipmoaa.PFnKeysApart Go.Proofs.YtbmeegkgcipmoaaW.PrintWords Go.Proofs.YtbmeegkgcipmoaaW.PrintLast Go.Proofs.YtbmeegkgcipmoaaW.PrintMore

theorem wf_u8 {x : Int} (h : (Lit.int .u8 x).wf = true) : 0 ≤ x ∧ x ≤ 255 := by
  have h1 : IntKind.u8.min = 0 := rfl
  have h2 : IntKind.u8.max = 255 := rfl
  simp [Lit.wf, h1, h2] at h
  omega
def IsB (l : List Int) : Prop := ∀ x ∈ l, 0 ≤ x ∧ x ≤ 255
theorem isB_rd {l : List Int} (h : IsB l) (i : Int) : 0 ≤ rd l i ∧ rd l i ≤ 255 := by
  unfold rd
  by_cases hi : i.toNat < l.length
  · rw [List.getD_eq_getElem?_getD, List.getElem?_eq_getElem hi]
    exact h _ (List.getElem_mem hi)
  · rw [List.getD_eq_getElem?_getD, List.getElem?_eq_none (by omega)]; simp
theorem isB_drop {l : List Int} (h : IsB l) (n : Nat) : IsB (l.drop n) := fun x hx => h x (List.mem_of_mem_drop hx)
theorem alpha_inj_nat : ∀ x y : Fin 32, bt alpha_ (x.val : Int) = bt alpha_ (y.val : Int) → x = y := by decide +kernel
theorem alpha_inj {x y : Int} (hx : 0 ≤ x ∧ x < 32) (hy : 0 ≤ y ∧ y < 32) (h : bt alpha_ x = bt alpha_ y) : x = y := by
  obtain ⟨a, rfl⟩ := Int.eq_ofNat_of_zero_le hx.1
  obtain ⟨b, rfl⟩ := Int.eq_ofNat_of_zero_le hy.1
  have := alpha_inj_nat ⟨a, by omega⟩ ⟨b, by omega⟩ h
  injection this with this
  rw [this]
theorem alpha_ne_nat : ∀ x : Fin 32, ¬ bt alpha_ (x.val : Int) = 47 := by decide +kernel
theorem alpha_ne {x : Int} (hx : 0 ≤ x ∧ x < 32) : ¬ bt alpha_ x = 47 := by
  obtain ⟨a, rfl⟩ := Int.eq_ofNat_of_zero_le hx.1
  exact alpha_ne_nat ⟨a, by omega⟩
/-- A digit's character. -/
def IsD (y : Int) : Prop := ∃ d : Int, 0 ≤ d ∧ d < 32 ∧ y = bt alpha_ d
theorem encB_d {r : List Int} (h : IsB r) : ∀ y ∈ encB r, IsD y := by
  have h0 := isB_rd h 0
  have h1 := isB_rd h 1
  have h2 := isB_rd h 2
  have h3 := isB_rd h 3
  have h4 := isB_rd h 4
  intro y hy
  simp only [encB, List.mem_cons, List.not_mem_nil, or_false] at hy
  rcases hy with rfl | rfl | rfl | rfl | rfl | rfl | rfl | rfl <;> exact ⟨_, by omega, by omega, rfl⟩
theorem encT_d {r : List Int} (h : IsB r) : ∀ y ∈ encT r, IsD y := by
  have h0 := isB_rd h 0
  have h1 := isB_rd h 1
  have h2 := isB_rd h 2
  have h3 := isB_rd h 3
  intro y hy
  unfold encT at hy
  split at hy
  · simp only [List.mem_cons, List.not_mem_nil, or_false] at hy
    rcases hy with rfl | rfl | rfl | rfl | rfl | rfl | rfl <;> exact ⟨_, by omega, by omega, rfl⟩
  split at hy
  · simp only [List.mem_cons, List.not_mem_nil, or_false] at hy
    rcases hy with rfl | rfl | rfl | rfl | rfl <;> exact ⟨_, by omega, by omega, rfl⟩
  split at hy
  · simp only [List.mem_cons, List.not_mem_nil, or_false] at hy
    rcases hy with rfl | rfl | rfl | rfl <;> exact ⟨_, by omega, by omega, rfl⟩
  split at hy
  · simp only [List.mem_cons, List.not_mem_nil, or_false] at hy
    rcases hy with rfl | rfl <;> exact ⟨_, by omega, by omega, rfl⟩
  · simp at hy
theorem enc32_d : ∀ (n : Nat) (r : List Int), r.length ≤ n → IsB r → ∀ y ∈ enc32_ r, IsD y
  | n, r, h, hB => by
    by_cases h4 : 4 < r.length
    · match n with
      | 0 => omega
      | n + 1 =>
        rw [enc32_more h4]
        intro y hy
        rcases List.mem_append.1 hy with hy | hy
        · exact encB_d hB y hy
        · exact enc32_d n (r.drop 5) (by rw [List.length_drop]; omega) (isB_drop hB 5) y hy
    · rw [enc32_tail h4]
      exact encT_d hB
theorem rd_cons0 (a : Int) (l : List Int) : rd (a :: l) 0 = a := rfl
theorem rd_cons1 (a b : Int) (l : List Int) : rd (a :: b :: l) 1 = b := rfl
theorem rd_cons2 (a b c : Int) (l : List Int) : rd (a :: b :: c :: l) 2 = c := rfl
theorem rd_cons3 (a b c d : Int) (l : List Int) : rd (a :: b :: c :: d :: l) 3 = d := rfl
theorem rd_cons4 (a b c d e : Int) (l : List Int) : rd (a :: b :: c :: d :: e :: l) 4 = e := rfl
theorem encB_inj {r s : List Int} (hr : 4 < r.length) (hs : 4 < s.length) (hB : IsB r) (hC : IsB s) (h : encB r = encB s) : r.take 5 = s.take 5 := by
  match r, s with
  | a :: b :: c :: d :: e :: r, a' :: b' :: c' :: d' :: e' :: s =>
    have h0 := hB a (by simp)
    have h1 := hB b (by simp)
    have h2 := hB c (by simp)
    have h3 := hB d (by simp)
    have h4 := hB e (by simp)
    have k0 := hC a' (by simp)
    have k1 := hC b' (by simp)
    have k2 := hC c' (by simp)
    have k3 := hC d' (by simp)
    have k4 := hC e' (by simp)
    simp only [encB, rd_cons0, rd_cons1, rd_cons2, rd_cons3, rd_cons4, List.cons.injEq, and_true] at h
    obtain ⟨e0, e1, e2, e3, e4, e5, e6, e7⟩ := h
    have e0 := alpha_inj (by omega) (by omega) e0
    have e1 := alpha_inj (by omega) (by omega) e1
    have e2 := alpha_inj (by omega) (by omega) e2
    have e3 := alpha_inj (by omega) (by omega) e3
    have e4 := alpha_inj (by omega) (by omega) e4
    have e5 := alpha_inj (by omega) (by omega) e5
    have e6 := alpha_inj (by omega) (by omega) e6
    have e7 := alpha_inj (by omega) (by omega) e7
    simp only [List.take_succ_cons, List.take_zero, List.cons.injEq, and_true]
    omega
theorem encT_inj {r s : List Int} (hr : ¬ 4 < r.length) (hl : r.length = s.length) (hB : IsB r) (hC : IsB s) (h : encT r = encT s) : r = s := by
  match r, s with
  | [], [] => rfl
  | [a], [a'] =>
    have h0 := hB a (by simp)
    have k0 := hC a' (by simp)
    simp only [encT, List.length_cons, List.length_nil, Nat.zero_add, Nat.reduceEqDiff, ↓reduceIte, rd_cons0, List.cons.injEq, and_true] at h
    obtain ⟨e0, e1⟩ := h
    have e0 := alpha_inj (by omega) (by omega) e0
    have e1 := alpha_inj (by omega) (by omega) e1
    simp only [List.cons.injEq, and_true]
    omega
  | [a, b], [a', b'] =>
    have h0 := hB a (by simp)
    have h1 := hB b (by simp)
    have k0 := hC a' (by simp)
    have k1 := hC b' (by simp)
    simp only [encT, List.length_cons, List.length_nil, Nat.zero_add, Nat.reduceAdd, Nat.reduceEqDiff, ↓reduceIte, rd_cons0, rd_cons1, List.cons.injEq, and_true] at h
    obtain ⟨e0, e1, e2, e3⟩ := h
    have e0 := alpha_inj (by omega) (by omega) e0
    have e1 := alpha_inj (by omega) (by omega) e1
    have e2 := alpha_inj (by omega) (by omega) e2
    have e3 := alpha_inj (by omega) (by omega) e3
    simp only [List.cons.injEq, and_true]
    omega
  | [a, b, c], [a', b', c'] =>
    have h0 := hB a (by simp)
    have h1 := hB b (by simp)
    have h2 := hB c (by simp)
    have k0 := hC a' (by simp)
    have k1 := hC b' (by simp)
    have k2 := hC c' (by simp)
    simp only [encT, List.length_cons, List.length_nil, Nat.zero_add, Nat.reduceAdd, Nat.reduceEqDiff, ↓reduceIte, rd_cons0, rd_cons1, rd_cons2, List.cons.injEq, and_true] at h
    obtain ⟨e0, e1, e2, e3, e4⟩ := h
    have e0 := alpha_inj (by omega) (by omega) e0
    have e1 := alpha_inj (by omega) (by omega) e1
    have e2 := alpha_inj (by omega) (by omega) e2
    have e3 := alpha_inj (by omega) (by omega) e3
    have e4 := alpha_inj (by omega) (by omega) e4
    simp only [List.cons.injEq, and_true]
    omega
  | [a, b, c, d], [a', b', c', d'] =>
    have h0 := hB a (by simp)
    have h1 := hB b (by simp)
    have h2 := hB c (by simp)
    have h3 := hB d (by simp)
    have k0 := hC a' (by simp)
    have k1 := hC b' (by simp)
    have k2 := hC c' (by simp)
    have k3 := hC d' (by simp)
    simp only [encT, List.length_cons, List.length_nil, Nat.zero_add, Nat.reduceAdd, ↓reduceIte, rd_cons0, rd_cons1, rd_cons2, rd_cons3, List.cons.injEq, and_true] at h
    obtain ⟨e0, e1, e2, e3, e4, e5, e6⟩ := h
    have e0 := alpha_inj (by omega) (by omega) e0
    have e1 := alpha_inj (by omega) (by omega) e1
    have e2 := alpha_inj (by omega) (by omega) e2
    have e3 := alpha_inj (by omega) (by omega) e3
    have e4 := alpha_inj (by omega) (by omega) e4
    have e5 := alpha_inj (by omega) (by omega) e5
    have e6 := alpha_inj (by omega) (by omega) e6
    simp only [List.cons.injEq, and_true]
    omega
  | _ :: _ :: _ :: _ :: _ :: _, _ => simp at hr
theorem enc32_inj : ∀ (n : Nat) (r s : List Int), r.length ≤ n → r.length = s.length → IsB r → IsB s → enc32_ r = enc32_ s → r = s
  | n, r, s, hn, hl, hB, hC, h => by
    by_cases h4 : 4 < r.length
    · match n with
      | 0 => omega
      | n + 1 =>
        rw [enc32_more h4, enc32_more (r := s) (by omega)] at h
        have h1 := List.append_inj h rfl
        have h2 := encB_inj h4 (by omega) hB hC h1.1
        have h3 := enc32_inj n (r.drop 5) (s.drop 5) (by rw [List.length_drop]; omega) (by rw [List.length_drop, List.length_drop]; omega) (isB_drop hB 5) (isB_drop hC 5) h1.2
        rw [← List.take_append_drop 5 r, ← List.take_append_drop 5 s, h2, h3]
    · rw [enc32_tail h4, enc32_tail (r := s) (by omega)] at h
      exact encT_inj h4 hl hB hC h
/-- The key's text. -/
def keyT (l : List Int) : List Int := 47 :: enc32_ l
theorem keyT_B {l : List Int} (h : IsB l) : IsB (keyT l) := by
  intro x hx
  rcases List.mem_cons.1 hx with rfl | hx
  · omega
  · obtain ⟨d, _, _, rfl⟩ := enc32_d _ l (Nat.le_refl _) h x hx
    exact bt_range _ _
theorem size_strOf (l : List Int) : (strOfNums l).size = l.length := by simp [strOfNums, ByteArray.size]
theorem toList_strOf (l : List Int) : (strOfNums l).toList = l.map fun n => UInt8.ofNat n.toNat := by
  rw [Go.ByteArray.toList_eq]
  simp [strOfNums]
theorem map_inj {l m : List Int} (hl : IsB l) (hm : IsB m) (h : (l.map fun n => UInt8.ofNat n.toNat) = m.map fun n => UInt8.ofNat n.toNat) : l = m := by
  induction l generalizing m with
  | nil => cases m with
    | nil => rfl
    | cons => simp at h
  | cons a l ih => cases m with
    | nil => simp at h
    | cons b m =>
      simp only [List.map_cons, List.cons.injEq] at h
      have ha := hl a (by simp)
      have hb := hm b (by simp)
      have e : a = b := by
        have := congrArg UInt8.toNat h.1
        rw [UInt8.toNat_ofNat', UInt8.toNat_ofNat', Nat.mod_eq_of_lt (by omega), Nat.mod_eq_of_lt (by omega)] at this
        omega
      rw [e, ih (fun x hx => hl x (by simp [hx])) (fun x hx => hm x (by simp [hx])) h.2]
theorem bt_strOf {l : List Int} (hl : IsB l) (i : Nat) (hi : i < l.length) : bt (strOfNums l) (i : Int) = rd l (i : Int) := by
  unfold bt rd
  have hs : (i : Int).toNat < (strOfNums l).size := by rw [size_strOf, Int.toNat_natCast]; exact hi
  rw [dif_pos hs]
  simp only [Int.toNat_natCast]
  have e : (strOfNums l)[i]'(by rw [size_strOf]; exact hi) = UInt8.ofNat (l[i]).toNat := by simp [strOfNums, ByteArray.getElem_eq_getElem_data]
  rw [e, List.getD_eq_getElem?_getD, List.getElem?_eq_getElem hi, UInt8.toNat_ofNat', Option.getD_some]
  have := hl _ (List.getElem_mem hi)
  rw [Nat.mod_eq_of_lt (by omega)]
  omega
theorem RawKey_eq {l : List Int} (hB : IsB l) (hl : l.length ≤ 100) : godatastore_RawKey.f (strOfNums (keyT l)) = some (strOfNums (keyT l)) := by
  have hs : (strOfNums (keyT l)).size = 1 + (8 * l.length + 4) / 5 := by
    rw [size_strOf, keyT, List.length_cons, enc32_len _ _ (Nat.le_refl _)]; omega
  have hw : wrap64 (((strOfNums (keyT l)).size : Int) - 1) = (((8 * l.length + 4) / 5 : Nat) : Int) := by
    rw [hs, wrap64_id' (by omega) (by omega)]; omega
  have hkl : (keyT l).length = 1 + (8 * l.length + 4) / 5 := by rw [← size_strOf, hs]
  unfold godatastore_RawKey.f
  rw [if_neg (by omega), if_pos (by omega), if_pos (by rw [show (0 : Int) = ((0 : Nat) : Int) from rfl, bt_strOf (keyT_B hB) 0 (by omega)]; rfl)]
  by_cases h1 : ((strOfNums (keyT l)).size : Int) > 1
  · rw [if_pos h1, hw, if_pos (by omega), if_pos (by omega), if_neg]
    rw [bt_strOf (keyT_B hB) _ (by omega)]
    have hpos : 0 < (8 * l.length + 4) / 5 := by omega
    have hm : rd (keyT l) (((8 * l.length + 4) / 5 : Nat) : Int) ∈ enc32_ l := by
      unfold rd
      rw [Int.toNat_natCast, List.getD_eq_getElem?_getD, List.getElem?_eq_getElem (by omega), Option.getD_some]
      obtain ⟨j, hj⟩ : ∃ j, (8 * l.length + 4) / 5 = j + 1 := ⟨(8 * l.length + 4) / 5 - 1, by omega⟩
      simp only [keyT, hj, List.getElem_cons_succ]
      exact List.getElem_mem _
    obtain ⟨d, h0, h1, e⟩ := enc32_d _ l (Nat.le_refl _) hB _ hm
    rw [e]
    exact alpha_ne ⟨h0, h1⟩
  · rw [if_neg h1]
theorem KeyOf_eq {l : List Int} (hB : IsB l) (hl : l.length ≤ 100) : impl_KeyOf.f l = some (strOfNums (keyT l)) := by
  unfold impl_KeyOf.f bytes_Clone.f dshelp_NewKeyFromBinary.f godatastore_Key_String.f
  rw [if_pos (by omega), Option.bind_some, if_pos ⟨List.all_eq_true.mpr (fun x hx => by have := hB x hx; simp [this]), hl⟩]
  show ((godatastore_RawKey.f (strOfNums (keyT l))).bind _) = _
  rw [RawKey_eq hB hl, Option.bind_some, Option.bind_some]
theorem keysLive_eq : laws_keysLive.f = some true := by
  unfold laws_keysLive.f
  rw [KeyOf_eq (l := [255]) (fun x hx => by simp at hx; omega) (by decide), Option.bind_some]
  decide +kernel
theorem FnKeysApart : laws_FnKeysApart.Pure := by
  intro l0 l1 _ h0 hw0 _ h1 hw1
  have hB0 : IsB l0 := fun x hx => wf_u8 (hw0 x hx)
  have hB1 : IsB l1 := fun x hx => wf_u8 (hw1 x hx)
  refine ⟨5, ?_⟩
  have live : ∀ k, laws_FnKeysApart.j1 (k + 1) l0 l1 true = some true := fun k => by
    rw [laws_FnKeysApart.j1, if_pos rfl, keysLive_eq, Option.bind_some]
  unfold laws_FnKeysApart.f
  by_cases c1 : (l0.length : Int) > 2147483647
  · rw [if_pos c1, laws_FnKeysApart.j0, if_pos rfl]
  rw [if_neg c1]
  by_cases c2 : (l1.length : Int) > 2147483647
  · rw [decide_eq_true c2, laws_FnKeysApart.j0, if_pos rfl]
  rw [decide_eq_false c2, laws_FnKeysApart.j0, if_neg (by simp)]
  by_cases c3 : (l0.length : Int) > 60
  · rw [if_pos c3, live]
  rw [if_neg c3]
  by_cases c4 : (l1.length : Int) > 60
  · rw [decide_eq_true c4, live]
  rw [decide_eq_false c4, laws_FnKeysApart.j1, if_neg (by simp)]
  unfold bytes_Clone.f bytes_Equal.f
  rw [if_pos (by omega), Option.bind_some, KeyOf_eq hB0 (by omega), Option.bind_some, if_pos (by omega), Option.bind_some, KeyOf_eq hB1 (by omega), Option.bind_some, Option.bind_some, keysLive_eq, Option.bind_some]
  rw [if_pos, if_pos]
  · rw [size_strOf, keyT, List.length_cons, enc32_len _ _ (Nat.le_refl _)]
    have h1 : wrap64 (8 * (l0.length : Int)) = 8 * (l0.length : Int) := wrap64_id' (by omega) (by omega)
    have h2 : wrap64 (8 * (l0.length : Int) + 4) = 8 * (l0.length : Int) + 4 := wrap64_id' (by omega) (by omega)
    rw [h1, h2, Int.tdiv_eq_ediv_of_nonneg (by omega), wrap64_id' (x := (8 * (l0.length : Int) + 4) / 5) (by omega) (by omega), wrap64_id' (by omega) (by omega)]
    omega
  · rw [toList_strOf, toList_strOf, toList_strOf, toList_strOf]
    by_cases e : l0 = l1
    · subst e
      simp
    · have e1 : ¬ (List.map (fun n => UInt8.ofNat n.toNat) l0 = List.map (fun n => UInt8.ofNat n.toNat) l1) := fun h => e (map_inj hB0 hB1 h)
      have e2 : ¬ (List.map (fun n => UInt8.ofNat n.toNat) (keyT l0) = List.map (fun n => UInt8.ofNat n.toNat) (keyT l1)) := fun h => by
        have h3 := map_inj (keyT_B hB0) (keyT_B hB1) h
        have h4 : enc32_ l0 = enc32_ l1 := by
          unfold keyT at h3
          injection h3
        have h5 : l0.length = l1.length := by
          have := congrArg List.length h4
          rw [enc32_len _ _ (Nat.le_refl _), enc32_len _ _ (Nat.le_refl _)] at this
          omega
        exact e (enc32_inj _ l0 l1 (Nat.le_refl _) h5 hB0 hB1 h4)
      rw [beq_eq_false_iff_ne.mpr e1, beq_eq_false_iff_ne.mpr e2]
      rfl

end Go.Proofs.Ytbmeegkgcipmoaa.Pure
