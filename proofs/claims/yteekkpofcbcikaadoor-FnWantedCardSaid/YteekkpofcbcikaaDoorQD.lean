/- Several texts of this claim, joined. -/
import Derived.Test.YteekkpofcbcikaaDoorQB
import Derived.Deep.RegionLaw
import Derived.Test.YteekkpofcbcikaaDoorQC
/- slices.Delete at entries. -/
section
namespace Go.Proofs.YteekkpofcbcikaaDoor.HandWan
open Go Go.RowKit Go.Proofs.YteekkpofcbcikaaDoorL Go.Proofs.YteekkpofcbcikaaDoorW.PrintWords Go.Proofs.YteekkpofcbcikaaDoorW.PrintLast Go.Proofs.YteekkpofcbcikaaDoorW.PrintMore Go.Proofs.YteekkpofcbcikaaDoor.PWan
attribute [local go_sem] max2_int min2_int max_two min_two max_three min_three max_four min_four
set_option linter.unusedVariables false
set_option linter.unusedSimpArgs false
/-! slices.Delete at entries. -/
theorem drop_two {α : Type} {a b : List α} {n m : Nat} (h : a.length = n) : (a ++ b).drop (n + m) = b.drop m := by
  rw [← List.drop_drop, List.drop_left' h]
theorem flat_len {rows : List (List Value)} (h3 : ∀ r ∈ rows, r.length = 3) : rows.flatten.length = rows.length * 3 := by
  induction rows with
  | nil => rfl
  | cons a rows ih =>
    rw [List.flatten_cons, List.length_append, ih (fun r hr => h3 r (List.mem_cons_of_mem _ hr)), h3 a (List.mem_cons_self ..), List.length_cons]
    omega
theorem flat_at {rows : List (List Value)} (h3 : ∀ r ∈ rows, r.length = 3) : ∀ (j : Nat) (r : List Value), rows[j]? = some r → (rows.flatten.drop (j * 3)).take 3 = r := by
  induction rows with
  | nil => intro j r h; simp at h
  | cons a rows ih =>
    intro j r h
    have ha := h3 a (List.mem_cons_self ..)
    rw [List.flatten_cons]
    cases j with
    | zero =>
      have e : a = r := by simpa using h
      rw [Nat.zero_mul, List.drop_zero, List.take_left' ha, e]
    | succ j =>
      have h : rows[j]? = some r := by simpa using h
      rw [show (j + 1) * 3 = 3 + j * 3 by omega, drop_two ha]
      exact ih (fun r hr => h3 r (List.mem_cons_of_mem _ hr)) j r h
theorem flat_of {rows : List (List Value)} : ∀ (inner : List Value), inner.length = rows.length * 3 → (∀ j r, rows[j]? = some r → (inner.drop (j * 3)).take 3 = r) → inner = rows.flatten := by
  induction rows with
  | nil => intro inner h _; exact List.eq_nil_of_length_eq_zero (by simpa using h)
  | cons a rows ih =>
    intro inner h hr
    have ha : inner.take 3 = a := by have := hr 0 a rfl; simpa using this
    rw [List.flatten_cons, ← ha, ← ih (inner.drop 3) (by rw [List.length_drop, h, List.length_cons]; omega) (fun j r hj => by
      have := hr (j + 1) r (by simpa using hj)
      rw [List.drop_drop, show 3 + j * 3 = (j + 1) * 3 by omega]
      exact this), List.take_append_drop]
theorem heap_setCells {g : Nat} {e : TypeId} {fr : Nat × Nat} : ∀ (vs : List Value) (o : Nat) (cur : Array Value) (w : World), w.heap[g]? = some (.cells cur e fr) → (w.setCells g o vs).heap[g]? = some (.cells (Go.Sort.setMany cur o vs) e fr)
  | [], _, _, _, h => h
  | v :: r, o, cur, w, h => by
    show ((w.setCell ⟨g, o, none⟩ v).setCells g (o + 1) r).heap[g]? = some (.cells (Go.Sort.setMany (cur.setIfInBounds o v) (o + 1) r) e fr)
    refine heap_setCells r (o + 1) _ _ ?_
    rw [Go.Sort.setCell_eq]
    simp [Go.Sort.mapBlock, Array.getElem?_modify, h, Go.Sort.onCells]
theorem grown_setCells {g : Nat} : ∀ (vs : List Value) (o : Nat) (w : World), w.grownBy (w.setCells g o vs) (some g)
  | [], _, w => grown_of_below (Below.refl _ _) _
  | v :: r, o, w => by
    refine World.grownBy.trans ?_ (grown_setCells r (o + 1) (w.setCell ⟨g, o, none⟩ v))
    rw [Go.Sort.setCell_eq]
    refine ⟨rfl, rfl, rfl, by simp [Go.Sort.mapBlock], fun j _ hne => ?_⟩
    have : g ≠ j := fun e => hne (by rw [e])
    simp [Go.Sort.mapBlock, Array.getElem?_modify, this]
theorem setMany_list : ∀ (vs : List Value) (o : Nat) (F : Array Value), o + vs.length ≤ F.size → (Go.Sort.setMany F o vs).toList = F.toList.take o ++ vs ++ F.toList.drop (o + vs.length)
  | [], o, F, _ => by simp [Go.Sort.setMany]
  | v :: r, o, F, h => by
    have h : o + (r.length + 1) ≤ F.size := h
    have ho : o < F.toList.length := by rw [Array.length_toList]; omega
    rw [Go.Sort.setMany, setMany_list r (o + 1) _ (by rw [Array.size_setIfInBounds]; omega), Array.toList_setIfInBounds, List.set_eq_take_append_cons_drop, if_pos ho]
    have hA : (F.toList.take o).length = o := by rw [List.length_take]; omega
    have hB : (F.toList.take o ++ [v]).length = o + 1 := by rw [List.length_append, hA]; rfl
    have e : F.toList.take o ++ v :: F.toList.drop (o + 1) = (F.toList.take o ++ [v]) ++ F.toList.drop (o + 1) := by simp
    rw [e, List.take_left' hB, drop_two hB, List.drop_drop, List.append_assoc (F.toList.take o) [v] r, List.length_cons, show o + 1 + r.length = o + (r.length + 1) by omega]
    rfl
theorem run_clear27 (w : World) (ty : TypeId) (b o c : Nat) (hc : ∀ j, j < 3 → (w.cell? ⟨b, o + j, none⟩).isSome = true) (hf : ∀ j, j < 3 → w.frozen? ⟨b, o + j, none⟩ = false) :
    (Builtin.clear_ #[34] ty #[.slice (some ⟨b, o, none⟩) 1 c]).run Tryd.prog w = .ok (.tuple #[]) (w.setCells b o [.slice none 0 0, .int .i32 0, .bool false]) := by
  obtain ⟨i0, hi, hz0, hz1, hz2⟩ := info_parts info27e
  have hv : ∀ w, (zeroValue 27).run Tryd.prog w = .ok (.agg #[.slice none 0 0, .int .i32 0, .bool false]) w := fun w => by simp [zeroValue, typeInfo, hi, hz0]
  have hzc : (Builtin.zeroCells (Value.agg #[.slice none 0 0, .int .i32 0, .bool false]).cells 1).toList = [.slice none 0 0, .int .i32 0, .bool false] := by kernel_rfl
  have hst := run_storeCells_cells (P := Tryd.prog) b o [.slice none 0 0, .int .i32 0, .bool false] 0 w (by simpa using hc) (by simpa using hf) (by intro v hv'; simp at hv'; rcases hv' with rfl | rfl | rfl <;> rfl)
  simp only [Nat.add_zero] at hst
  simp [Builtin.clear_, run_underlying Tryd.underlying34, hv, hzc, hst]
set_option maxHeartbeats 4000000 in
set_option maxRecDepth 1000000 in
theorem slDel_calls (v : Value) (l : List S27) (w : World) (base : Nat) (ok : Nat → Prop) (h : Kd.N k27 27 w base ok v l) (hl : l.length ≤ 1000) (k : Nat) (hk : k < l.length) :
    Calls Tryd.prog 45 #[v, .int .i64 (k : Int), .int .i64 ((k : Int) + 1)] w fun e w' => ∃ v', e = .returned v' ∧ Kd.N k27 27 w' base ok v' (l.eraseIdx k) ∧ w.grownBy w' v.ownBlock ∧ v'.ownBlock = v.ownBlock := by
  obtain ⟨h0, rows, hrl, ⟨hr0, inner, ho, hreps⟩, hF⟩ := h
  obtain ⟨hn, hcase⟩ := ho
  rcases hcase with ⟨rfl, hz⟩ | ⟨g, cap, cur, rfl, hbase, hb, h1, h2, h3, h4⟩
  · exact absurd hk (by omega)
  have h3 : cur.size = cap * 3 := h3
  have h4 : cur.toList.take (rows.length * 3) = inner := h4
  have hr3 : ∀ r ∈ rows, r.length = 3 ∧ ∀ u ∈ r, u.oneCell' = true := fun r hr => by
    obtain ⟨j, hj⟩ := List.mem_iff_getElem?.1 hr
    have h5 : (inner.drop (j * 3)).take 3 = r ∧ ((inner.drop (j * 3)).take 3).length = 3 ∧ ∀ u ∈ (inner.drop (j * 3)).take 3, u.oneCell' = true := hreps.2 j r hj
    have h6 := h5.2
    rw [h5.1] at h6
    exact h6
  have hin : inner = rows.flatten := flat_of inner hreps.1 (fun j r hj => (hreps.2 j r hj).1)
  have hkr : k < rows.length := by omega
  obtain ⟨ra, r, rb, hrows, hra⟩ : ∃ ra r rb, rows = ra ++ r :: rb ∧ ra.length = k := ⟨rows.take k, rows[k], rows.drop (k + 1), by rw [← List.drop_eq_getElem_cons hkr, List.take_append_drop], by rw [List.length_take]; omega⟩
  have hma : ∀ x ∈ ra, x.length = 3 ∧ ∀ u ∈ x, u.oneCell' = true := fun x hx => hr3 x (by rw [hrows]; exact List.mem_append_left _ hx)
  have hmb : ∀ x ∈ rb, x.length = 3 ∧ ∀ u ∈ x, u.oneCell' = true := fun x hx => hr3 x (by rw [hrows]; exact List.mem_append_right _ (List.mem_cons_of_mem _ hx))
  have hla : ra.flatten.length = k * 3 := by rw [flat_len (fun x hx => (hma x hx).1), hra]
  have hlb : rb.flatten.length = rb.length * 3 := flat_len (fun x hx => (hmb x hx).1)
  have hlr : r.length = 3 := (hr3 r (by rw [hrows]; exact List.mem_append_right _ (List.mem_cons_self ..))).1
  obtain ⟨q, hq⟩ : ∃ q, q = rb.length := ⟨_, rfl⟩
  rw [← hq] at hlb
  have hnn : rows.length = k + 1 + q := by rw [hrows, List.length_append, List.length_cons, hra, hq]; omega
  obtain ⟨T, hT⟩ : ∃ T, T = cur.toList.drop (rows.length * 3) := ⟨_, rfl⟩
  have hcurl : cur.toList = ra.flatten ++ (r ++ (rb.flatten ++ T)) := by
    have e := List.take_append_drop (rows.length * 3) cur.toList
    rw [h4, ← hT, hin] at e
    have e2 : rows.flatten = ra.flatten ++ (r ++ rb.flatten) := by rw [hrows, List.flatten_append, List.flatten_cons]
    rw [e2] at e
    rw [← e]
    simp only [List.append_assoc]
  obtain ⟨news, hnews⟩ : ∃ news, news = rb.flatten := ⟨_, rfl⟩
  rw [← hnews] at hlb hcurl
  have hcapn : k + 1 + q ≤ cap := by rw [← hnn]; exact h1
  have hgl := blk_lt hb
  have hcell : ∀ t, t < cap * 3 → (w.drew.cell? ⟨g, t, none⟩).isSome = true ∧ w.drew.frozen? ⟨g, t, none⟩ = false := fun t ht => by
    constructor
    · show (w.cell? ⟨g, t, none⟩).isSome = true
      simp only [World.cell?, hb, Option.isSome_none, Bool.false_eq_true, if_false]
      rw [Array.getElem?_eq_getElem (by rw [h3]; exact ht)]
      rfl
    · show w.frozen? ⟨g, t, none⟩ = false
      simp [World.frozen?, hb]
  have hsrc : ∀ t u, news[t]? = some u → w.drew.cell? ⟨g, (k + 1) * 3 + t, none⟩ = some u := fun t u hu => by
    show w.cell? ⟨g, (k + 1) * 3 + t, none⟩ = some u
    simp only [World.cell?, hb, Option.isSome_none, Bool.false_eq_true, if_false]
    have htl : t < news.length := (List.getElem?_eq_some_iff.1 hu).1
    rw [← Array.getElem?_toList, hcurl, List.getElem?_append_right (by rw [hla]; omega), hla, List.getElem?_append_right (by rw [hlr]; omega), hlr, show (k + 1) * 3 + t - k * 3 - 3 = t by omega, List.getElem?_append_left htl]
    exact hu
  obtain ⟨W1, hW1⟩ : ∃ W1, W1 = w.drew.setCells g (0 + k * 3) news := ⟨_, rfl⟩
  have hb1 : W1.heap[g]? = some (.cells (Go.Sort.setMany cur (k * 3) news) 27 (0, 0)) := by rw [hW1, Nat.zero_add]; exact heap_setCells news (k * 3) cur w.drew hb
  have hs1 : (Go.Sort.setMany cur (k * 3) news).size = cap * 3 := by rw [Go.Sort.size_setMany, h3]
  have hcl := fun ty c => run_clear27 W1 ty g ((k + q) * 3) c (fun j hj => by
    simp only [World.cell?, hb1, Option.isSome_none, Bool.false_eq_true, if_false]
    rw [Array.getElem?_eq_getElem (by rw [hs1]; omega)]
    rfl) (fun j hj => by simp [World.frozen?, hb1])
  obtain ⟨W2, hW2⟩ : ∃ W2, W2 = W1.setCells g ((k + q) * 3) [.slice none 0 0, .int .i32 0, .bool false] := ⟨_, rfl⟩
  rw [← hW2] at hcl
  have hb2 : W2.heap[g]? = some (.cells (Go.Sort.setMany (Go.Sort.setMany cur (k * 3) news) ((k + q) * 3) [.slice none 0 0, .int .i32 0, .bool false]) 27 (0, 0)) := by rw [hW2]; exact heap_setCells _ _ _ W1 hb1
  have hg2 : w.grownBy W2 (some g) := by
    rw [hW2, hW1]
    exact World.grownBy.trans (World.grownBy.trans (grown_of_below (below_drew (Below.refl _ _)) _) (grown_setCells news _ w.drew)) (grown_setCells _ _ _)
  have hl1 : (Go.Sort.setMany cur (k * 3) news).toList = ra.flatten ++ news ++ (cur.toList.drop (k * 3 + news.length)) := by
    rw [setMany_list news (k * 3) cur (by rw [h3, hlb]; omega)]
    rw [show cur.toList.take (k * 3) = ra.flatten by rw [hcurl, List.take_left' hla]]
  have hfin : ((Go.Sort.setMany (Go.Sort.setMany cur (k * 3) news) ((k + q) * 3) [.slice none 0 0, .int .i32 0, .bool false]).toList.take ((k + q) * 3)) = (ra ++ rb).flatten := by
    rw [setMany_list _ _ _ (by rw [hs1]; show (k + q) * 3 + 3 ≤ cap * 3; omega), hl1]
    have hx : (ra.flatten ++ news).length = (k + q) * 3 := by rw [List.length_append, hla, hlb]; omega
    rw [List.take_left' hx, List.append_assoc, List.take_left' hx, List.flatten_append, hnews]
  have hers : l.eraseIdx k = l.eraseIdx k := rfl
  have HN : Aside0 (Kd.N k27 27 W2 base ok (.slice (some ⟨g, 0, none⟩) (k + q) cap) (l.eraseIdx k)) := by
    constructor
    have hee : rows.eraseIdx k = ra ++ rb := by
      rw [hrows, ← hra, List.eraseIdx_append_of_length_le (Nat.le_refl _)]
      simp
    have hlen : (ra ++ rb).length = k + q := by rw [List.length_append, hra, hq]
    refine ⟨h0, ra ++ rb, by rw [hlen, List.length_eraseIdx, if_pos hk]; omega, ⟨fun k hk => hk.symm, (ra ++ rb).flatten, ⟨?_, .inr ⟨g, cap, _, by rw [hlen], hbase, hb2, by rw [hlen]; omega, h2, ?_, ?_⟩⟩, ?_⟩, ?_⟩
    · rw [flat_len (fun x hx => by rcases List.mem_append.1 hx with hx | hx; exact (hma x hx).1; exact (hmb x hx).1)]; rfl
    · rw [Go.Sort.size_setMany]; exact hs1
    · rw [hlen]; exact hfin
    · have hm : ∀ x ∈ ra ++ rb, x.length = 3 ∧ ∀ u ∈ x, u.oneCell' = true := fun x hx => by rcases List.mem_append.1 hx with hx | hx; exact hma x hx; exact hmb x hx
      refine ⟨by rw [flat_len (fun x hx => (hm x hx).1)]; rfl, fun j p hj => ?_⟩
      have h5 : List.take (Kd.raw k27.sz).sz (List.drop (j * (Kd.raw k27.sz).sz) (ra ++ rb).flatten) = p := flat_at (fun x hx => (hm x hx).1) j p hj
      rw [h5]
      exact ⟨rfl, hm p (List.mem_of_getElem? hj)⟩
    · intro j x c hx hc
      rw [← hee] at hc
      rw [List.getElem?_eraseIdx] at hx hc
      split at hx
      · next hlt =>
        rw [if_pos hlt] at hc
        exact Kd.FK_step (hF j x c hx hc) (fun k hk hlt => hg2.block k hlt hk.2)
      · next hlt =>
        rw [if_neg hlt] at hc
        exact Kd.FK_step (hF (j + 1) x c hx hc) (fun k hk hlt => hg2.block k hlt hk.2)
  have HG := Aside0.mk hg2
  obtain ⟨A, hA, hsA⟩ : ∃ A : Addr, (if cap = k + 1 then some (⟨g, 0, none⟩ : Addr) else some ⟨g, (k + 1) * 3, none⟩) = some A ∧ ∀ t u, news[t]? = some u → w.drew.cell? (A.add t) = some u := by
    by_cases h : cap = k + 1
    · refine ⟨⟨g, 0, none⟩, by simp [h], fun t u hu => ?_⟩
      have h0 : news.length = 0 := by rw [hlb]; omega
      rw [List.length_eq_zero_iff.1 h0] at hu
      simp at hu
    · exact ⟨⟨g, (k + 1) * 3, none⟩, by simp [h], fun t u hu => by rw [Addr.add_lit]; exact hsrc t u hu⟩
  have S0 := Aside0.mk hsA
  have S1 : Aside0 (news.length = q * 3) := ⟨hlb⟩
  have S2 : Aside0 (∀ u ∈ news, u.oneCell' = true) := ⟨fun u hu => by
    rw [hnews] at hu
    obtain ⟨x, hx, hux⟩ := List.mem_flatten.1 hu
    exact (hmb x hx).2 u hux⟩
  have S3 : Aside0 (∀ t, t < news.length → (w.drew.cell? ⟨g, 0 + k * 3 + t, none⟩).isSome = true ∧ w.drew.frozen? ⟨g, 0 + k * 3 + t, none⟩ = false) := ⟨fun t ht => by
    rw [Nat.zero_add]
    exact hcell (k * 3 + t) (by rw [hlb] at ht; omega)⟩
  have HW1 := Aside0.mk hW1
  have HCL := Aside0.mk hcl
  have HNN := Aside0.mk hnn
  have HCN := Aside0.mk hcapn
  have HQ : Aside0 (k + 1 + q ≤ 1000) := ⟨by omega⟩
  rw [hnn]
  have HM := Aside0.mk h2
  clear hcl hb2 hl1 hfin hers hb1 hs1 hW1 hW2 hsrc hsA hcell hgl hnews hcurl hT hnn hlr hlb hla hmb hma hrows hra hkr hin hr3 h4 h3 h2 h1 hb hbase hreps hr0 hF hn hrl hg2 hk hl hcapn hq h0
  obtain ⟨i0, hi0, hz0, hz1, hz2⟩ := info_parts info27e
  have m1 := HM.out
  have m2 := HCN.out
  have m3 := HQ.out
  have hic : k ≤ cap := by omega
  have hjc : k + 1 ≤ cap := by omega
  have hjn : k + 1 ≤ k + 1 + q := by omega
  have hi00 : (0 : Int) ≤ (k : Int) + 1 := by omega
  have mixed : Tryd.prog.follows .mixedOrders = true := by kernel_rfl
  have hii : (k : Int) ≤ (cap : Int) := by omega
  have hij : (k : Int) + 1 ≤ (cap : Int) := by omega
  have hik : (k : Int) + 1 ≤ (k : Int) + 1 + (q : Int) := by omega
  have qe : ((k : Int) == (k : Int) + 1) = false := beq_eq_false_iff_ne.mpr (by omega)
  go_enter Tryd.func45, Tryd.ntmps45
  go_wp2_with fail
  go_region_law_o (refine step_append_room rfl (.tmp 22) (.tmp 25) 34 rfl 27 i0 3 Tryd.underlying34 hi0 hz1 g 0 k cap (by simp [Act.eval, Act.put]) A q (cap - (k + 1)) news (by simp [Act.eval, Act.put]) S1.out S0.out S2.out (by omega) S3.out ?_; rw [← HW1.out])
  have hcq : (cap = k + q) = False := eq_false (by omega)
  have hd1 : k + 1 + q - (k + q) = 1 := by omega
  have hlo : (k : Int) + (q : Int) ≤ (k : Int) + 1 + (q : Int) := by omega
  have hlp : (0 : Int) ≤ (k : Int) + (q : Int) := by omega
  have hhc : (k : Int) + 1 + (q : Int) ≤ (cap : Int) := by omega
  have hlc : k + q ≤ cap := by omega
  have hll : k + q ≤ k + 1 + q := by omega
  have hln : k + 1 + q ≤ cap := m2
  have hCL := HCL.out
  go_wp2_with fail
  go_ret
  exact ⟨_, rfl, HN.out, HG.out, rfl⟩
end Go.Proofs.YteekkpofcbcikaaDoor.HandWan
end
/- Rows of entries whose identifiers lie in the blocks below a bound. -/
section
namespace Go.Proofs.YteekkpofcbcikaaDoor.HandWan
open Go Go.RowKit Go.Proofs.YteekkpofcbcikaaDoorL Go.Proofs.YteekkpofcbcikaaDoorW.PrintWords Go.Proofs.YteekkpofcbcikaaDoorW.PrintLast Go.Proofs.YteekkpofcbcikaaDoorW.PrintMore Go.Proofs.YteekkpofcbcikaaDoor.PWan
attribute [local go_sem] max2_int min2_int max_two min_two max_three min_three max_four min_four
set_option linter.unusedVariables false
set_option linter.unusedSimpArgs false
/-! Rows of entries whose identifiers lie in the blocks below B. -/
def NE (B : Nat) (w : World) (base : Nat) (v : Value) (l : List S27) : Prop := Kd.N k27 27 w base (fun k => k < B ∨ some k = v.ownBlock) v l
theorem NE.rows {B base : Nat} {w : World} {v : Value} {l : List S27} (h : NE B w base v l) : ∃ rows : List (List Value), rows.length = l.length ∧ (Kd.raw 3).R 27 w base (fun _ => True) v rows ∧ ∀ (j : Nat) (x : S27) (c : List Value), l[j]? = some x → rows[j]? = some c → Kd.FK k27 w (fun k => k < B) x c := by
  obtain ⟨_, rows, hl, hR, hf⟩ := h
  refine ⟨rows, hl, Kd.raw_any hR, fun j x c hx hc => Kd.FK_mono (hf j x c hx hc) (fun k hk => ?_)⟩
  rcases hk.1 with h1 | h1
  · exact h1
  · exact absurd h1 hk.2
theorem NE.of {B base : Nat} {w : World} {v : Value} {l : List S27} (hB : B ≤ base) {rows : List (List Value)} (hl : rows.length = l.length) (hR : (Kd.raw 3).R 27 w base (fun _ => True) v rows) (hf : ∀ (j : Nat) (x : S27) (c : List Value), l[j]? = some x → rows[j]? = some c → Kd.FK k27 w (fun k => k < B) x c) : NE B w base v l :=
  ⟨fun k hk => .inr hk.symm, rows, hl, Kd.raw_tight hR, fun j x c hx hc => Kd.FK_mono (hf j x c hx hc) (fun k hk => ⟨.inl hk, fun e => by have := Kd.R_base hR k e.symm; omega⟩)⟩
theorem NE.nil (B : Nat) (w : World) (base : Nat) : NE B w base (.slice none 0 0) [] := Kd.N_nil _ _ _ _ _
theorem NE.step {B base : Nat} {w w1 : World} {v : Value} {l : List S27} (h : NE B w base v l) (hm : ∀ k, (k < B ∨ some k = v.ownBlock) → k < w.heap.size → w1.heap[k]? = w.heap[k]?) : NE B w1 base v l := Kd.N_step h hm
theorem NE.below {B base : Nat} {w w1 : World} {v : Value} {l : List S27} (h : NE B w base v l) (hb : Below w.heap.size w w1) : NE B w1 base v l := Kd.N_below h hb
theorem NE.lower {B base base' : Nat} {w : World} {v : Value} {l : List S27} (h : NE B w base v l) (hb : base' ≤ base) : NE B w base' v l := Kd.N_lower h hb
theorem NE.rowsE {B base n cc : Nat} {w : World} {A : Option Addr} {l : List S27} (h : NE B w base (.slice A n cc) l) : n = l.length ∧ n ≤ cc ∧ ReadsRow (fun x c => Kd.FK k27 w (fun k => k < B) x c) 3 w A l.length l := by
  have h2 := Kd.N_reads' h
  obtain ⟨rows, hl, hR, hf⟩ := h.rows
  obtain ⟨hn, hc, hC⟩ := Kd.R_reads' hR
  refine ⟨h2.1, h2.2.1, ⟨rfl, h2.2.2.2.1, fun hp => ?_⟩⟩
  obtain ⟨ad, he, hcell⟩ := hC.2.2 (by rw [hl]; exact hp)
  refine ⟨ad, he, fun j p hj => ?_⟩
  have hjl : j < rows.length := by have := (List.getElem?_eq_some_iff.1 hj).1; omega
  obtain ⟨c', hcl, hK, hcc⟩ := hcell j _ (List.getElem?_eq_getElem hjl)
  refine ⟨c', hcl, ?_, hcc⟩
  rw [show c' = rows[j] from hK.1]
  exact hf j p _ hj (List.getElem?_eq_getElem hjl)
theorem at_NE {B base n cc : Nat} {w : World} {A : Option Addr} {l : List S27} (h : NE B w base (.slice A n cc) l) (j : Nat) (hj : j < l.length) : ∃ ad A0 c0, A = some ad ∧ w.cell? (ad.add (j * 3)) = some (.slice A0 l[j].f0.length c0) ∧ w.cell? ⟨(ad.add (j * 3)).block, (ad.add (j * 3)).off + 1, none⟩ = some (.int .i32 l[j].f1) ∧ w.cell? ⟨(ad.add (j * 3)).block, (ad.add (j * 3)).off + 2, none⟩ = some (.bool l[j].f2) ∧ l[j].f0.length ≤ c0 ∧ Kd.F (Kd.int .u8) w (fun k => k < B) A0 l[j].f0.length l[j].f0 := by
  obtain ⟨_, _, _, _, hr⟩ := h.rowsE
  obtain ⟨ad, he, hcell⟩ := hr (by omega)
  obtain ⟨c, hcl, hK, hcc⟩ := hcell j l[j] (List.getElem?_eq_getElem hj)
  obtain ⟨A0, c0, rfl, hl, hF⟩ := k27_openF hK
  refine ⟨ad, A0, c0, he, hcc 0 _ rfl, ?_, ?_, hl, hF⟩
  · rw [← add_field _ _ 1 (by omega)]; exact hcc 1 _ rfl
  · rw [← add_field _ _ 2 (by omega)]; exact hcc 2 _ rfl
end Go.Proofs.YteekkpofcbcikaaDoor.HandWan
end
/- Copies of rows of entries, entries put behind and in place; spec.listAdd. -/
section
namespace Go.Proofs.YteekkpofcbcikaaDoor.HandWan
open Go Go.RowKit Go.Proofs.YteekkpofcbcikaaDoorL Go.Proofs.YteekkpofcbcikaaDoorW.PrintWords Go.Proofs.YteekkpofcbcikaaDoorW.PrintLast Go.Proofs.YteekkpofcbcikaaDoorW.PrintMore Go.Proofs.YteekkpofcbcikaaDoor.PWan
attribute [local go_sem] max2_int min2_int max_two min_two max_three min_three max_four min_four
set_option linter.unusedVariables false
set_option linter.unusedSimpArgs false
/-! Copies of rows of entries, entries put behind and in place; spec.listAdd. -/
section
variable {ops : Array Oper} {rest : List Oper} {o : Oper} {a : Act} {Q : Exit → Act → World → Prop}
/-- append(v, e), behind 'at_builtin'. -/
theorem NE_append {w0 W : World} (B base : Nat) (hgd : o.guard = none) (s x : Operand) (ho : o.op = .call { callee := .builtin .append, args := #[s, x], argTypes := #[34, 34] })
    (v : Value) (l : List S27) (p : S27) (cs : List Value) (hs : a.eval s = v) (hx : a.eval x = .slice (some ⟨W.heap.size, 0, none⟩) 1 1) (hp : Kd.FK k27 W (fun k => k < B) p cs)
    (HO : NE B W base v l) (hBb : B ≤ base) (HB : Below base w0 W) (hbase : base ≤ W.heap.size) (hl : l.length ≤ 1000)
    (h : ∀ v1 w1, NE B w1 base v1 (l ++ [p]) → Below base w0 w1 → W.grownBy w1 v.ownBlock → (v1.ownBlock = v.ownBlock ∨ ∃ b, v1.ownBlock = some b ∧ W.heap.size ≤ b) → wpList Tryd.prog ops Q rest (a.put o.dst v1) w1) :
    wpList Tryd.prog ops Q (o :: rest) a (W.alloc (.cells cs.toArray 27)) := by
  obtain ⟨rows, hlr, hR, hf⟩ := HO.rows
  refine Kd.R_append (Kd.raw 3) base hgd s x 34 27 (.agg #[.slice none 0 0, .int .i32 0, .bool false]) 32 ho Tryd.underlying34 info27e rfl (by decide) (by decide) v rows cs cs (fun _ => True) (fun _ => False) hs hx (Kd.FK_raw hp) (fun _ hk => hk.elim) (fun _ _ => trivial) hR HB hbase (by rw [hlr]; omega) ?_
  intro v1 w1 hr hb hg hat
  refine h v1 w1 (NE.of hBb (by rw [List.length_append, List.length_append, hlr]; rfl) hr (fun j y c hy hc => ?_)) hb hg hat
  have hfar : ∀ k, k < B → k < W.heap.size → w1.heap[k]? = W.heap[k]? := fun k hk hlt => hg.block k hlt (fun e => by have := Kd.R_base hR k e.symm; omega)
  by_cases hj : j < l.length
  · rw [List.getElem?_append_left hj] at hy
    rw [List.getElem?_append_left (by omega)] at hc
    exact Kd.FK_step (hf j y c hy hc) hfar
  · rw [List.getElem?_append_right (by omega)] at hy
    rw [List.getElem?_append_right (by omega), hlr] at hc
    have h0 : j - l.length = 0 := by have := (List.getElem?_eq_some_iff.1 hy).1; rw [List.length_singleton] at this; omega
    rw [h0] at hy hc
    cases hy
    cases hc
    exact Kd.FK_step hp hfar
end
theorem cloneNE (A : Option Addr) (c : Nat) (l : List S27) (w : World) (B base : Nat) (h : NE B w base (.slice A l.length c) l) (hB : B ≤ w.heap.size) (hl : l.length ≤ 1000) :
    Calls Tryd.prog 46 #[.slice A l.length c] w fun e w' => ∃ v, e = .returned v ∧ NE B w' w.heap.size v l ∧ Below w.heap.size w w' := by
  have qs : ∀ (w : World) (a : Option Addr) (n c n' c' : Nat), (binOp .eql 34 (.slice a n c) (.slice none n' c')).run Tryd.prog w = .ok (.bool a.isNone) w := fun w a n c n' c' => Lib.run_eql_slice_nil w _ _ a n c n' c' Tryd.underlying34
  have HB := Aside0.mk (Below.refl w.heap.size w)
  have HR0 := Aside0.mk h
  have HL := Aside0.mk hl
  have HBB := Aside0.mk hB
  clear h hl hB
  cases A with
  | none =>
    have e0 := cl_none (Kd.N_reads' HR0.out).2.2
    subst e0
    clear HR0 HL
    go_enter Tryd.func46, Tryd.ntmps46
    go_wp2
    go_ret
    exact ⟨_, rfl, NE.nil _ _ _, HB.out⟩
  | some a =>
    have HE := Aside0.mk ((HR0.out.below (below_alloc (Below.refl _ _) (.cells #[] 27 (0, 0)))).rowsE)
    obtain ⟨i0, hi, hz0, hz1, hz2⟩ := info_parts info27e
    have z27s : ∀ w, Sem.run Tryd.prog (Go.sizeOf 27) w = .ok 3 w := fun w => by simp [Go.sizeOf, typeInfo, hi, hz1]
    obtain ⟨news, hnl, hnr, hnf⟩ := Kd.reads_raw HE.out.2.2 (fun y c hk => ⟨k27.K_len (Kd.FK_now hk), k27.K_one (Kd.FK_now hk)⟩)
    have HNL := Aside0.mk hnl
    have HNR := Aside0.mk hnr
    have HNF := Aside0.mk hnf
    clear hi hz0 hz1 hz2 hnl hnr hnf HE
    go_enter Tryd.func46, Tryd.ntmps46
    go_wp2_with (at_builtin; refine Kd.R_append_rows (Kd.raw 3) (w0 := w) w.heap.size rfl (.tmp 5) (.tmp 6) 34 27 (.agg #[.slice none 0 0, .int .i32 0, .bool false]) 32 rfl Tryd.underlying34 info27e rfl (by decide) (by decide) _ [] news (some a) l.length c (fun _ => True) (fun _ => False) rfl rfl ?aO HNR.out (fun _ _ hk => hk) (fun _ hk => hk.elim) (fun _ _ => trivial) ?aB ?aS ?aL ?_)
    case aO => exact ⟨fun _ _ => trivial, [], World.ownsRow_made w #[] 0 (Nat.le_refl _) (Nat.zero_le _) rfl, Reps.none _ _⟩
    case aB => exact below_alloc HB.out _
    case aS => exact below_size (below_alloc HB.out _)
    case aL => have := HL.out; simp only [List.length_nil]; omega
    intro v1 w1 hR hb hg hat
    have HN1 : Aside0 (NE B w1 w.heap.size v1 l) := ⟨NE.of HBB.out HNL.out hR (fun j x c hx hc => Kd.FK_step (HNF.out j x c hx hc) (fun k hk hlt => hg.block k hlt (fun e => by have e : k = w.heap.size := Option.some.inj e; have := HBB.out; omega)))⟩
    have HB1 := Aside0.mk hb
    clear hR hb hg hat
    go_wp2_with fail
    go_ret
    exact ⟨_, rfl, HN1.out, HB1.out⟩
/-- What spec.listAdd makes of a list, and what it answers. -/
def lA (l : List S27) (e : S27) : List S27 := if 0 ≤ fI l e.f0 0 then (if (e.f2 || !(rd_T27 l (fI l e.f0 0)).f2) = true then l else l.set (fI l e.f0 0).toNat e) else l ++ [e]
def lB (l : List S27) (e : S27) : Bool := !(decide (0 ≤ fI l e.f0 0) && (e.f2 || !(rd_T27 l (fI l e.f0 0)).f2))
theorem lA_spL (l : List S27) (x : S31) (h : x.f0 = 0) : spL l x = lA l x.f1 ∧ spB l x = lB l x.f1 := by
  unfold spL spB lA lB spHit spAt
  rw [if_pos h, if_pos h]
  refine ⟨?_, rfl⟩
  by_cases h0 : 0 ≤ fI l x.f1.f0 0
  · rw [decide_eq_true h0, if_pos rfl, if_pos h0]
  · rw [decide_eq_false h0, if_neg (by decide), if_neg h0]
theorem at_NE2 {B base n cc : Nat} {w : World} {ad : Addr} {l : List S27} (h : NE B w base (.slice (some ad) n cc) l) (i : Int) (j : Nat) (hij : i = (j : Int)) (hj : j < l.length) (y : S27) (hy : l[j] = y) : w.cell? ⟨(ad.add (i.toNat * 3)).block, (ad.add (i.toNat * 3)).off + 2, none⟩ = some (.bool y.f2) := by
  obtain ⟨ad', _, _, e, _, _, h2, _⟩ := at_NE h j hj
  cases e
  rw [hij, Int.toNat_natCast, ← hy]
  exact h2
theorem NE.form {B base : Nat} {w : World} {v : Value} {l : List S27} (h : NE B w base v l) (hp : 0 < l.length) : ∃ g cap, v = .slice (some ⟨g, 0, none⟩) l.length cap ∧ base ≤ g ∧ g < w.heap.size := by
  obtain ⟨g, cap, e, h1, h2, _⟩ := Kd.N_form h hp
  exact ⟨g, cap, e, h1, h2⟩
set_option maxHeartbeats 4000000 in
theorem listAdd_calls (v : Value) (l : List S27) (e : S27) (X : Option Addr) (d : Nat) (w : World) (B base : Nat) (h : NE B w base v l) (hB : B ≤ base) (hbs : base ≤ w.heap.size) (hl : l.length ≤ 900) (he : Kd.F (Kd.int .u8) w (fun k => k < B) X e.f0.length e.f0) (hd : e.f0.length ≤ d) :
    Calls Tryd.prog 44 #[v, .agg #[.slice X e.f0.length d, .int .i32 e.f1, .bool e.f2]] w fun r w' => ∃ v', r = .returned (.tuple #[v', .bool (lB l e)]) ∧ NE B w' base v' (lA l e) ∧ w.grownBy w' v.ownBlock ∧ (v'.ownBlock = v.ownBlock ∨ ∃ q, v'.ownBlock = some q ∧ w.heap.size ≤ q) := by
  obtain ⟨A, c, rfl⟩ := Kd.N_slice h
  obtain ⟨q, p, u⟩ := e
  have he : Kd.F (Kd.int .u8) w (fun k => k < B) X q.length q := he
  have hd : q.length ≤ d := hd
  show Calls Tryd.prog 44 #[.slice A l.length c, .agg #[.slice X q.length d, .int .i32 p, .bool u]] w _
  obtain ⟨wb, hwb⟩ : ∃ wb, wb = w.alloc (.cells #[.slice X q.length d, .int .i32 p, .bool u] 27 (0, 0)) := ⟨_, rfl⟩
  obtain ⟨gb, hgb⟩ : ∃ gb, gb = w.heap.size := ⟨_, rfl⟩
  have hbw : Below w.heap.size w wb := by rw [hwb]; exact below_alloc (Below.refl _ _) _
  have hbx : wb.heap[gb]? = some (.cells #[.slice X q.length d, .int .i32 p, .bool u] 27 (0, 0)) := by rw [hgb, hwb]; exact blk_new w _
  have HB0 := Aside0.mk hbw
  have HBX := Aside0.mk hbx
  have HN := Aside0.mk (h.below hbw)
  have HF := Aside0.mk (Kd.F_below he hbw)
  have HD := Aside0.mk hd
  have HL := Aside0.mk hl
  have HQ : Aside0 (B ≤ base ∧ base ≤ w.heap.size ∧ w.heap.size ≤ wb.heap.size) := ⟨hB, hbs, hbw.size⟩
  have HC := Aside0.mk (find_calls l q A X c d wb (Kd.N_reads' HN.out).2.2 (by omega) (Kd.F_now HF.out) hd)
  have hx0 : wb.cell? ⟨gb, 0, none⟩ = some (.slice X q.length d) := (blk_cell hbx 0).trans rfl
  have HGO : Aside0 (w.grownBy wb (Value.slice A l.length c).ownBlock) := ⟨grown_of_below hbw _⟩
  clear h hB hbs hl he hd hbw hbx
  rcases fI_split q l 0 with ⟨h1, h1m⟩ | ⟨a, y, b, hl, h2, h2a, h2b⟩
  · have hA : Aside0 (lA l ⟨q, p, u⟩ = l ++ [⟨q, p, u⟩] ∧ lB l ⟨q, p, u⟩ = true) := ⟨by unfold lA; show (if 0 ≤ fI l q 0 then _ else _) = _; rw [h1]; rfl, by unfold lB; show (!(decide (0 ≤ fI l q 0) && _)) = true; rw [h1]; rfl⟩
    rw [h1] at HC
    clear h1 h1m
    go_enter Tryd.func44, Tryd.ntmps44
    go_upto_region 1 with fail
    rw [← hwb, ← hgb]
    clear hwb hgb
    go_wp2_with (first | (go_at_call 43; refine HC.out.mono ?_; rintro r w1 ⟨rfl, hb⟩; have hbx1 := (hb.block _ (blk_lt HBX.out)).trans HBX.out; have hy0 : w1.cell? ⟨gb, 0, none⟩ = some (.slice X q.length d) := (blk_cell hbx1 0).trans rfl; have hy1 : w1.cell? ⟨gb, 1, none⟩ = some (.int .i32 p) := (blk_cell hbx1 1).trans rfl; have hy2 : w1.cell? ⟨gb, 2, none⟩ = some (.bool u) := (blk_cell hbx1 2).trans rfl; have HBX1 := Aside0.mk hbx1; have HN1 := Aside0.mk (HN.out.below hb); have HF1 := Aside0.mk (Kd.F_below HF.out hb); have HG1 := Aside0.mk (World.grownBy.trans HGO.out (grown_of_below hb _)); have HS1 := Aside0.mk hb.size; have HB1 := Aside0.mk ((below_step HB0.out hb).mono HQ.out.2.1); clear hb hbx1) | (at_builtin; refine NE_append (w0 := w) B base rfl (.tmp 13) (.tmp 15) rfl (.slice A l.length c) l ⟨q, p, u⟩ [.slice X q.length d, .int .i32 p, .bool u] rfl rfl ?hp HN1.out ?hB ?HB ?hbase ?hl ?_))
    case hp => exact k27_mkF _ _ ⟨q, p, u⟩ HD.out HF1.out
    case hB => exact HQ.out.1
    case HB => exact HB1.out
    case hbase => have := HQ.out; have := HS1.out; omega
    case hl => have := HL.out; omega
    intro v2 w2 hN2 hb2 hg2 hat2
    have HN2 := Aside0.mk hN2
    have HG2 := Aside0.mk (World.grownBy.trans HG1.out hg2)
    have HAT : Aside0 (v2.ownBlock = (Value.slice A l.length c).ownBlock ∨ ∃ q, v2.ownBlock = some q ∧ w.heap.size ≤ q) := ⟨by
      rcases hat2 with h | ⟨z, h, hz⟩
      · exact .inl h
      · exact .inr ⟨z, h, by have := HQ.out; have := HS1.out; omega⟩⟩
    clear hN2 hb2 hg2 hat2
    go_wp2_with fail
    refine bodyPost_ret (results_list (rs := [.tmp 4, .tmp 5]) (by kernel_rfl) (by simp) (.tmp (.tmp .nil))) rfl ?_
    rw [hA.out.1, hA.out.2]
    exact ⟨_, rfl, HN2.out, HG2.out, HAT.out⟩
  · obtain ⟨i, hi⟩ : ∃ i : Int, i = ((0 + a.length : Nat) : Int) := ⟨_, rfl⟩
    have hjl : a.length < l.length := by rw [hl]; simp
    have hyl : l[a.length] = y := by simp [hl]
    obtain ⟨ad, _, _, eA, hrest⟩ := at_NE HN.out a.length hjl
    clear hrest
    subst eA
    have hii : i = (a.length : Int) := by omega
    have HIJ := Aside0.mk hii
    have HYL : Aside0 (∃ h : a.length < l.length, l[a.length] = y) := ⟨⟨hjl, hyl⟩⟩
    have hrd : rd_T27 l i = y := by rw [hi, hl]; exact rd_mid a b y
    have hset : ∀ x, l.set i.toNat x = a ++ x :: b := fun x => by rw [hi, hl]; exact set_mid a b y x
    have hA : lA l ⟨q, p, u⟩ = (if (u || !y.f2) = true then l else l.set i.toNat ⟨q, p, u⟩) ∧ lB l ⟨q, p, u⟩ = !(u || !y.f2) := by
      unfold lA lB
      show (if 0 ≤ fI l q 0 then (if (u || !(rd_T27 l (fI l q 0)).f2) = true then l else l.set (fI l q 0).toNat ⟨q, p, u⟩) else _) = _ ∧ (!(decide (0 ≤ fI l q 0) && (u || !(rd_T27 l (fI l q 0)).f2))) = _
      rw [h2, ← hi, hrd, if_pos (by omega), decide_eq_true (by omega), Bool.true_and]
      exact ⟨rfl, rfl⟩
    have HA := Aside0.mk hA
    rw [h2, ← hi] at HC
    have hi0 : ((0 : Int) ≤ i) = True := eq_true (by omega)
    have hi1 : (i < (l.length : Int)) = True := eq_true (by omega)
    have hin : decide (i < 0) = false := decide_eq_false (by omega)
    clear h2 h2a h2b hA hrd hset hyl hjl hi hl hii
    cases u with
    | true =>
      go_enter Tryd.func44, Tryd.ntmps44
      go_upto_region 1 with fail
      rw [← hwb, ← hgb]
      clear hwb hgb
      go_wp2_with (go_at_call 43; refine HC.out.mono ?_; rintro r w1 ⟨rfl, hb⟩; have hbx1 := (hb.block _ (blk_lt HBX.out)).trans HBX.out; have hy0 : w1.cell? ⟨gb, 0, none⟩ = some (.slice X q.length d) := (blk_cell hbx1 0).trans rfl; have hy1 : w1.cell? ⟨gb, 1, none⟩ = some (.int .i32 p) := (blk_cell hbx1 1).trans rfl; have hy2 : w1.cell? ⟨gb, 2, none⟩ = some (.bool true) := (blk_cell hbx1 2).trans rfl; have HBX1 := Aside0.mk hbx1; have HN1 := Aside0.mk (HN.out.below hb); have HF1 := Aside0.mk (Kd.F_below HF.out hb); have HG1 := Aside0.mk (World.grownBy.trans HGO.out (grown_of_below hb _)); have HS1 := Aside0.mk hb.size; have HB1 := Aside0.mk ((below_step HB0.out hb).mono HQ.out.2.1); clear hb hbx1)
      refine bodyPost_ret (results_list (rs := [.tmp 4, .tmp 5]) (by kernel_rfl) (by simp) (.tmp (.tmp .nil))) rfl ?_
      rw [HA.out.1, HA.out.2]
      exact ⟨_, rfl, HN1.out, HG1.out, .inl rfl⟩
    | false =>
      cases hy : y.f2 with
      | false =>
        rw [hy] at HA
        go_enter Tryd.func44, Tryd.ntmps44
        go_upto_region 1 with fail
        rw [← hwb, ← hgb]
        clear hwb hgb
        go_wp2_with (go_at_call 43; refine HC.out.mono ?_; rintro r w1 ⟨rfl, hb⟩; have hbx1 := (hb.block _ (blk_lt HBX.out)).trans HBX.out; have hy0 : w1.cell? ⟨gb, 0, none⟩ = some (.slice X q.length d) := (blk_cell hbx1 0).trans rfl; have hy1 : w1.cell? ⟨gb, 1, none⟩ = some (.int .i32 p) := (blk_cell hbx1 1).trans rfl; have hy2 : w1.cell? ⟨gb, 2, none⟩ = some (.bool false) := (blk_cell hbx1 2).trans rfl; have HBX1 := Aside0.mk hbx1; have HN1 := Aside0.mk (HN.out.below hb); have HF1 := Aside0.mk (Kd.F_below HF.out hb); have HG1 := Aside0.mk (World.grownBy.trans HGO.out (grown_of_below hb _)); have HS1 := Aside0.mk hb.size; have HB1 := Aside0.mk ((below_step HB0.out hb).mono HQ.out.2.1); clear hb hbx1; have hz2 : w1.cell? ⟨(ad.add (i.toNat * 3)).block, (ad.add (i.toNat * 3)).off + 2, none⟩ = some (.bool false) := by (rw [← hy]; exact at_NE2 HN1.out i _ HIJ.out HYL.out.1 y HYL.out.2))
        refine bodyPost_ret (results_list (rs := [.tmp 4, .tmp 5]) (by kernel_rfl) (by simp) (.tmp (.tmp .nil))) rfl ?_
        rw [HA.out.1, HA.out.2]
        exact ⟨_, rfl, HN1.out, HG1.out, .inl rfl⟩
      | true =>
        rw [hy] at HA
        go_enter Tryd.func44, Tryd.ntmps44
        go_upto_region 1 with fail
        rw [← hwb, ← hgb]
        clear hwb hgb
        go_upto_region 6 with (go_at_call 43; refine HC.out.mono ?_; rintro r w1 ⟨rfl, hb⟩; have hbx1 := (hb.block _ (blk_lt HBX.out)).trans HBX.out; have hy0 : w1.cell? ⟨gb, 0, none⟩ = some (.slice X q.length d) := (blk_cell hbx1 0).trans rfl; have hy1 : w1.cell? ⟨gb, 1, none⟩ = some (.int .i32 p) := (blk_cell hbx1 1).trans rfl; have hy2 : w1.cell? ⟨gb, 2, none⟩ = some (.bool false) := (blk_cell hbx1 2).trans rfl; have HBX1 := Aside0.mk hbx1; have HN1 := Aside0.mk (HN.out.below hb); have HF1 := Aside0.mk (Kd.F_below HF.out hb); have HG1 := Aside0.mk (World.grownBy.trans HGO.out (grown_of_below hb _)); have HS1 := Aside0.mk hb.size; have HB1 := Aside0.mk ((below_step HB0.out hb).mono HQ.out.2.1); clear hb hbx1; have hz2 : w1.cell? ⟨(ad.add (i.toNat * 3)).block, (ad.add (i.toNat * 3)).off + 2, none⟩ = some (.bool true) := by (rw [← hy]; exact at_NE2 HN1.out i _ HIJ.out HYL.out.1 y HYL.out.2))
        go_upto_region 7 with (go_at_call 46; refine (cloneNE (some ad) c l w1 B base HN1.out (by have := HQ.out; have := HS1.out; omega) (by have := HL.out; omega)).mono ?_; rintro r w2 ⟨v2, rfl, hN, hb⟩; have HN2 := Aside0.mk hN; have HB2 := Aside0.mk hb; clear hN hb)
        obtain ⟨g, cap, e2, hg1, hg2⟩ := HN2.out.form (by have := HYL.out.1; omega)
        subst e2
        have hbx2 := (HB2.out.block _ (blk_lt HBX1.out)).trans HBX1.out
        have hu0 : w2.cell? ⟨gb, 0, none⟩ = some (.slice X q.length d) := (blk_cell hbx2 0).trans rfl
        have hu1 : w2.cell? ⟨gb, 1, none⟩ = some (.int .i32 p) := (blk_cell hbx2 1).trans rfl
        have hu2 : w2.cell? ⟨gb, 2, none⟩ = some (.bool false) := (blk_cell hbx2 2).trans rfl
        obtain ⟨cs, hcl, _, hcc, hcf⟩ := Kd.N_elem HN2.out z27 i (of_eq_true hi0) (of_eq_true hi1)
        have HCL : Aside0 (cs.length = 3) := ⟨hcl⟩
        have HCC := Aside0.mk hcc
        have HF2 := Aside0.mk (Kd.F_below HF1.out HB2.out)
        have HII : Aside0 (0 ≤ i ∧ i < (l.length : Int)) := ⟨⟨of_eq_true hi0, of_eq_true hi1⟩⟩
        clear hbx2 hcl hcc hcf
        go_wp2_with ((with_reducible refine gate_store (t := 27) (p := 33) rfl ?_); refine Kd.N_store k27 (w0 := w1) w1.heap.size rfl rfl 27 (.tmp 33) (.tmp 32) rfl 27 (o' := i.toNat * 3) i 0 l ⟨q, p, false⟩ (.agg #[.slice X q.length d, .int .i32 p, .bool false]) [.slice X q.length d, .int .i32 p, .bool false] cs (fun k => k < B ∨ some k = some g) (fun k => k < B) rfl rfl rfl rfl infoC27 ?h1 HN2.out ?h0 ?hi HCL.out HCC.out (Nat.le_refl 3) ?hM ?hok HB2.out ?_)
        case h1 => intro z hz; simp only [List.mem_cons, List.not_mem_nil, or_false] at hz; rcases hz with rfl | rfl | rfl <;> rfl
        case h0 => exact HII.out.1
        case hi => exact HII.out.2
        case hM =>
          rw [List.take_zero, List.nil_append, List.drop_eq_nil_of_le (by rw [HCL.out]; exact Nat.le_refl 3), List.append_nil]
          exact k27_mkF _ _ ⟨q, p, false⟩ HD.out HF2.out
        case hok => exact fun k hk => ⟨.inl hk, by have := HQ.out; have := HS1.out; omega⟩
        intro w3 hN3 hb3 hg3
        have HN3 : Aside0 (NE B w3 base (.slice (some ⟨g, 0, none⟩) l.length cap) (l.set i.toNat ⟨q, p, false⟩)) := ⟨Kd.N_lower hN3 (by have := HQ.out; have := HS1.out; omega)⟩
        have HG3 := Aside0.mk (World.grownBy.trans HG1.out (grown_of_below hb3 (Value.slice (some ad) l.length c).ownBlock))
        have HGG : Aside0 (w.heap.size ≤ g) := ⟨by have := HQ.out; have := HS1.out; omega⟩
        clear hN3 hb3 hg3
        go_wp2_with fail
        refine bodyPost_ret (results_list (rs := [.tmp 4, .tmp 5]) (by kernel_rfl) (by simp) (.tmp (.tmp .nil))) rfl ?_
        rw [HA.out.1, HA.out.2]
        exact ⟨_, rfl, HN3.out, HG3.out, .inr ⟨g, rfl, HGG.out⟩⟩
end Go.Proofs.YteekkpofcbcikaaDoor.HandWan
end
