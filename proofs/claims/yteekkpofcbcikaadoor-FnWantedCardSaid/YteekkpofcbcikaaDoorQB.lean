/- Several texts of this claim, joined. -/
import Derived.Test.YteekkpofcbcikaaDoorQA
import Derived.Test.YteekkpofcbcikaaDoorSortLay
/- The order of names is one that slices.SortFunc asks for. -/
section
namespace Go.Proofs.YteekkpofcbcikaaDoor.HandWan
open Go Go.RowKit Go.Proofs.YteekkpofcbcikaaDoorL Go.Proofs.YteekkpofcbcikaaDoorW.PrintWords Go.Proofs.YteekkpofcbcikaaDoorW.PrintLast Go.Proofs.YteekkpofcbcikaaDoorW.PrintMore Go.Proofs.YteekkpofcbcikaaDoor.PWan
attribute [local go_sem] max2_int min2_int max_two min_two max_three min_three max_four min_four
set_option linter.unusedVariables false
set_option linter.unusedSimpArgs false
/-! The order of names is one that slices.SortFunc asks for. -/
theorem swo_names {α : Type} (g : α → List Int) : Go.Sort.SWO (Go.Proofs.ltOf fun x y : α => cmpI (g x) (g y)) where
  irrefl x := by
    unfold Go.Proofs.ltOf
    exact decide_eq_false (fun h => List.lt_irrefl _ ((cmpI_lt _ _).1 h))
  trans x y z h1 h2 := by
    unfold Go.Proofs.ltOf at *
    exact decide_eq_true ((cmpI_lt _ _).2 (List.lt_trans ((cmpI_lt _ _).1 (of_decide_eq_true h1)) ((cmpI_lt _ _).1 (of_decide_eq_true h2))))
  ntrans x y z h1 h2 := by
    unfold Go.Proofs.ltOf at *
    refine decide_eq_false (fun h => ?_)
    have a1 := List.not_lt.1 (fun h' => of_decide_eq_false h1 ((cmpI_lt _ _).2 h'))
    have a2 := List.not_lt.1 (fun h' => of_decide_eq_false h2 ((cmpI_lt _ _).2 h'))
    exact List.not_lt.2 (List.le_trans a2 a1) ((cmpI_lt _ _).1 h)
/-- Names that do not part are the same bytes. -/
theorem tot_names {α : Type} (g : α → List Int) (x y : α) (h1 : Go.Proofs.ltOf (fun x y : α => cmpI (g x) (g y)) x y = false) (h2 : Go.Proofs.ltOf (fun x y : α => cmpI (g x) (g y)) y x = false) : Lib.bytesOf (g x) = Lib.bytesOf (g y) := by
  unfold Go.Proofs.ltOf at *
  exact List.le_antisymm (List.not_lt.1 (fun h' => of_decide_eq_false h2 ((cmpI_lt _ _).2 h'))) (List.not_lt.1 (fun h' => of_decide_eq_false h1 ((cmpI_lt _ _).2 h')))
end Go.Proofs.YteekkpofcbcikaaDoor.HandWan
end
/- What slices.SortFunc asks of the comparison. -/
section
namespace Go.Proofs.YteekkpofcbcikaaDoor.HandWan
open Go Go.RowKit Go.Proofs.YteekkpofcbcikaaDoorL Go.Proofs.YteekkpofcbcikaaDoorW.PrintWords Go.Proofs.YteekkpofcbcikaaDoorW.PrintLast Go.Proofs.YteekkpofcbcikaaDoorW.PrintMore Go.Proofs.YteekkpofcbcikaaDoor.PWan
attribute [local go_sem] max2_int min2_int max_two min_two max_three min_three max_four min_four
set_option linter.unusedVariables false
set_option linter.unusedSimpArgs false
/-! What slices.SortFunc asks of the comparison. -/
theorem grown_sortedK {α : Type} [Inhabited α] {w : World} (enc : α → List Value) (k blk off m : Nat) (dk : Array α) (os : Array Obj) : w.grownBy (Go.Proofs.sortWorldK enc k w blk off m dk os) (some blk) := by
  unfold Go.Proofs.sortWorldK Go.Sort.putRowK
  refine ⟨rfl, rfl, rfl, by simp, fun j hk hne => ?_⟩
  rw [Go.Sort.heap_grow_old _ _ (by simpa using hk)]
  have : blk ≠ j := fun e => hne (by rw [e])
  simp [Go.Sort.putRowK, Go.Sort.putRow, Go.Sort.mapBlock, Go.Sort.ahead, Array.getElem?_modify, this]
theorem cmp_lays {n : Nat} [Inhabited (Fin n)] (enc : Fin n → List Value) (g : Fin n → List Int) (w : World) (blk off size : Nat) (he : ∀ i, ∃ A c p b, enc i = [.slice A (g i).length c, .int .i32 p, .bool b] ∧ Kd.F (Kd.int .u8) w (fun k => some k ≠ some blk ∧ k < w.heap.size) A (g i).length (g i)) : Go.Proofs.CmpLays Tryd.prog 48 #[] enc 3 (fun i j => cmpI (g i) (g j)) blk off size w := by
  intro m os dk hdk x y
  obtain ⟨A, c, p, b, e1, F1⟩ := he x
  obtain ⟨B, d, q, b', e2, F2⟩ := he y
  have hg := grown_sortedK (w := w) enc 3 blk off m dk os
  have C1 := F1 _ (fun k hk hlt => hg.block k hlt hk.1)
  have C2 := F2 _ (fun k hk hlt => hg.block k hlt hk.1)
  rw [e1, e2]
  refine (cmp_calls (g x) (g y) p q b b' A B c d _ C1 C2).mono ?_
  rintro e w' ⟨rfl, rfl⟩
  exact ⟨rfl, 0, _, by rw [Go.Sort.alloc_eq_grow, Go.Sort.alloc_eq_grow, Go.Sort.grow_grow]; rfl⟩
end Go.Proofs.YteekkpofcbcikaaDoor.HandWan
end
/- slices.SortFunc at entries. -/
section
namespace Go.Proofs.YteekkpofcbcikaaDoor.HandWan
open Go Go.RowKit Go.Proofs.YteekkpofcbcikaaDoorL Go.Proofs.YteekkpofcbcikaaDoorW.PrintWords Go.Proofs.YteekkpofcbcikaaDoorW.PrintLast Go.Proofs.YteekkpofcbcikaaDoorW.PrintMore Go.Proofs.YteekkpofcbcikaaDoor.PWan
attribute [local go_sem] max2_int min2_int max_two min_two max_three min_three max_four min_four
set_option linter.unusedVariables false
set_option linter.unusedSimpArgs false
/-! slices.SortFunc at entries. -/
def sortE (l : List S27) : List S27 := l.mergeSort fun a b => !(decide (cmpI b.f0 a.f0 < 0))
theorem sortE_len (l : List S27) : (sortE l).length = l.length := List.length_mergeSort _
open Go.Sort in
theorem flat_chunk {n : Nat} [Inhabited (Fin n)] (enc : Fin n → List Value) (hk : ∀ i, (enc i).length = 3) (d : Array (Fin n)) (j : Nat) (hj : j < d.size) : ((flatK enc 3 d).toList.drop (j * 3)).take 3 = enc d[j]! := by
  apply List.ext_getElem?
  intro i
  by_cases hi : i < 3
  · rw [List.getElem?_take_of_lt hi, List.getElem?_drop, Array.getElem?_toList]
    have ht : j * 3 + i < d.size * 3 := by omega
    have h1 := get_flatK enc 3 d (j * 3 + i) ht
    have hs : j * 3 + i < (flatK enc 3 d).size := by rw [size_flatK]; exact ht
    rw [getElem!_pos (flatK enc 3 d) (j * 3 + i) hs, show (j * 3 + i) / 3 = j by omega, show (j * 3 + i) % 3 = i by omega] at h1
    rw [Array.getElem?_eq_getElem hs, h1, getElem!_pos (enc d[j]!) i (by rw [hk]; exact hi), List.getElem?_eq_getElem (by rw [hk]; exact hi)]
  · rw [List.getElem?_take_eq_none (by omega), List.getElem?_eq_none (by rw [hk]; omega)]
open Go.Sort in
theorem take_flat (cur : Array Value) (F : Array Value) (h : F.size ≤ cur.size) : (putCells id 0 F cur).toList.take F.size = F.toList := by
  apply List.ext_getElem?
  intro j
  by_cases hj : j < F.size
  · rw [List.getElem?_take_of_lt hj, Array.getElem?_toList, Array.getElem?_toList]
    simp [putCells, hj, show j < cur.size by omega]
  · rw [List.getElem?_take_eq_none (by omega), List.getElem?_eq_none (by simp; omega)]
open Go.Sort in
theorem heap_sortK {α : Type} [Inhabited α] {w : World} {g n k : Nat} {os : Array Obj} {cur : Array Value} {e : TypeId} {fr : Nat × Nat} (enc : α → List Value) (d : Array α) (hb : w.heap[g]? = some (.cells cur e fr)) :
    (Go.Proofs.sortWorldK enc k w g 0 n d os).heap[g]? = some (.cells (putCells id 0 (flatK enc k d) cur) e fr) := by
  have hg : g < w.heap.size := (Array.getElem?_eq_some_iff.1 hb).1
  unfold Go.Proofs.sortWorldK putRowK
  rw [heap_grow_old _ _ (by simpa using hg)]
  simp [putRow, mapBlock, Sort.ahead, Array.getElem?_modify, hb, onCells]
theorem fin_map {α : Type} (l : List α) : (List.finRange l.length).map (fun i => l[i.val]) = l := by
  apply List.ext_getElem
  · simp
  · intro i h1 h2; simp
/-- The places of a row, sorted by their names; the row sorted is the row at them. -/
def sortP (l : List S27) : List (Fin l.length) := (List.finRange l.length).mergeSort fun x y => !(Go.Proofs.ltOf (fun i j : Fin l.length => cmpI l[i.val].f0 l[j.val].f0) y x)
theorem sortP_map (l : List S27) : (sortP l).map (fun i => l[i.val]) = sortE l := by
  unfold sortP sortE
  rw [List.map_mergeSort (s := fun a b => !(decide (cmpI b.f0 a.f0 < 0))), fin_map]
  intro a _ b _
  rfl
theorem sortP_len (l : List S27) : (sortP l).length = l.length := by
  unfold sortP
  rw [List.length_mergeSort, List.length_finRange]
theorem agg27 : ∀ w, (isAgg 27).run Tryd.prog w = .ok true w := by
  intro w
  obtain ⟨i0, hi, hz0, hz1, hz2⟩ := info_parts info27e
  simp [isAgg, typeInfo, hi, hz0]
theorem size27 : ∀ w, (Go.sizeOf 27).run Tryd.prog w = .ok 3 w := by
  intro w
  obtain ⟨i0, hi, hz0, hz1, hz2⟩ := info_parts info27e
  simp [Go.sizeOf, typeInfo, hi, hz1]
theorem sortent_calls (v : Value) (l : List S27) (w : World) (base : Nat) (ok : Nat → Prop) (h : Kd.N k27 27 w base ok v l) (hl : l.length ≤ 1000) (hd : ∀ i j : Fin l.length, Lib.bytesOf l[i.val].f0 = Lib.bytesOf l[j.val].f0 → i = j) :
    Calls Tryd.prog 47 #[v, .func (.func 48) #[] #[]] w fun e w' => e = .returned (.tuple #[]) ∧ Kd.N k27 27 w' base ok v (sortE l) ∧ w.grownBy w' v.ownBlock := by
  have hN := h
  obtain ⟨h0, rows, hrl, ⟨hr0, inner, ho, hreps⟩, hF⟩ := h
  obtain ⟨hn, hcase⟩ := ho
  have hnone : ∀ (p : Option Addr) (cap : Nat), Calls Tryd.prog 47 #[.slice p 0 cap, .func (.func 48) #[] #[]] w fun e w' => e = .returned (.tuple #[]) ∧ w' = w := fun p cap => Go.Proofs.AnyF.slices_SortFunc_none (P := Tryd.prog) (ρ := Tryd.sortEnt_ren) Tryd.sortEnt p cap (.func (.func 48) #[] #[]) w
  by_cases hp : l.length = 0
  · have e0 : l = [] := List.eq_nil_of_length_eq_zero hp
    subst e0
    have es : sortE [] = [] := List.eq_nil_of_length_eq_zero (sortE_len [])
    have er : rows.length = 0 := hrl
    obtain ⟨p, cap, rfl⟩ : ∃ p cap, v = .slice p 0 cap := by
      rcases hcase with ⟨rfl, _⟩ | ⟨g, cap, _, rfl, _⟩
      · exact ⟨_, _, rfl⟩
      · exact ⟨_, _, by rw [er]⟩
    refine (hnone p cap).mono ?_
    rintro e w' ⟨rfl, rfl⟩
    rw [es]
    exact ⟨rfl, hN, grown_of_below (Below.refl _ _) _⟩
  · rcases hcase with ⟨rfl, hz⟩ | ⟨g, cap, cur, rfl, hbase, hb, h1, h2, h3, h4⟩
    · exact absurd (hrl.symm.trans hz) hp
    · haveI : Inhabited (Fin l.length) := ⟨⟨0, by omega⟩⟩
      obtain ⟨enc, henc⟩ : ∃ enc : Fin l.length → List Value, enc = fun i => rows[i.val]'(by rw [hrl]; exact i.isLt) := ⟨_, rfl⟩
      have hrow : ∀ i : Fin l.length, rows[i.val]? = some (enc i) := fun i => by rw [henc]; exact List.getElem?_eq_getElem _
      have hR : ∀ i : Fin l.length, (inner.drop (i.val * 3)).take 3 = enc i ∧ (enc i).length = 3 ∧ ∀ u ∈ enc i, u.oneCell' = true := fun i => by
        have h5 : (inner.drop (i.val * 3)).take 3 = enc i ∧ ((inner.drop (i.val * 3)).take 3).length = 3 ∧ ∀ u ∈ (inner.drop (i.val * 3)).take 3, u.oneCell' = true := hreps.2 i.val (enc i) (hrow i)
        have h6 := h5.2
        rw [h5.1] at h6
        exact ⟨h5.1, h6⟩
      have hk : ∀ i, (enc i).length = 3 := fun i => (hR i).2.1
      obtain ⟨d0, hd0⟩ : ∃ d0 : Array (Fin l.length), d0 = (List.finRange l.length).toArray := ⟨_, rfl⟩
      have hs0 : d0.size = l.length := by rw [hd0]; simp
      have hget : ∀ (t : Nat) (ht : t < l.length), d0[t]! = ⟨t, ht⟩ := fun t ht => by
        rw [getElem!_pos _ t (by rw [hs0]; exact ht)]
        simp [hd0]
      have hcur : ∀ t, t < l.length * 3 → cur[t]? = inner[t]? := fun t ht => by
        rw [← h4, ← Array.getElem?_toList]
        rw [List.getElem?_take_of_lt (by rw [hrl]; exact ht)]
      have hH : Go.Sort.HoldsK enc 3 w g 0 d0 := by
        intro t ht
        have ht : t < l.length * 3 := by rw [Go.Sort.size_flatK, hs0] at ht; exact ht
        refine ⟨?_, by simp [World.frozen?, hb]⟩
        have hlt : t / 3 < l.length := by omega
        rw [Go.Sort.get_flatK _ _ _ _ (by rw [hs0]; exact ht), hget _ hlt]
        simp only [World.cell?, hb, Nat.zero_add, Option.isSome_none, Bool.false_eq_true, if_false]
        rw [hcur t ht]
        have h6 := (hR ⟨t / 3, hlt⟩).1
        have h7 := hk ⟨t / 3, hlt⟩
        have hm : t % 3 < 3 := by omega
        rw [getElem!_pos _ _ (by rw [h7]; exact hm)]
        have h8 : (enc ⟨t / 3, hlt⟩)[t % 3]? = inner[t]? := by
          rw [← h6, List.getElem?_take_of_lt hm, List.getElem?_drop]
          congr 1
          show t / 3 * 3 + t % 3 = t
          omega
        rw [← h8, List.getElem?_eq_getElem (by rw [h7]; exact hm)]
        rfl
      have he : ∀ i : Fin l.length, ∃ A c p b, enc i = [.slice A (l[i.val].f0).length c, .int .i32 p, .bool b] ∧ Kd.F (Kd.int .u8) w (fun k => some k ≠ some g ∧ k < w.heap.size) A (l[i.val].f0).length l[i.val].f0 := fun i => by
        obtain ⟨A0, c0, e1, _, f1⟩ := k27_openF (Kd.FK_bound (hF i.val l[i.val] (enc i) (List.getElem?_eq_getElem _) (hrow i)))
        exact ⟨A0, c0, _, _, e1, Kd.F_mono f1 (fun k hk => ⟨hk.1.2, hk.2⟩)⟩
      have hS := Go.Proofs.AnyQ.slices_SortFunc_total (P := Tryd.prog) (ρ := Tryd.sortEnt_ren) Tryd.sortEnt 3 agg27 size27 enc hk (fun i => (hR i).2.2) (fun i j : Fin l.length => cmpI l[i.val].f0 l[j.val].f0) (swo_names fun i : Fin l.length => l[i.val].f0) 48 #[] g 0 cap d0 w (Go.Proofs.enters_of Tryd.func48 (by kernel_rfl) rfl) (cmp_lays enc (fun i => l[i.val].f0) w g 0 d0.size he) hH (blk_lt hb) (by omega) (fun x y a b => hd x y (tot_names (fun i : Fin l.length => l[i.val].f0) x y a b))
      have hS : Calls Tryd.prog 47 #[.slice (some ⟨g, 0, none⟩) d0.size cap, .func (.func 48) #[] #[]] w fun e w' => e = .returned (.tuple #[]) ∧ ∃ n os, w' = Go.Proofs.sortWorldK enc 3 w g 0 n (d0.toList.mergeSort fun x y => !(Go.Proofs.ltOf (fun i j : Fin l.length => cmpI l[i.val].f0 l[j.val].f0)) y x).toArray os := hS
      have hsp : (d0.toList.mergeSort fun x y => !(Go.Proofs.ltOf (fun i j : Fin l.length => cmpI l[i.val].f0 l[j.val].f0)) y x) = sortP l := by
        have e0 : d0.toList = List.finRange l.length := by rw [hd0]
        unfold sortP
        rw [e0]
      have hs1 : d0.size = rows.length := hs0.trans hrl.symm
      rw [hsp, hs1] at hS
      refine hS.mono ?_
      rintro e w' ⟨rfl, m, os, rfl⟩
      have hg := grown_sortedK (w := w) enc 3 g 0 m (sortP l).toArray os
      have hln : ((sortP l).map enc).length = rows.length := by rw [List.length_map, sortP_len, hrl]
      have hsz : (Go.Sort.flatK enc 3 (sortP l).toArray).size = rows.length * 3 := by rw [Go.Sort.size_flatK]; simp [sortP_len, hrl]
      have h3 : cur.size = cap * 3 := h3
      refine ⟨rfl, ⟨h0, (sortP l).map enc, by rw [hln, sortE_len, hrl], ⟨fun k hk => hk.symm, (Go.Sort.flatK enc 3 (sortP l).toArray).toList, ⟨?_, .inr ⟨g, cap, _, by rw [hln], hbase, heap_sortK enc _ hb, by rw [hln]; exact h1, h2, by show (Go.Sort.putCells id 0 _ cur).size = cap * 3; simpa [Go.Sort.putCells] using h3, ?_⟩⟩, ?_⟩, ?_⟩, hg⟩
      · rw [hln, Array.length_toList, hsz]; rfl
      · rw [hln]
        have h5 := take_flat cur (Go.Sort.flatK enc 3 (sortP l).toArray) (by rw [hsz, h3]; exact Nat.mul_le_mul_right 3 h1)
        rw [hsz] at h5
        exact h5
      · refine ⟨by rw [hln, Array.length_toList, hsz]; rfl, fun j p hj => ?_⟩
        have hjl : j < (sortP l).length := by have := (List.getElem?_eq_some_iff.1 hj).1; rwa [List.length_map] at this
        have hp : p = enc (sortP l)[j] := by
          rw [List.getElem?_map, List.getElem?_eq_getElem hjl] at hj
          exact (Option.some.inj hj).symm
        have h5 := flat_chunk enc hk (sortP l).toArray j (by simpa using hjl)
        have h6 : (sortP l).toArray[j]! = (sortP l)[j] := by rw [getElem!_pos _ j (by simpa using hjl)]; simp
        rw [h6] at h5
        show _ = p ∧ _
        have h5 : List.take (Kd.raw k27.sz).sz (List.drop (j * (Kd.raw k27.sz).sz) (Go.Sort.flatK enc 3 (sortP l).toArray).toList) = enc (sortP l)[j] := h5
        rw [h5, hp]
        exact ⟨rfl, hk _, (hR _).2.2⟩
      · intro j x c hx hc
        have hjl : j < (sortP l).length := by have := (List.getElem?_eq_some_iff.1 hc).1; rwa [List.length_map] at this
        rw [List.getElem?_map, List.getElem?_eq_getElem hjl] at hc
        rw [← sortP_map, List.getElem?_map, List.getElem?_eq_getElem hjl] at hx
        have hc := Option.some.inj hc
        have hx := Option.some.inj hx
        rw [← hc, ← hx]
        exact Kd.FK_step (hF _ _ _ (List.getElem?_eq_getElem _) (hrow _)) (fun k hk hlt => hg.block k hlt hk.2)
end Go.Proofs.YteekkpofcbcikaaDoor.HandWan
end
