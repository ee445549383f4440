/- What the closure reads. -/
import Derived.Test.YtnhnlodmkbiiiaaDoorD9
namespace Go.Proofs.YtnhnlodmkbiiiaaDoor.HandDif
open Go Go.RowKit Go.Proofs.YtnhnlodmkbiiiaaDoorL Go.Proofs.YtnhnlodmkbiiiaaDoorW.PrintWords Go.Proofs.YtnhnlodmkbiiiaaDoorW.PrintLast Go.Proofs.YtnhnlodmkbiiiaaDoorW.PrintMore Go.Proofs.YtnhnlodmkbiiiaaDoor.PDif
attribute [local go_sem] max2_int min2_int max_two min_two max_three min_three max_four min_four
set_option linter.unusedVariables false
set_option linter.unusedSimpArgs false
/-- What the closure reads. -/
structure Env (W : World) (al : List Nat) (ds : List S78) (ba bg : Nat) (Aa : Option Addr) (ca : Nat) (Ag : Option Addr) (cg : Nat) : Prop where
  len : al.length = ds.length
  up : al.Pairwise (· < ·)
  ba : W.heap[ba]? = some (.cells #[.slice Aa al.length ca] 134 (0, 0))
  bg : W.heap[bg]? = some (.cells #[.slice Ag ds.length cg] 71 (0, 0))
  hA : Kd.C kpt W Aa al.length al
  hG : Kd.C k78 W Ag ds.length ds
  chg : ∀ (j : Nat) (g : Nat) (x : S78), al[j]? = some g → ds[j]? = some x → Chg W g x
theorem Env.more {W W1 : World} {al : List Nat} {ds : List S78} {ba bg : Nat} {Aa : Option Addr} {ca : Nat} {Ag : Option Addr} {cg : Nat} (h : Env W al ds ba bg Aa ca Ag cg) (hb : Below W.heap.size W W1) : Env W1 al ds ba bg Aa ca Ag cg :=
  ⟨h.len, h.up, (hb.block _ (blk_lt h.ba)).trans h.ba, (hb.block _ (blk_lt h.bg)).trans h.bg, Kd.C_below h.hA hb, Kd.C_below h.hG hb, fun j g x h1 h2 => (hb.block g (blk_lt (h.chg j g x h1 h2))).trans (h.chg j g x h1 h2)⟩
def pd (al : List Nat) (ds : List S78) (g : Nat) : S78 := ds.getD (al.idxOf g) ⟨0, ⟨#[]⟩, [], []⟩
theorem Env.call {W : World} {al : List Nat} {ds : List S78} {ba bg : Nat} {Aa : Option Addr} {ca : Nat} {Ag : Option Addr} {cg : Nat} (h : Env W al ds ba bg Aa ca Ag cg) (hok : ∀ x ∈ ds, OkD x) (hl : al.length ≤ 1000000) (g : Nat) (hg : g ∈ al) :
    Calls Tryd.prog 83 #[.pointer (some ⟨g, 0, none⟩), .pointer (some ⟨ba, 0, none⟩), .pointer (some ⟨bg, 0, none⟩)] W fun e w' => ∃ v2 v3, e = .returned (.agg #[.int .i64 (pd al ds g).f0, .string (pd al ds g).f1, v2, v3]) ∧ Kd.R (Kd.int .u8) 5 w' W.heap.size (fun _ => True) v2 (pd al ds g).f2 ∧ Kd.R (Kd.int .u8) 5 w' W.heap.size (fun _ => True) v3 (pd al ds g).f3 ∧ Below W.heap.size W w' := by
  have hi : al.idxOf g < al.length := List.idxOf_lt_length_of_mem hg
  have hid : al.idxOf g < ds.length := by rw [← h.len]; exact hi
  have e1 : al[al.idxOf g] = g := List.getElem_idxOf hi
  have e2 : pd al ds g = ds[al.idxOf g] := by unfold pd; rw [List.getD_eq_getElem?_getD, List.getElem?_eq_getElem hid]; rfl
  have hj : ∀ (k : Nat) (hk : k < al.length), Chg W al[k] (ds[k]'(by rw [← h.len]; exact hk)) := fun k hk => h.chg k _ _ (List.getElem?_eq_getElem hk) (List.getElem?_eq_getElem _)
  have hc := plain_calls W al ds (al.idxOf g) hi hid h.up ba bg Aa Ag ca cg h.ba h.bg h.hA h.hG (fun k hk => ⟨_, hj k hk⟩) (hj _ hi) hl (hok _ (List.getElem_mem hid))
  rw [e1] at hc
  rw [e2]
  exact hc
theorem Env.paths {W : World} {al : List Nat} {ds : List S78} {ba bg : Nat} {Aa : Option Addr} {ca : Nat} {Ag : Option Addr} {cg : Nat} (h : Env W al ds ba bg Aa ca Ag cg) (hp : ∀ x ∈ ds, x.f1.size ≤ maxLen) (l : List Nat) (hl : ∀ g ∈ l, g ∈ al) : Paths W (fun g => (pd al ds g).f1) l := by
  intro g hg
  have hi : al.idxOf g < al.length := List.idxOf_lt_length_of_mem (hl g hg)
  have hid : al.idxOf g < ds.length := by rw [← h.len]; exact hi
  have e1 : al[al.idxOf g] = g := List.getElem_idxOf hi
  have e2 : pd al ds g = ds[al.idxOf g] := by unfold pd; rw [List.getD_eq_getElem?_getD, List.getElem?_eq_getElem hid]; rfl
  have := h.chg (al.idxOf g) g _ (by rw [List.getElem?_eq_getElem hi, e1]) (List.getElem?_eq_getElem hid)
  show (pd al ds g).f1.size ≤ maxLen ∧ ∃ z0 z2 z3, W.heap[g]? = some (.cells #[z0, .string (pd al ds g).f1, z2, z3] 142 (0, 0))
  rw [e2]
  exact ⟨hp _ (List.getElem_mem hid), _, _, _, this⟩
theorem chgs_both {W W1 : World} {b : Nat} {gs hs : List Nat} {xs ys : List S78} (h1 : Chgs W b gs xs) (h2 : Chgs W1 W.heap.size hs ys) (hb : Below W.heap.size W W1) : (gs ++ hs).Pairwise (· < ·) ∧ (∀ (j : Nat) (g : Nat) (x : S78), (gs ++ hs)[j]? = some g → (xs ++ ys)[j]? = some x → Chg W1 g x) ∧ (gs ++ hs).length = (xs ++ ys).length := by
  refine ⟨?_, ?_, by rw [List.length_append, List.length_append, h1.len, h2.len]⟩
  · rw [List.pairwise_append]
    refine ⟨h1.up, h2.up, fun a ha b hb' => ?_⟩
    have := h1.lt a ha
    have := h2.base b hb'
    omega
  · intro j g x hg hx
    rcases Nat.lt_or_ge j gs.length with hj | hj
    · rw [List.getElem?_append_left hj] at hg
      rw [List.getElem?_append_left (by rw [← h1.len]; exact hj)] at hx
      have := h1.blk j g x hg hx
      exact (hb.block g (blk_lt this)).trans this
    · rw [List.getElem?_append_right hj] at hg
      rw [List.getElem?_append_right (by rw [← h1.len]; exact hj), ← h1.len] at hx
      exact h2.blk _ g x hg hx
end Go.Proofs.YtnhnlodmkbiiiaaDoor.HandDif
