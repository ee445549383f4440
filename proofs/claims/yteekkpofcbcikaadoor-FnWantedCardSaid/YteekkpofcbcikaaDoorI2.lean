/- What the calls of a want list leave as it was. -/
import Derived.Test.YteekkpofcbcikaaDoorI1
namespace Go.Proofs.YteekkpofcbcikaaDoor.HandWan
open Go Go.RowKit Go.Proofs.YteekkpofcbcikaaDoorL Go.Proofs.YteekkpofcbcikaaDoorW.PrintWords Go.Proofs.YteekkpofcbcikaaDoorW.PrintLast Go.Proofs.YteekkpofcbcikaaDoorW.PrintMore
attribute [local go_sem] max2_int min2_int max_two min_two max_three min_three max_four min_four
set_option linter.unusedVariables false
set_option linter.unusedSimpArgs false
/-- All blocks but g and b stay. -/
structure Frm (w w' : World) (g b : Nat) : Prop where
  os : w'.os = w.os
  tape : w'.tape = w.tape
  output : w'.output = w.output
  size : w.heap.size ≤ w'.heap.size
  block : ∀ k, k < w.heap.size → k ≠ g → k ≠ b → w'.heap[k]? = w.heap[k]?
theorem Frm.refl (w : World) (g b : Nat) : Frm w w g b := ⟨rfl, rfl, rfl, Nat.le_refl _, fun _ _ _ _ => rfl⟩
theorem Frm.trans {w w1 w2 : World} {g b : Nat} (h : Frm w w1 g b) (h2 : Frm w1 w2 g b) : Frm w w2 g b :=
  ⟨h2.os.trans h.os, h2.tape.trans h.tape, h2.output.trans h.output, Nat.le_trans h.size h2.size, fun k hk hg hb => (h2.block k (Nat.lt_of_lt_of_le hk h.size) hg hb).trans (h.block k hk hg hb)⟩
theorem Frm.of_below {w w' : World} (h : Below w.heap.size w w') (g b : Nat) : Frm w w' g b := ⟨h.os, h.tape, h.output, h.size, fun k hk _ _ => h.block k hk⟩
theorem Frm.below {B : Nat} {w w' : World} {g b : Nat} (h : Frm w w' g b) (hg : B ≤ g) (hb : B ≤ b) (hB : B ≤ w.heap.size) : Below B w w' :=
  ⟨h.os, h.tape, h.output, h.size, fun k hk => h.block k (by omega) (by omega) (by omega)⟩
/-- Block g is a want list. -/
structure WL (w : World) (g b n : Nat) (f : WF) (c : Nat) : Prop where
  blk : w.heap[g]? = some (.cells #[.map (some b), .slice none 0 0] 142 (0, 0))
  map : WMap w b n f c
theorem WL.ne {w : World} {g b n c : Nat} {f : WF} (h : WL w g b n f c) : g ≠ b := by
  rintro rfl
  obtain ⟨es, k, hb⟩ := h.map.blk
  rw [h.blk] at hb
  cases hb
theorem WL.below {w w' : World} {g b n c : Nat} {f : WF} (h : WL w g b n f c) (hb : Below w.heap.size w w') : WL w' g b n f c := ⟨(hb.block _ (blk_lt h.blk)).trans h.blk, h.map.below hb⟩
theorem WL.mono {w : World} {g b n n' c : Nat} {f : WF} (h : WL w g b n f c) (hn : n ≤ n') : WL w g b n' f c := ⟨h.blk, h.map.mono hn⟩
theorem Frm.R {α : Type} {d : Kd α} {e base g b n c : Nat} {f : WF} {W W1 : World} {v : Value} {xs : List α} (hf : Frm W W1 g b) (hl : WL W g b n f c) (h : d.R e W base (fun _ => True) v xs) (he : 142 ∉ e :: d.E) : d.R e W1 base (fun _ => True) v xs := by
  refine Kd.R_mono (Kd.R_step (Kd.R_bound h) (fun k hk hlt => hf.block k hlt ?_ ?_)) (fun _ _ => trivial)
  · rintro rfl
    obtain ⟨_, _, _, q, hq, cells, hc⟩ := hk
    rw [hl.blk] at hc
    injection hc with hc
    injection hc with _ hc
    exact he (hc ▸ hq)
  · rintro rfl
    obtain ⟨_, _, _, q, _, cells, hc⟩ := hk
    obtain ⟨es, k', hb⟩ := hl.map.blk
    rw [hb] at hc
    cases hc
end Go.Proofs.YteekkpofcbcikaaDoor.HandWan
