/- What stands while a step of a want list is made. -/
import Derived.Test.YteekkpofcbcikaaDoorK1
namespace Go.Proofs.YteekkpofcbcikaaDoor.HandWan
open Go Go.RowKit Go.Proofs.YteekkpofcbcikaaDoorL Go.Proofs.YteekkpofcbcikaaDoorW.PrintWords Go.Proofs.YteekkpofcbcikaaDoorW.PrintLast Go.Proofs.YteekkpofcbcikaaDoorW.PrintMore Go.Proofs.YteekkpofcbcikaaDoor.PWan
attribute [local go_sem] max2_int min2_int max_two min_two max_three min_three max_four min_four
set_option linter.unusedVariables false
set_option linter.unusedSimpArgs false
/-- What stands while a step is made: the step's copy, what is told of it, its identifier. -/
structure TB (wr w' : World) (g b n : Nat) (f : WF) (c gx gt gc : Nat) (x : S31) (A1 : Option Addr) (c1 : Nat) (T : Array Value) : Prop where
  wl : WL w' g b n f c
  fr : Frm wr w' g b
  bx : w'.heap[gx]? = some (.cells #[.int .i64 x.f0, .slice A1 x.f1.f0.length c1, .int .i32 x.f1.f1, .bool x.f1.f2] 31 (0, 0))
  bt : w'.heap[gt]? = some (.cells T 36 (0, 0))
  bc : w'.heap[gc]? = some (.cells #[.string (nm x)] 81 (0, 0))
  ne : (g ≠ gx ∧ g ≠ gt ∧ g ≠ gc) ∧ (b ≠ gx ∧ b ≠ gt ∧ b ≠ gc) ∧ wr.heap.size ≤ gt ∧ gt ≠ gx ∧ gt ≠ gc
section
variable {wr w' w'' : World} {g b n n' c c' gx gt gc c1 : Nat} {f f' : WF} {x : S31} {A1 : Option Addr} {T : Array Value}
theorem TB.call (h : TB wr w' g b n f c gx gt gc x A1 c1 T) (hw : WL w'' g b n' f' c') (hf : Frm w' w'' g b) : TB wr w'' g b n' f' c' gx gt gc x A1 c1 T :=
  ⟨hw, h.fr.trans hf, (hf.block _ (blk_lt h.bx) h.ne.1.1.symm h.ne.2.1.1.symm).trans h.bx, (hf.block _ (blk_lt h.bt) h.ne.1.2.1.symm h.ne.2.1.2.1.symm).trans h.bt, (hf.block _ (blk_lt h.bc) h.ne.1.2.2.symm h.ne.2.1.2.2.symm).trans h.bc, h.ne⟩
theorem TB.below (h : TB wr w' g b n f c gx gt gc x A1 c1 T) (hb : Below w'.heap.size w' w'') : TB wr w'' g b n f c gx gt gc x A1 c1 T :=
  h.call (h.wl.below hb) (Frm.of_below hb g b)
theorem TB.mono (h : TB wr w' g b n f c gx gt gc x A1 c1 T) (hn : n ≤ n') : TB wr w' g b n' f c gx gt gc x A1 c1 T := ⟨h.wl.mono hn, h.fr, h.bx, h.bt, h.bc, h.ne⟩
theorem WL.put {w : World} (h : WL w g b n f c) {q j : Nat} (h1 : g ≠ q) (h2 : b ≠ q) (v : Value) : WL (w.setCell ⟨q, j, none⟩ v) g b n f c :=
  ⟨(Below.heap_setCell _ ⟨q, j, none⟩ _ _ h1).trans h.blk, h.map.set (a := ⟨q, j, none⟩) h2 v⟩
theorem TB.put (h : TB wr w' g b n f c gx gt gc x A1 c1 T) (j : Nat) (v : Value) (hv : v.cells.size = 1) {T' : Array Value} (hT : (w'.setCell ⟨gt, j, none⟩ v).heap[gt]? = some (.cells T' 36 (0, 0))) : TB wr (w'.setCell ⟨gt, j, none⟩ v) g b n f c gx gt gc x A1 c1 T' :=
  ⟨h.wl.put h.ne.1.2.1 h.ne.2.1.2.1 v, frm_put h.fr h.ne.2.2.1 v, (Below.heap_setCell _ ⟨gt, j, none⟩ _ _ h.ne.2.2.2.1.symm).trans h.bx, hT, (Below.heap_setCell _ ⟨gt, j, none⟩ _ _ h.ne.2.2.2.2.symm).trans h.bc, h.ne⟩
theorem TB.R {α : Type} {d : Kd α} {e base : Nat} {v u : Value} {xs : List α} {j : Nat} (h : TB wr w' g b n f c gx gt gc x A1 c1 T) (hr : d.R e w' base (fun _ => True) v xs) (he : 36 ∉ e :: d.E) : d.R e (w'.setCell ⟨gt, j, none⟩ u) base (fun _ => True) v xs := R_put hr h.bt he
end
/-- What is told of a step when it is made. -/
def TT0 : Array Value := #[.bool false, .slice none 0 0, .int .i32 0, .bool false, .int .i64 0, .slice none 0 0]
def TT (ok : Bool) (v : Value) (p : Int) (h : Bool) (k : Int) (u : Value) : Array Value := #[.bool ok, v, .int .i32 p, .bool h, .int .i64 k, u]
theorem drawn_at {w w' : World} (h : Drawn0 w w') : Frm w w' 0 0 := Frm.of_below h.below 0 0
end Go.Proofs.YteekkpofcbcikaaDoor.HandWan
