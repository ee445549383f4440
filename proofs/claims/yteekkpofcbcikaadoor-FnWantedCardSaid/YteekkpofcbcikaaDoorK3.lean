/- What a row's growing leaves as it was. -/
import Derived.Test.YteekkpofcbcikaaDoorK2
namespace Go.Proofs.YteekkpofcbcikaaDoor.HandWan
open Go Go.RowKit Go.Proofs.YteekkpofcbcikaaDoorL Go.Proofs.YteekkpofcbcikaaDoorW.PrintWords Go.Proofs.YteekkpofcbcikaaDoorW.PrintLast Go.Proofs.YteekkpofcbcikaaDoorW.PrintMore Go.Proofs.YteekkpofcbcikaaDoor.PWan
attribute [local go_sem] max2_int min2_int max_two min_two max_three min_three max_four min_four
set_option linter.unusedVariables false
set_option linter.unusedSimpArgs false
theorem Frm.then_below {B : Nat} {w w1 w2 : World} {g b : Nat} (h : Frm w w1 g b) (hb : Below B w1 w2) (hB : w.heap.size ≤ B) : Frm w w2 g b :=
  ⟨hb.os.trans h.os, hb.tape.trans h.tape, hb.output.trans h.output, Nat.le_trans h.size hb.size, fun k hk h1 h2 => (hb.block k (by omega)).trans (h.block k hk h1 h2)⟩
theorem Frm.grown {w w1 w2 : World} {g b : Nat} {row : Option Nat} (h : Frm w w1 g b) (hg : w1.grownBy w2 row) (hr : ∀ k, row = some k → w.heap.size ≤ k) : Frm w w2 g b := by
  have hB := Below.grown (Below.refl w.heap.size w1) hg h.size hr
  exact ⟨hB.os.trans h.os, hB.tape.trans h.tape, hB.output.trans h.output, Nat.le_trans h.size hB.size, fun k hk h1 h2 => (hB.block k hk).trans (h.block k hk h1 h2)⟩
theorem WL.grown {w w1 : World} {g b n c : Nat} {f : WF} {row : Option Nat} {t : Nat} (h : WL w g b n f c) (hg : w.grownBy w1 row) (hr : ∀ k, row = some k → ∃ cells, w.heap[k]? = some (.cells cells t (0, 0))) (ht : t ≠ 142) : WL w1 g b n f c := by
  refine ⟨(hg.block g (blk_lt h.blk) (fun e => ?_)).trans h.blk, h.map.kept hg (fun e => ?_)⟩
  · obtain ⟨cs, hc⟩ := hr g e.symm
    rw [h.blk] at hc
    injection hc with hc
    injection hc with _ hc
    exact ht hc.symm
  · obtain ⟨cs, hc⟩ := hr b e.symm
    obtain ⟨es, k, hb⟩ := h.map.blk
    rw [hb] at hc
    cases hc
theorem TB.grow {wr w' w'' : World} {g b n c gx gt gc c1 : Nat} {f : WF} {x : S31} {A1 : Option Addr} {T : Array Value} {row : Option Nat} {t : Nat} (h : TB wr w' g b n f c gx gt gc x A1 c1 T) (hg : w'.grownBy w'' row) (hr : ∀ k, row = some k → ∃ cells, w'.heap[k]? = some (.cells cells t (0, 0))) (hw : ∀ k, row = some k → wr.heap.size ≤ k) (ht : t ≠ 142 ∧ t ≠ 31 ∧ t ≠ 36 ∧ t ≠ 81) : TB wr w'' g b n f c gx gt gc x A1 c1 T := by
  have no : ∀ q cs u, w'.heap[q]? = some (.cells cs u (0, 0)) → t ≠ u → some q ≠ row := by
    intro q cs u hq hu e
    obtain ⟨cs', hc⟩ := hr q e.symm
    rw [hq] at hc
    injection hc with hc
    injection hc with _ hc
    exact hu hc.symm
  exact ⟨h.wl.grown hg hr ht.1, h.fr.grown hg hw, (hg.block _ (blk_lt h.bx) (no _ _ _ h.bx ht.2.1)).trans h.bx, (hg.block _ (blk_lt h.bt) (no _ _ _ h.bt ht.2.2.1)).trans h.bt, (hg.block _ (blk_lt h.bc) (no _ _ _ h.bc ht.2.2.2)).trans h.bc, h.ne⟩
theorem R_row {α : Type} {d : Kd α} {e base t : Nat} {W W1 : World} {v : Value} {xs : List α} {row : Option Nat} (h : d.R e W base (fun _ => True) v xs) (hg : W.grownBy W1 row) (hr : ∀ k, row = some k → ∃ cells, W.heap[k]? = some (.cells cells t (0, 0))) (he : t ∉ e :: d.E) : d.R e W1 base (fun _ => True) v xs := by
  refine Kd.R_mono (Kd.R_grown (Kd.R_bound h) hg (fun k hk hk2 => ?_)) (fun _ _ => trivial)
  obtain ⟨_, _, _, q, hq, cells, hc⟩ := hk
  obtain ⟨cs', hc'⟩ := hr k hk2.symm
  rw [hc] at hc'
  injection hc' with hc'
  injection hc' with _ hc'
  exact he (hc' ▸ hq)
theorem R_ge {α : Type} {d : Kd α} {e B base : Nat} {W : World} {v : Value} {xs : List α} (h : d.R e W B (fun _ => True) v xs) (hb : base ≤ B) : d.R e W base (fun k => B ≤ k) v xs :=
  Kd.R_lower (Kd.R_mono (Kd.R_bound h) (fun _ hk => hk.2.1)) hb
theorem at_str {w : World} {A : Option Addr} {ns : List ByteArray} (h : Kd.C Kd.string w A ns.length ns) (i : Int) (j : Nat) (hij : i = (j : Int)) (hj : j < ns.length) : ∃ ad, A = some ad ∧ w.cell? (ad.add i.toNat) = some (.string ns[j]) := by
  obtain ⟨ad, c, e, _, hK, hc⟩ := Kd.C_get h ByteArray.empty i (by omega) (by omega)
  have hk : c = [Value.string (ns.getD i.toNat ByteArray.empty)] := hK
  have ex : ns.getD i.toNat ByteArray.empty = ns[j] := by rw [hij, Int.toNat_natCast, List.getD_eq_getElem?_getD, List.getElem?_eq_getElem hj]; rfl
  rw [ex] at hk
  refine ⟨ad, e, ?_⟩
  have := hc 0 _ (by rw [hk]; rfl)
  have e2 : i.toNat * Kd.string.sz + 0 = i.toNat := by show i.toNat * 1 + 0 = _; omega
  rw [e2] at this
  exact this
theorem allF_snoc (ns : List ByteArray) (f : WF) (j : Nat) (hj : j < ns.length) : allF (ns.take (j + 1)) f = allF (ns.take j) f ++ (match f ns[j] with | some v => [entS ns[j] v] | none => []) := by
  unfold allF
  rw [List.take_succ_eq_append_getElem hj, List.filterMap_append]
  congr 1
  cases h : f ns[j] with
  | none => simp [h]
  | some v => simp [h]
theorem allF_len (ns : List ByteArray) (f : WF) : (allF ns f).length ≤ ns.length := List.length_filterMap_le _ _
theorem info27e : (Tryd.prog.info? 27).map (fun i => (i.zero, i.size, i.bytes)) = some (some (.agg #[.slice none 0 0, .int .i32 0, .bool false]), 3, 32) := by kernel_rfl
theorem info36e : (Tryd.prog.info? 36).map (fun i => (i.zero, i.size, i.bytes)) = some (some (.agg #[.bool false, .slice none 0 0, .int .i32 0, .bool false, .int .i64 0, .slice none 0 0]), 6, 72) := by kernel_rfl
end Go.Proofs.YteekkpofcbcikaaDoor.HandWan
