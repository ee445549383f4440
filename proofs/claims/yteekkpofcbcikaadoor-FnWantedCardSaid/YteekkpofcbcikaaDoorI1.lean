/- Maps from identifiers to entries. -/
import Derived.Test.YteekkpofcbcikaaDoorI0
import Derived.Maps.OwnSet
import Derived.StringKeys
import Derived.DeepKeys4
namespace Go.Proofs.YteekkpofcbcikaaDoor.HandWan
open Go Go.RowKit Go.Proofs.YteekkpofcbcikaaDoorL Go.Proofs.YteekkpofcbcikaaDoorW.PrintWords Go.Proofs.YteekkpofcbcikaaDoorW.PrintLast Go.Proofs.YteekkpofcbcikaaDoorW.PrintMore
attribute [local go_sem] max2_int min2_int max_two min_two max_three min_three max_four min_four
set_option linter.unusedVariables false
set_option linter.unusedSimpArgs false
open Go.Maps (Keyed)
theorem laidOut : laidOutB Tryd.prog = true := by kernel_rfl
theorem Kc : Keyed Tryd.prog 81 := Keyed.of_law (deep_law_laid (m := 5) laidOut (by decide) (by decide +kernel) (by kernel_rfl) (by kernel_rfl))
theorem lits_c (d : Nat) (s : ByteArray) (hs : s.size ≤ maxLen) : Tryd.prog.keyLits (d + 2) 81 [.string s] = some [.string s.data.toList] := by
  have h9 : Tryd.prog.keyLits (d + 1) 9 [.string s] = some [.string s.data.toList] := by
    unfold Program.keyLits
    rw [Tryd.underlying9]
    simp only [hs, if_true]
  unfold Program.keyLits
  rw [Tryd.underlying81]
  have hc : Tryd.prog.cellsOf 81 = 1 := by kernel_rfl
  have hc9 : Tryd.prog.cellsOf 9 = 1 := by kernel_rfl
  simp only [hc, List.length_cons, List.length_nil]
  simp [h9, hc9]
theorem keyc (s : ByteArray) (hs : s.size ≤ maxLen) : keyOf Tryd.prog 81 (.agg #[.string s]) = some (.string (keyBytes [.string s.data.toList])) := by
  unfold keyOf
  rw [Tryd.underlying81]
  have h1 : Tryd.prog.keyType 81 = true := by kernel_rfl
  have h2 : (Value.agg #[.string s]).formed Tryd.prog 81 = true := by kernel_rfl
  have h3 : ∃ d, Tryd.prog.types.size + 1 = d + 2 := by
    have h : Tryd.prog.types.size = 258 := by kernel_rfl
    exact ⟨257, by rw [h]⟩
  obtain ⟨d, hd⟩ := h3
  have h4 := lits_c d s hs
  rw [← hd] at h4
  have h5 : (Value.agg #[.string s]).cells.toList = [.string s] := rfl
  simp only [h1, h2, Bool.and_self, if_true, h5, h4, Option.map_some]
def kC (s : ByteArray) : Lit := .string (keyBytes [.string s.data.toList])
theorem kC_inj {s s' : ByteArray} (hs : s.size ≤ maxLen) (hs' : s'.size ≤ maxLen) (h : kC s = kC s') : s = s' := by
  have h1 := keyc s hs
  have h2 := keyc s' hs'
  unfold kC at h
  rw [← h] at h2
  have h4 : (#[Value.string s] : Array Value) = #[.string s'] := Value.agg.inj (Kc.inj h1 h2)
  have h5 : [Value.string s] = [Value.string s'] := congrArg Array.toList h4
  exact Value.string.inj (List.cons.inj h5).1
theorem kC_key (s : ByteArray) : WideAt.IsKeyLit (kC s) := trivial
/-- How an entry reads. -/
def Re : Value → Option (DataW Unit × List MemPlace)
  | .agg ⟨[.string s, .int .i32 p, .int .i32 t]⟩ => some (.agg [.lit (.string s.data.toList), .lit (.int .i32 p), .lit (.int .i32 t)], [])
  | _ => none
def entD (s : ByteArray) (p t : Int) : DataW Unit := .agg [.lit (.string s.data.toList), .lit (.int .i32 p), .lit (.int .i32 t)]
def entV (s : ByteArray) (p t : Int) : Value := .agg #[.string s, .int .i32 p, .int .i32 t]
theorem Re_inv {v : Value} {ps : List MemPlace} {s : ByteArray} {p t : Int} (h : Re v = some (entD s p t, ps)) : v = entV s p t := by
  unfold Re at h
  split at h
  · next s' p' t' =>
    simp only [entD, Option.some.injEq, Prod.mk.injEq, DataW.agg.injEq, List.cons.injEq, DataW.lit.injEq, Lit.string.injEq, Lit.int.injEq, and_true, true_and] at h
    obtain ⟨⟨h1, h2, h3⟩, _⟩ := h
    have hs : s' = s := by
      obtain ⟨d⟩ := s
      obtain ⟨d'⟩ := s'
      congr 1
      exact Array.toList_inj.1 h1
    rw [hs, h2, h3]
    rfl
  · cases h
theorem infoE : (Tryd.prog.info? 92).map (fun i => (i.zero, i.size, i.bytes)) = some (some (entV ⟨#[]⟩ 0 0), 3, 24) := by kernel_rfl
abbrev WF := ByteArray → Option (Int × Int)
/-- Block b is a map of c entries, at most n: from identifiers to their priorities and types. -/
def WMap (W : World) (b n : Nat) (f : WF) (c : Nat) : Prop :=
  ∃ D, W.ownsMap Tryd.prog 81 Re b n D ∧ (∀ s, s.size ≤ maxLen → ∀ zd, D.atKey (kC s) zd = match f s with | some (p, t) => entD s p t | none => zd) ∧ Maps.size D = c
theorem WMap.made (w : World) : WMap (w.alloc (.map #[] 0)) w.heap.size 0 (fun _ => none) 0 :=
  ⟨_, World.ownsMap_made w Tryd.prog 81 Re, fun s _ zd => WideAt.atKey_none zd (fun p hp => by cases hp), rfl⟩
theorem WMap.kept {w w' : World} {b n c : Nat} {f : WF} {row : Option Nat} (h : WMap w b n f c) (hg : w.grownBy w' row) (hne : some b ≠ row) : WMap w' b n f c := by
  obtain ⟨D, h1, h2⟩ := h
  exact ⟨D, h1.kept hg hne, h2⟩
theorem WMap.lt {w : World} {b n c : Nat} {f : WF} (h : WMap w b n f c) : b < w.heap.size := by
  obtain ⟨D, h1, _⟩ := h
  exact h1.lt
theorem WMap.below {w w' : World} {b n c : Nat} {f : WF} (h : WMap w b n f c) (hb : Below w.heap.size w w') : WMap w' b n f c := h.kept (grown_of_below hb none) (by simp)
theorem WMap.set {w : World} {b n c : Nat} {f : WF} (h : WMap w b n f c) {a : Addr} (ha : b ≠ a.block) (u : Value) : WMap (w.setCell a u) b n f c := by
  obtain ⟨D, h1, h2⟩ := h
  exact ⟨D, h1.setCell ha u, h2⟩
theorem WMap.mono {w : World} {b n n' c : Nat} {f : WF} (h : WMap w b n f c) (hn : n ≤ n') : WMap w b n' f c := by
  obtain ⟨D, h1, h2⟩ := h
  exact ⟨D, h1.mono hn, h2⟩
theorem WMap.le {w : World} {b n c : Nat} {f : WF} (h : WMap w b n f c) : c ≤ n := by
  obtain ⟨D, h1, _, h3⟩ := h
  rw [← h3]
  exact h1.size_le
theorem WMap.blk {w : World} {b n c : Nat} {f : WF} (h : WMap w b n f c) : ∃ es k, w.heap[b]? = some (.map es k) := by
  obtain ⟨D, ⟨es, k, h1, _⟩, _⟩ := h
  exact ⟨es, k, h1⟩
def fput (f : WF) (s : ByteArray) (p t : Int) : WF := fun k => if k = s then some (p, t) else f k
def cput (f : WF) (s : ByteArray) (c : Nat) : Nat := if (f s).isSome then c else c + 1
def cdel (f : WF) (s : ByteArray) (c : Nat) : Nat := if (f s).isSome then c - 1 else c
def fdel (f : WF) (s : ByteArray) : WF := fun k => if k = s then none else f k
section
variable {w : World} {ops : Array Oper} {rest : List Oper} {o : Oper} {a : Act} {Q : Exit → Act → World → Prop}
theorem wmap_has {D : DataW Unit} {f : WF} {s : ByteArray} (h2 : ∀ zd, D.atKey (kC s) zd = match f s with | some (p, t) => entD s p t | none => zd) : Maps.has D (kC s) = (f s).isSome := by
  cases e : f s with
  | none => exact Maps.has_false_of_atKey (fun z => by rw [h2, e])
  | some v => exact Maps.has_true_of_atKey (y := entD s v.1 v.2) (fun z => by rw [h2, e])
theorem zeroE : (zeroValue 92).run Tryd.prog w = .ok (entV ⟨#[]⟩ 0 0) w := by
  obtain ⟨i0, hi, hzz⟩ := Option.map_eq_some_iff.1 infoE
  simp only [Prod.mk.injEq] at hzz
  simp [zeroValue, typeInfo, hi, hzz.1]
theorem wmap_hit (hg : o.guard = none) (m x : Operand) (hop : o.op = Op.lookup 139 m x true) (b n c : Nat) (f : WF) (hm : a.eval m = .map (some b)) (h : WMap w b n f c) (s : ByteArray) (hs : s.size ≤ maxLen) (hx : a.eval x = .agg #[.string s]) (p t : Int) (hf : f s = some (p, t))
    (hK : wpList Tryd.prog ops Q rest (a.put o.dst (.tuple #[.agg #[.string s, .int .i32 p, .int .i32 t], .bool true])) w) : wpList Tryd.prog ops Q (o :: rest) a w := by
  obtain ⟨D, h1, h2, _⟩ := h
  refine wpList_lookup_own_ok w hg m x 139 hop 81 92 Kc Tryd.underlying139 Re zeroE (entD ⟨#[]⟩ 0 0) [] rfl b n D hm h1 (.agg #[.string s]) (kC s) hx (keyc s hs) (fun v ps hv => ?_)
  have h3 := h2 s hs (entD ⟨#[]⟩ 0 0)
  rw [hf] at h3
  rw [h3] at hv
  rw [Re_inv hv, wmap_has (h2 s hs), hf]
  exact hK
theorem wmap_miss (hg : o.guard = none) (m x : Operand) (hop : o.op = Op.lookup 139 m x true) (b n c : Nat) (f : WF) (hm : a.eval m = .map (some b)) (h : WMap w b n f c) (s : ByteArray) (hs : s.size ≤ maxLen) (hx : a.eval x = .agg #[.string s]) (hf : f s = none)
    (hK : wpList Tryd.prog ops Q rest (a.put o.dst (.tuple #[.agg #[.string ⟨#[]⟩, .int .i32 0, .int .i32 0], .bool false])) w) : wpList Tryd.prog ops Q (o :: rest) a w := by
  obtain ⟨D, h1, h2, _⟩ := h
  refine wpList_lookup_own_ok w hg m x 139 hop 81 92 Kc Tryd.underlying139 Re zeroE (entD ⟨#[]⟩ 0 0) [] rfl b n D hm h1 (.agg #[.string s]) (kC s) hx (keyc s hs) (fun v ps hv => ?_)
  have h3 := h2 s hs (entD ⟨#[]⟩ 0 0)
  rw [hf] at h3
  have h4 : D.atKey (kC s) (entD ⟨#[]⟩ 0 0) = entD ⟨#[]⟩ 0 0 := h3
  rw [h4] at hv
  rw [Re_inv hv, wmap_has (h2 s hs), hf]
  exact hK
theorem wmap_update (hg : o.guard = none) (m x v : Operand) (hop : o.op = Op.mapUpdate 139 m x v) (b n c : Nat) (f : WF) (hm : a.eval m = .map (some b)) (h : WMap w b n f c) (hn : n < maxLen) (s : ByteArray) (hs : s.size ≤ maxLen) (p t : Int) (hx : a.eval x = .agg #[.string s]) (hv : a.eval v = .agg #[.string s, .int .i32 p, .int .i32 t])
    (hK : ∀ w', WMap w' b (n + 1) (fput f s p t) (cput f s c) → w.grownBy w' (some b) → wpList Tryd.prog ops Q rest (a.put o.dst undef) w') : wpList Tryd.prog ops Q (o :: rest) a w := by
  obtain ⟨D, h1, h2, h3⟩ := h
  refine wpList_mapUpdate_own w hg m x v 139 hop 81 92 Kc Tryd.underlying139 Re b n D hm h1 hn (.agg #[.string s]) (entV s p t) (kC s) hx hv (keyc s hs) (entD s p t) [] rfl (fun w' r1 r2 => hK w' ⟨_, r1, fun k hk zd => ?_, ?_⟩ r2)
  · unfold fput
    by_cases e : k = s
    · subst e
      rw [Maps.atKey_put_same h1.isMap (kC_key k)]
      simp
    · rw [Maps.atKey_put_other (fun h => e (kC_inj hk hs h)), h2 k hk]
      simp [e]
  · unfold cput
    rw [Maps.size_put (h1.tidy Kc), wmap_has (h2 s hs), h3]
theorem wmap_delete (hg : o.guard = none) (m x : Operand) (hop : o.op = Op.call { callee := Callee.builtin Builtin.delete, args := #[m, x], argTypes := #[139, 81] }) (b n c : Nat) (f : WF) (hm : a.eval m = .map (some b)) (h : WMap w b n f c) (s : ByteArray) (hs : s.size ≤ maxLen) (hx : a.eval x = .agg #[.string s])
    (hK : ∀ w', WMap w' b n (fdel f s) (cdel f s c) → w.grownBy w' (some b) → wpList Tryd.prog ops Q rest (a.put o.dst (.tuple #[])) w') : wpList Tryd.prog ops Q (o :: rest) a w := by
  obtain ⟨D, h1, h2, h3⟩ := h
  refine wpList_delete_own w hg m x 139 81 hop 92 Kc Tryd.underlying139 Re b n D hm h1 (.agg #[.string s]) (kC s) hx (keyc s hs) (fun w' r1 r2 => hK w' ⟨_, r1, fun k hk zd => ?_, ?_⟩ r2.grown)
  · unfold fdel
    by_cases e : k = s
    · subst e
      rw [Maps.atKey_del_same]
      simp
    · rw [Maps.atKey_del_other (fun h => e (kC_inj hk hs h)), h2 k hk]
      simp [e]
  · have h4 := Maps.size_del (k := kC s) (h1.tidy Kc)
    rw [wmap_has (h2 s hs), h3] at h4
    unfold cdel
    split
    · next h5 => rw [if_pos h5] at h4; omega
    · next h5 => rw [if_neg h5] at h4; omega
theorem wmap_len (hg : o.guard = none) (m : Operand) (hop : o.op = Op.call { callee := Callee.builtin Builtin.len, args := #[m], argTypes := #[139] }) (b n c : Nat) (f : WF) (hm : a.eval m = .map (some b)) (h : WMap w b n f c)
    (hK : wpList Tryd.prog ops Q rest (a.put o.dst (.int .i64 (c : Int))) w) : wpList Tryd.prog ops Q (o :: rest) a w := by
  obtain ⟨D, h1, _, h3⟩ := h
  refine wpList_len_own w hg m 139 hop 81 92 Tryd.underlying139 Re b n D hm h1 ?_
  rw [h3]
  exact hK
end
end Go.Proofs.YteekkpofcbcikaaDoor.HandWan
