/- Maps from paths to blocks. -/
import Derived.Test.YtnhnlodmkbiiiaaDoorD7
import Derived.Maps.OwnSet
import Derived.StringKeys
namespace Go.Proofs.YtnhnlodmkbiiiaaDoor.HandDif
open Go Go.RowKit Go.Proofs.YtnhnlodmkbiiiaaDoorL Go.Proofs.YtnhnlodmkbiiiaaDoorW.PrintWords Go.Proofs.YtnhnlodmkbiiiaaDoorW.PrintLast Go.Proofs.YtnhnlodmkbiiiaaDoorW.PrintMore Go.Proofs.YtnhnlodmkbiiiaaDoor.PDif
attribute [local go_sem] max2_int min2_int max_two min_two max_three min_three max_four min_four
set_option linter.unusedVariables false
set_option linter.unusedSimpArgs false
open Go.Maps (Keyed)
/-- How a pointer reads. -/
def Rp : Value → Option (DataW Unit × List MemPlace)
  | .pointer (some ⟨g, 0, none⟩) => some (.lit (.int .i64 (g : Int)), [])
  | .pointer none => some (.nil, [])
  | _ => none
theorem Rp_nil {v : Value} {ps : List MemPlace} (h : Rp v = some (.nil, ps)) : v = .pointer none := by
  unfold Rp at h
  split at h
  · cases h
  · rfl
  · cases h
theorem Rp_some {v : Value} {ps : List MemPlace} {g : Nat} (h : Rp v = some (.lit (.int .i64 (g : Int)), ps)) : v = .pointer (some ⟨g, 0, none⟩) := by
  unfold Rp at h
  split at h
  · simp only [Option.some.injEq, Prod.mk.injEq] at h
    obtain ⟨h1, _⟩ := h
    injection h1 with h1
    injection h1 with _ h1
    have := Int.ofNat.inj h1
    rw [this]
  · simp only [Option.some.injEq, Prod.mk.injEq] at h
    obtain ⟨h1, _⟩ := h
    cases h1
  · cases h
def kl (s : ByteArray) : Lit := .string s.data.toList
theorem kl_inj {s s' : ByteArray} (h : kl s = kl s') : s = s' := by
  unfold kl at h
  injection h with h
  obtain ⟨d⟩ := s
  obtain ⟨d'⟩ := s'
  congr 1
  exact Array.toList_inj.1 h
theorem kl_key (s : ByteArray) : WideAt.IsKeyLit (kl s) := trivial
theorem K9 : Keyed Tryd.prog 9 := Go.Maps.string_keyed Tryd.underlying9
/-- Block b is a map of at most n entries: from texts to blocks. -/
def MapF (W : World) (b n : Nat) (f : ByteArray → Option Nat) : Prop :=
  ∃ D, W.ownsMap Tryd.prog 9 Rp b n D ∧ ∀ s zd, D.atKey (kl s) zd = match f s with | some g => .lit (.int .i64 (g : Int)) | none => zd
def ptrO : Option Nat → Value
  | some g => .pointer (some ⟨g, 0, none⟩)
  | none => .pointer none
theorem MapF.made (w : World) : MapF (w.alloc (.map #[] 0)) w.heap.size 0 (fun _ => none) :=
  ⟨_, World.ownsMap_made w Tryd.prog 9 Rp, fun s zd => WideAt.atKey_none zd (fun p hp => by cases hp)⟩
theorem MapF.kept {w w' : World} {b n : Nat} {f : ByteArray → Option Nat} {row : Option Nat} (h : MapF w b n f) (hg : w.grownBy w' row) (hne : some b ≠ row) : MapF w' b n f := by
  obtain ⟨D, h1, h2⟩ := h
  exact ⟨D, h1.kept hg hne, h2⟩
theorem MapF.lt {w : World} {b n : Nat} {f : ByteArray → Option Nat} (h : MapF w b n f) : b < w.heap.size := by
  obtain ⟨D, h1, _⟩ := h
  exact h1.lt
theorem MapF.below {w w' : World} {b n : Nat} {f : ByteArray → Option Nat} (h : MapF w b n f) (hb : Below w.heap.size w w') : MapF w' b n f := h.kept (grown_of_below hb none) (by simp)
theorem MapF.blk {w : World} {b n : Nat} {f : ByteArray → Option Nat} (h : MapF w b n f) : ∃ es c, w.heap[b]? = some (.map es c) := by
  obtain ⟨D, ⟨es, c, h1, _⟩, _⟩ := h
  exact ⟨es, c, h1⟩
section
variable {w : World} {ops : Array Oper} {rest : List Oper} {o : Oper} {a : Act} {Q : Exit → Act → World → Prop}
theorem mapF_lookup (hg : o.guard = none) (m x : Operand) (hop : o.op = Op.lookup 178 m x true) (b n : Nat) (f : ByteArray → Option Nat) (hm : a.eval m = .map (some b)) (h : MapF w b n f) (s : ByteArray) (hs : s.size ≤ maxLen) (hx : a.eval x = .string s)
    (hK : wpList Tryd.prog ops Q rest (a.put o.dst (.tuple #[ptrO (f s), .bool (f s).isSome])) w) : wpList Tryd.prog ops Q (o :: rest) a w := by
  obtain ⟨D, h1, h2⟩ := h
  have hz : (zeroValue 137).run Tryd.prog w = .ok (.pointer none) w := by
    obtain ⟨i0, hi, hzz⟩ := Option.map_eq_some_iff.1 infoP
    simp only [Prod.mk.injEq] at hzz
    simp [zeroValue, typeInfo, hi, hzz.1]
  refine wpList_lookup_own_ok w hg m x 178 hop 9 137 K9 Tryd.underlying178 Rp hz .nil [] rfl b n D hm h1 (.string s) (kl s) hx (WideMaps.keyOf_string_mk Tryd.underlying9 hs) (fun v ps hv => ?_)
  have h3 := h2 s .nil
  cases e : f s with
  | none =>
    rw [e] at h3 hK
    rw [h3] at hv
    obtain rfl := Rp_nil hv
    have h4 : Maps.has D (kl s) = false := Maps.has_false_of_atKey (fun z => by rw [h2, e])
    rw [h4]
    exact hK
  | some g =>
    rw [e] at h3 hK
    rw [h3] at hv
    obtain rfl := Rp_some hv
    have h4 : Maps.has D (kl s) = true := Maps.has_true_of_atKey (y := .lit (.int .i64 (g : Int))) (fun z => by rw [h2, e])
    rw [h4]
    exact hK
theorem mapF_update (hg : o.guard = none) (m x v : Operand) (hop : o.op = Op.mapUpdate 178 m x v) (b n : Nat) (f : ByteArray → Option Nat) (hm : a.eval m = .map (some b)) (h : MapF w b n f) (hn : n < maxLen) (s : ByteArray) (hs : s.size ≤ maxLen) (g : Nat) (hx : a.eval x = .string s) (hv : a.eval v = .pointer (some ⟨g, 0, none⟩))
    (hK : ∀ w', MapF w' b (n + 1) (fun k => if k = s then some g else f k) → w.grownBy w' (some b) → wpList Tryd.prog ops Q rest (a.put o.dst undef) w') : wpList Tryd.prog ops Q (o :: rest) a w := by
  obtain ⟨D, h1, h2⟩ := h
  refine wpList_mapUpdate_own w hg m x v 178 hop 9 137 K9 Tryd.underlying178 Rp b n D hm h1 hn (.string s) (.pointer (some ⟨g, 0, none⟩)) (kl s) hx hv (WideMaps.keyOf_string_mk Tryd.underlying9 hs) (.lit (.int .i64 (g : Int))) [] rfl (fun w' r1 r2 => hK w' ⟨_, r1, fun k zd => ?_⟩ r2)
  by_cases e : k = s
  · subst e
    rw [Maps.atKey_put_same h1.isMap (kl_key k)]
    simp
  · rw [Maps.atKey_put_other (fun h => e (kl_inj h)), h2]
    simp [e]
theorem mapF_delete (hg : o.guard = none) (m x : Operand) (hop : o.op = Op.call { callee := Callee.builtin Builtin.delete, args := #[m, x], argTypes := #[178, 9] }) (b n : Nat) (f : ByteArray → Option Nat) (hm : a.eval m = .map (some b)) (h : MapF w b n f) (s : ByteArray) (hs : s.size ≤ maxLen) (hx : a.eval x = .string s)
    (hK : ∀ w', MapF w' b n (fun k => if k = s then none else f k) → w.grownBy w' (some b) → wpList Tryd.prog ops Q rest (a.put o.dst (.tuple #[])) w') : wpList Tryd.prog ops Q (o :: rest) a w := by
  obtain ⟨D, h1, h2⟩ := h
  refine wpList_delete_own w hg m x 178 9 hop 137 K9 Tryd.underlying178 Rp b n D hm h1 (.string s) (kl s) hx (WideMaps.keyOf_string_mk Tryd.underlying9 hs) (fun w' r1 r2 => hK w' ⟨_, r1, fun k zd => ?_⟩ r2.grown)
  by_cases e : k = s
  · subst e
    rw [Maps.atKey_del_same]
    simp
  · rw [Maps.atKey_del_other (fun h => e (kl_inj h)), h2]
    simp [e]
end
end Go.Proofs.YtnhnlodmkbiiiaaDoor.HandDif
