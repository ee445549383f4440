/- Lemmas of this session's own for the walks: a copy into a part of a row of the call's own. -/
import Derived.WalkSpells
import Derived.Laws.CopyOwn
import Derived.Test.YteekkpofcbcikaaDoorWWords
import Derived.Test.YteekkpofcbcikaaDoorWMore
namespace Go.Proofs.YteekkpofcbcikaaDoorL
open Go Go.RowKit Go.Proofs.YteekkpofcbcikaaDoorW.PrintWords
open Go.Proofs.YteekkpofcbcikaaDoorW.PrintWords.Kd (scalar reads_of_C own_of_R)
set_option linter.unusedVariables false

/-- There is a type and a value (of an error): kept from being rewritten. -/
def ExE (p : TypeId → Value → Prop) : Prop := ∃ T x, p T x
theorem ExE.intro {p : TypeId → Value → Prop} (T : TypeId) (x : Value) (h : p T x) : ExE p := ⟨T, x, h⟩

theorem grown_setRow (W : World) (g : Nat) (cs : Array Value) : W.grownBy (W.setRow g cs) (some g) :=
  ⟨rfl, rfl, rfl, by simp, fun k hk hne => setRow_other W g k cs (fun e => hne (by rw [e]))⟩

/-- What is copied lies from place lo on. -/
theorem splice_encs {α : Type} {enc : α → Value} (xs ys : List α) (lo : Nat) (L : List Value) (n : Nat) (hL : L.take n = encs enc xs) (hn : xs.length = n) (hlo : lo + ys.length ≤ n) (hnL : n ≤ L.length) :
    (L.take lo ++ (encs enc ys ++ L.drop (lo + (encs enc ys).length))).take n = encs enc (xs.take lo ++ ys ++ xs.drop (lo + ys.length)) := by
  rw [encs_length]
  have e1 : L.take lo = encs enc (xs.take lo) := by
    have : (L.take n).take lo = L.take lo := by rw [List.take_take, Nat.min_eq_left (by omega)]
    rw [← this, hL]; simp [encs, List.map_take]
  have e2 : (L.drop (lo + ys.length)).take (n - (lo + ys.length)) = encs enc (xs.drop (lo + ys.length)) := by
    have : (L.take n).drop (lo + ys.length) = (L.drop (lo + ys.length)).take (n - (lo + ys.length)) := by rw [List.drop_take]
    rw [← this, hL]; simp [encs, List.map_drop]
  have l1 : (encs enc (xs.take lo)).length = lo := by rw [encs_length, List.length_take]; omega
  rw [e1, List.take_append, l1, List.take_of_length_le (by omega), List.take_append, encs_length, List.take_of_length_le (l := encs enc ys) (by rw [encs_length]; omega)]
  rw [show n - lo - ys.length = n - (lo + ys.length) from by omega, e2]
  simp [encs_append]

section
variable {P : Program} {ops : Array Oper} {rest : List Oper} {o : Oper} {a : Act} {Q : Exit → Act → World → Prop} {α : Type}
/-- 'copy(row[lo:..], ys)' into a row of the call's own. -/
theorem R_copy_at {enc : α → Value} {h1 : ∀ x, (enc x).oneCell' = true} (d : α) {w0 W : World} (base : Nat) (hgd : o.guard = none) (s x : Operand) (t t' e : TypeId)
    (ho : o.op = .call { callee := .builtin .copy, args := #[s, x], argTypes := #[t, t'] }) (ht : P.underlying t = some (.slice e)) (hinfo : (P.info? e).map (·.size) = some 1)
    (g n cap : Nat) (xs ys : List α) (D : Option Addr) (dn dc : Nat) (A : Option Addr) (m c lo : Nat) (ok : Nat → Prop) (hs : a.eval s = .slice D dn dc) (hx : a.eval x = .slice A m c)
    (hD : 0 < m → D = some ⟨g, lo, none⟩) (hdn : m ≤ dn) (HO : (scalar enc h1).R e W base ok (.slice (some ⟨g, 0, none⟩) n cap) xs) (hlo : lo + m ≤ n) (HR : (scalar enc h1).C W A m ys) (HB : Below base w0 W) (hbase : base ≤ W.heap.size)
    (h : ∀ w1, (scalar enc h1).R e w1 base ok (.slice (some ⟨g, 0, none⟩) n cap) (xs.take lo ++ ys ++ xs.drop (lo + m)) → Below base w0 w1 → W.grownBy w1 (some g) → wpList P ops Q rest (a.put o.dst (.int .i64 (m : Int))) w1) :
    wpList P ops Q (o :: rest) a W := by
  have hR := reads_of_C (enc := enc) (d := d) (h1 := h1) HR
  have hm : ys.length = m := hR.1
  rcases Nat.eq_zero_or_pos m with h0 | hp
  · subst h0
    obtain rfl : ys = [] := List.eq_nil_of_length_eq_zero hm
    refine wpList_copy_nothing hgd s x t t' ho e ht hinfo D A dn dc 0 c hs hx (Nat.zero_min _) ?_
    exact h W (by simpa using HO) HB (World.grownBy.refl W _)
  · obtain ⟨ad, hA, hc⟩ := hR.2.2 hp
    subst hA
    have hD' := hD hp
    subst hD'
    have hown := own_of_R HO
    obtain ⟨hl, hcase⟩ := hown
    rcases hcase with ⟨hv, _⟩ | ⟨g', cap', cur, hv, hb, hh, hnc, hcm, hcs, htake⟩
    · simp at hv
    injection hv with q1 q2 q3
    injection q1 with q1
    injection q1 with q1
    subst q1 q2 q3
    rw [Nat.mul_one] at hcs htake
    have hn : xs.length = xs.length := rfl
    have hcl : (encs enc ys).length = m := by rw [encs_length, hm]
    have hsrc : ∀ j u, (encs enc ys)[j]? = some u → W.cell? (ad.add j) = some u := by
      intro j u hu
      have hj : j < ys.length := by
        rcases Nat.lt_or_ge j ys.length with hj | hj
        · exact hj
        · rw [List.getElem?_eq_none (by rw [encs_length]; exact hj)] at hu; cases hu
      rw [encs_get (d := d) _ j hj] at hu
      rw [hc j (by omega), ← hu]
    refine wpList_copy_own hgd s x t t' ho e ht hinfo g lo dn dc ad m c hs hx cur e hh (encs enc ys) (by rw [hcl]; exact (Nat.min_eq_left hdn).symm) hsrc (by rw [hcl]; omega) (by intro u hu; simp only [encs, List.mem_map] at hu; obtain ⟨q, _, rfl⟩ := hu; exact h1 q) ?_
    have hlen2 : (xs.take lo ++ ys ++ xs.drop (lo + m)).length = xs.length := by simp; omega
    rw [hcl, show (goInt ((m : Nat) : Int)) = .int .i64 (m : Int) from rfl]
    refine h _ ?_ ?_ (grown_setRow W g _)
    · have hown2 : (W.setRow g (cur.toList.take lo ++ (encs enc ys ++ cur.toList.drop (lo + m))).toArray).ownsRow base e 1 (.slice (some ⟨g, 0, none⟩) xs.length cap) (xs.take lo ++ ys ++ xs.drop (lo + m)).length (encs enc (xs.take lo ++ ys ++ xs.drop (lo + m))) := by
        refine ⟨by rw [encs_length, Nat.mul_one], .inr ⟨g, cap, _, by rw [hlen2], hb, setRow_heap W g cur _ e (0, 0) hh, by omega, hcm, ?_, ?_⟩⟩
        · simp; omega
        · rw [Nat.mul_one, hlen2]
          have := splice_encs (enc := enc) xs ys lo cur.toList xs.length htake rfl (by omega) (by simp; omega)
          rw [hcl, hm] at this
          simpa using this
      have := Kd.R_of_own (h1 := h1) (ok := ok) hown2 (fun k hk => HO.1 k hk)
      exact this
    · exact below_setRow HB hb _
end
end Go.Proofs.YteekkpofcbcikaaDoorL
