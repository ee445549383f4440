/- Lemmas of this session's own for the walks: a call of a function that is held as a value (a constant function handed to a parameter). -/
import Derived.WalkSpells
import Derived.Test.YteekkpofcbcikaaDoorWWords
import Derived.Test.YteekkpofcbcikaaDoorWLast
import Derived.Test.YteekkpofcbcikaaDoorWMore
namespace Go.Proofs.YteekkpofcbcikaaDoorL
open Go Go.RowKit Go.Proofs.YteekkpofcbcikaaDoorW.PrintWords Go.Proofs.YteekkpofcbcikaaDoorW.PrintLast
set_option linter.unusedVariables false
section
variable {P : Program} {ops : Array Oper} {Q : Exit → Act → World → Prop}
theorem gate_calleeT {rest : List Oper} {o : Oper} {a : Act} {W : World} {t : Tmp} {as : Array Operand} {ts : Array TypeId} (_ho : o.op = .call { callee := .value (.tmp t), args := as, argTypes := ts }) (h : wpList P ops Q (o :: rest) a W) : wpList P ops Q (o :: rest) a W := h
/-- A call of a function held in a slot, as an arm of go_wp2_with. -/
theorem goesLT_ {t : Tmp} {rest : List Oper} {oi : Oper} {a : Act} {w : World} (N : Option Tmp) (hd : oi.dst = N) (hg : oi.guard = none) {f : FuncId} {fn : Func} {as : Array Operand} {ts : Array TypeId} (hf : P.funcs[f]? = some fn) (hname : (fn.name == "runtime.NumGoroutine") = false) (hb : fn.body.isSome = true) (args : Array Value)
    (hop : oi.op = .call { callee := .value (.tmp t), args := as, argTypes := ts }) (hargs : as.map a.eval = args)
    (h : Calls P f args w fun e w' => ∃ v, e = .returned v ∧ wpList P ops Q rest (a.put N v) w') (hfv : a.eval (.tmp t) = .func (.func f) #[] #[] := by rfl) : wpList P ops Q (oi :: rest) a w := by
  refine wpList_plain hg fun K hK => ?_
  have he := enters_ hf hname hb args w
  have hrun : (execOp a.eval oi).run P w = .ok (.enter f args) w := by
    unfold execOp
    simp [hop, resolve, hfv, Deferred.ofValue, invoke, hargs, he]
  unfold Oper.wp
  rw [hrun, Oper.upon_enter]
  refine h.mono fun e w'' hh => ?_
  obtain ⟨v, rfl, hk⟩ := hh
  subst hd
  exact hK _ _ hk
end
/-- A slice of strings that came in, as it is opened by the kit's 'open_strings'. -/
def IsStrs (w : World) (a : Option Addr) (len cap : Nat) (zs : List ByteArray) : Prop :=
  (a = none ∧ len = 0 ∧ cap = 0 ∧ zs = []) ∨ ∃ x, a = some x ∧ len ≤ cap ∧ cap ≤ maxLen ∧ zs.length = cap ∧ ∀ i, i < zs.length → w.cell? (x.add i) = some (.string (zs.getD i ByteArray.empty))
theorem strs_ofRowC {w : World} {a : Option Addr} {len cap : Nat} {zs : List ByteArray} (h : IsStrs w a len cap zs) :
    ∃ l : List ByteArray, len = l.length ∧ Kd.string.C w a l.length l ∧ l.length ≤ maxLen ∧ l.length ≤ cap := by
  rcases h with ⟨rfl, rfl, rfl, rfl⟩ | ⟨x, rfl, hl, hm, hz, hc⟩
  · exact ⟨[], rfl, Kd.C_of_reads (enc := Value.string) (d := ByteArray.empty) (h1 := fun _ => rfl) ⟨rfl, by simp, fun h => absurd h (by simp)⟩, Nat.zero_le _, Nat.le_refl _⟩
  · have e : (zs.take len).length = len := by simp; omega
    have hm' : len ≤ maxLen := Nat.le_trans hl hm
    refine ⟨zs.take len, e.symm, Kd.C_of_reads (enc := Value.string) (d := ByteArray.empty) (h1 := fun _ => rfl) ⟨rfl, by rw [e]; simpa [maxLen] using hm', fun _ => ⟨x, rfl, fun j hj => ?_⟩⟩, by rw [e]; exact hm', by rw [e]; exact hl⟩
    rw [e] at hj
    rw [hc j (by omega)]
    simp [List.getD, hj]
end Go.Proofs.YteekkpofcbcikaaDoorL
