/- The row and its card of FnWanted, by the walk of YteekkpofcbcikaaDoorQ16. -/
import Derived.Test.YteekkpofcbcikaaDoorCards
import Derived.Test.YteekkpofcbcikaaDoorTie
import Derived.Test.YteekkpofcbcikaaDoorQ16
import Derived.LaidSub
import Derived.LaidLaws
import Derived.MakeChecks
import Derived.WalkKit
import Derived.Deep.DeepHandedRow
import Derived.Deep.DeepWitnessRowRef
import Derived.ProofKit
import Derived.OpenShut
import Derived.SliceStrings
import Derived.ShutString
import Derived.ChangeOld
import Derived.Below
import Derived.SizedLaws
import Derived.Test.YteekkpofcbcikaaDoorWSized
namespace Go.Proofs.YteekkpofcbcikaaDoor.fnWanted
open Go.ChangeShapes Go.WideShapes Go.ChangeAt Go.RowKit
open Go.ChangeMaps (open_string shut_string)
set_option linter.unusedVariables false
theorem own : ownKnob Tryd.prog.godebug = none := by kernel_rfl
theorem laidOut : laidOutB Tryd.prog = true := by kernel_rfl
def IsRow (k : IntKind) (w : World) (a : Option Addr) (len cap : Nat) (zs : List Int) : Prop :=
  (a = none ∧ len = 0 ∧ cap = 0 ∧ zs = []) ∨
  ∃ x, a = some x ∧ len ≤ cap ∧ cap ≤ maxLen ∧ zs.length = cap ∧ (∀ i, i < zs.length → w.cell? (x.add i) = some (.int k (zs.getD i 0))) ∧ ∀ n ∈ zs, (Lit.int k n).wf = true
/-- A world for the witness: the settled one, the listed variables laid. -/
noncomputable def laidWorld (os : Os) : World :=
  { (World.holding Tryd.prog os ⟨#[], #[], []⟩) with heap := (((((((((((((World.holding Tryd.prog os ⟨#[], #[], []⟩).heap).modify 5 (fun | .cells _ t z => .cells #[.iface 194 (.pointer (some ⟨(World.holding Tryd.prog os ⟨#[], #[], []⟩).heap.size + 0, 0, none⟩))] t z | o => o)).modify 7 (fun | .cells _ t z => .cells #[.iface 194 (.pointer (some ⟨(World.holding Tryd.prog os ⟨#[], #[], []⟩).heap.size + 1, 0, none⟩))] t z | o => o)).modify 6 (fun | .cells _ t z => .cells #[.iface 194 (.pointer (some ⟨(World.holding Tryd.prog os ⟨#[], #[], []⟩).heap.size + 2, 0, none⟩))] t z | o => o)).modify 8 (fun | .cells _ t z => .cells #[.iface 194 (.pointer (some ⟨(World.holding Tryd.prog os ⟨#[], #[], []⟩).heap.size + 3, 0, none⟩))] t z | o => o)).modify 9 (fun | .cells _ t z => .cells #[.iface 194 (.pointer (some ⟨(World.holding Tryd.prog os ⟨#[], #[], []⟩).heap.size + 4, 0, none⟩))] t z | o => o)).modify 10 (fun | .cells _ t z => .cells #[.iface 194 (.pointer (some ⟨(World.holding Tryd.prog os ⟨#[], #[], []⟩).heap.size + 5, 0, none⟩))] t z | o => o)).push (.cells #[Value.string ⟨#[118, 97, 114, 105, 110, 116, 115, 32, 108, 97, 114, 103, 101, 114, 32, 116, 104, 97, 110, 32, 117, 105, 110, 116, 54, 51, 32, 110, 111, 116, 32, 115, 117, 112, 112, 111, 114, 116, 101, 100]⟩] 196 (0, 0))).push (.cells #[Value.string ⟨#[118, 97, 114, 105, 110, 116, 115, 32, 109, 97, 108, 102, 111, 114, 109, 101, 100, 44, 32, 99, 111, 117, 108, 100, 32, 110, 111, 116, 32, 114, 101, 97, 99, 104, 32, 116, 104, 101, 32, 101, 110, 100]⟩] 196 (0, 0))).push (.cells #[Value.string ⟨#[118, 97, 114, 105, 110, 116, 32, 110, 111, 116, 32, 109, 105, 110, 105, 109, 97, 108, 108, 121, 32, 101, 110, 99, 111, 100, 101, 100]⟩] 196 (0, 0))).push (.cells #[Value.string ⟨#[109, 117, 108, 116, 105, 104, 97, 115, 104, 32, 116, 111, 111, 32, 115, 104, 111, 114, 116, 46, 32, 109, 117, 115, 116, 32, 98, 101, 32, 62, 61, 32, 50, 32, 98, 121, 116, 101, 115]⟩] 196 (0, 0))).push (.cells #[Value.string ⟨#[117, 118, 97, 114, 105, 110, 116, 58, 32, 98, 117, 102, 102, 101, 114, 32, 116, 111, 111, 32, 115, 109, 97, 108, 108]⟩] 196 (0, 0))).push (.cells #[Value.string ⟨#[117, 118, 97, 114, 105, 110, 116, 58, 32, 118, 97, 114, 105, 110, 116, 32, 116, 111, 111, 32, 98, 105, 103, 32, 40, 109, 97, 120, 32, 54, 52, 98, 105, 116, 41]⟩] 196 (0, 0)) }
theorem laid_met (os : Os) : laidMet Tryd.prog Rows.fnWantedRow.laid ((laidWorld os).forCall (fun _ _ => 0) ⟨#[], #[.slice none 0 0], []⟩).memory :=
  laidMet_of_run' 8 (by kernel_rfl) (by kernel_rfl)
theorem reads (os : Os) {H : Type} (enc : TypeId × Value → H) : ∃ places, DataW.whole enc Tryd.prog ((laidWorld os).forCall (fun _ _ => 0) ⟨#[], #[.slice none 0 0], []⟩).memory Tryd.f4.params.toList (OpenSpec.ofChange Rows.fnWantedSpec).vars false (#[.slice none 0 0] : Array Value).toList 8 = some ([.nil], [], places) :=
  ⟨[], by kernel_rfl⟩
set_option maxRecDepth 100000 in
theorem lifted (os : Os) (started : os.Started) (H : Type) (enc : TypeId × Value → H) (F : Stop.Interp) :
    ReturnsInHanded {} Tryd.checked os 4 .any ((OpenSpec.ofChange Rows.fnWantedSpec).preRow enc Tryd.prog Tryd.f4 Rows.fnWantedRow.domain false Rows.fnWantedRow.laid) (((OpenSpec.ofChange Rows.fnWantedSpec).at F).post enc Tryd.prog Tryd.f4 false true false false) := by
  obtain ⟨places, hx⟩ := reads os enc
  refine returnsInHanded_of_row (C := Tryd.checked) (s := (OpenSpec.ofChange Rows.fnWantedSpec)) own started (by kernel_rfl) Tryd.func4
    (witness_row_atRef (enc := enc) (C := Tryd.checked) false (laidWorld os) #[.slice none 0 0] rfl (by kernel_rfl) (by kernel_rfl) (by kernel_rfl)
      (OpenSpec.preRow_of_cond 8 hx (by kernel_rfl) (fun k hk => by cases hk) (by kernel_rfl) (laid_met os))) ?_
  intro W base args ds gs before hval0 hW hcnd _ hsz0 hL _ _
  have hsz : (DataW.weightsEach Tryd.prog (Tryd.f4.params.toList ++ Rows.fnWantedSpec.plain.varTypes Tryd.prog) (ds ++ gs)).all (· ≤ reachBytes) = true := hsz0
  have hval : ∀ (j : Nat) t v, Tryd.f4.params[j]? = some t → args[j]? = some v → Value.okWide Tryd.prog W .any base t v := hval0
  have hW' := hW
  obtain ⟨p, q, hA0, hV, rfl, hfz, hnd⟩ := hW
  have hA : DataW.TrodAll enc Tryd.prog W 0 (fun _ => true) true Tryd.f4.params.toList args.toList ds p := hA0
  rw [Tryd.params4] at hA hval hsz
  obtain ⟨v0, vs0, d0, ds0, p0, q0, hargs, rfl, rfl, h0, r0⟩ := trodAll_cons hA
  obtain ⟨rfl, rfl, rfl⟩ := trodAll_nil r0
  obtain rfl : args = #[v0] := by cases args; simp_all
  obtain ⟨rfl, rfl⟩ := trodVars_none hV
  obtain ⟨cs0, e0⟩ : ∃ u, v0.cells.toList = [u] ∧ v0 = u := by
    obtain ⟨a0, len0, cap0, rfl⟩ := okWide_slice Tryd.underlying22 (hval 0 22 v0 rfl rfl)
    exact ⟨_, rfl, rfl⟩
  have k0 := h0
  have lt0 : ∀ x ∈ p0, x.block < W.heap.size := by obtain ⟨m, hm⟩ := k0; exact DataW.trod_lt m _ _ _ hm
  obtain ⟨A0, c0, l0, rfl, hc0, hC0, hb0⟩ : ∃ A c l, v0 = .slice A l.length c ∧ l.length ≤ c ∧ Go.Proofs.YteekkpofcbcikaaDoorW.PrintWords.Kd.C Go.Proofs.YteekkpofcbcikaaDoor.PWan.k73 W A l.length l ∧ ∀ p ∈ l, (0 ≤ p.f0 ∧ p.f0 < 256) ∧ (0 ≤ p.f1 ∧ p.f1 < 256) := by
    obtain ⟨m, hm⟩ := h0
    obtain ⟨e2, rfl⟩ := e0
    rw [e2] at hm
    exact Go.Proofs.YteekkpofcbcikaaDoor.HandWan.open_steps hm
  clear hA0 hval0 hsz0 hsz
  refine (Go.Proofs.YteekkpofcbcikaaDoor.HandWan.wantedlaw_calls W A0 c0 l0 hC0 hc0 hb0).mono fun e W' ⟨he, bel⟩ => ?_
  subst he
  exact ⟨_, rfl, _, _, _, [], _, [], hW', trodAll_mk1 (shut_bool Tryd.underlying4 _), (trodAll_cons_mk (Below.trod laidOut (by kernel_rfl) (of_decide_eq_true (by kernel_rfl)) k0 bel lt0) trodAll_mk0), rfl, bel.frame _, fun h => by cases h⟩
theorem over : Rows.fnWantedRow.holds Tryd.pinned (OpenSpec.ofChange Rows.fnWantedSpec) :=
  OpenClaim.holds_of_cond 4 Tryd.f4 rfl rfl rfl rfl rfl rfl rfl ⟨rfl, rfl, rfl, rfl, rfl⟩ rfl rfl rfl rfl rfl (by kernel_rfl) Tryd.func4 (by kernel_rfl)
    (of_decide_eq_true (by kernel_rfl)) (by unfold Func.isWrapper; first | (rw [if_pos (by decide +kernel)]; kernel_rfl) | (rw [if_neg (by decide +kernel)]; exact ⟨rfl, rfl⟩))
    (fun os started H enc _ F => by rw [OpenClaim.pre_eq_preRow]; exact lifted os started H enc F)
theorem proved : Rows.FnWantedSaid := over
theorem plain (f : FuncId) (fn : Func) (hf : Tryd.pinned.checked.prog.funcNamed "pub-tholos/laws.FnWanted" = some f) (hfn : Tryd.pinned.checked.prog.funcs[f]? = some fn) :
    false = Tryd.pinned.checked.prog.looks [] ∧ ∀ (j : Nat) t, fn.params[j]? = some t → Tryd.pinned.checked.prog.wantsStandIn t = false := by
  obtain rfl : f = 4 := Option.some.inj ((show Tryd.prog.funcNamed "pub-tholos/laws.FnWanted" = some 4 by kernel_rfl).symm.trans hf) |>.symm
  obtain rfl : fn = Tryd.f4 := (Option.some.inj (Tryd.func4.symm.trans hfn)).symm
  refine ⟨by kernel_rfl, fun j t ht => ?_⟩
  have h : (Tryd.f4.params.toList.all fun t => !Tryd.prog.wantsStandIn t) = true := by kernel_rfl
  have := List.all_eq_true.1 h t (Array.mem_toList_iff.2 (Array.mem_of_getElem? ht))
  exact (show Tryd.prog.wantsStandIn t = false by simpa using this)
theorem card : Rows.FnWantedCardSaid :=
  Claim7.holds_tied_plain_at .later [] _ _ _ _ proved (fun _ h => by cases h) (by kernel_rfl) (fun _ h => by cases h) fnWanted_row_tie rfl ⟨rfl, rfl⟩ (by kernel_rfl) rfl plain (by kernel_rfl)
#print axioms card
end Go.Proofs.YteekkpofcbcikaaDoor.fnWanted
namespace Go.Proofs.YteekkpofcbcikaaDoor
/-- The row, under a short name, for the claim. -/
theorem fnWanted_holds : Rows.FnWantedCardSaid := fnWanted.card
end Go.Proofs.YteekkpofcbcikaaDoor
