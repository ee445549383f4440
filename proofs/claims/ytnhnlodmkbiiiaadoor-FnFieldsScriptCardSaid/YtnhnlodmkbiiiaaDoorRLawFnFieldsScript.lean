/- The row and its card of FnFieldsScript, by the walk of YtnhnlodmkbiiiaaDoorS5. -/
import Derived.Test.YtnhnlodmkbiiiaaDoorCards
import Derived.Test.YtnhnlodmkbiiiaaDoorTie
import Derived.Test.YtnhnlodmkbiiiaaDoorRS6
import Derived.LaidSub
import Derived.LaidLaws
import Derived.MakeChecks
import Derived.WalkKit
import Derived.Deep.DeepHandedRow
import Derived.Deep.DeepWitnessRowRef
import Derived.ProofKit
import Derived.OpenShut
import Derived.SliceStrings
import Derived.ShutString
import Derived.ChangeOld
import Derived.Below
import Derived.SizedLaws
import Derived.Test.YtnhnlodmkbiiiaaDoorWSized
namespace Go.Proofs.YtnhnlodmkbiiiaaDoor.fnFieldsScript
open Go.ChangeShapes Go.WideShapes Go.ChangeAt Go.RowKit
open Go.ChangeMaps (open_string shut_string)
set_option linter.unusedVariables false
theorem own : ownKnob Tryd.prog.godebug = none := by kernel_rfl
theorem laidOut : laidOutB Tryd.prog = true := by kernel_rfl
/-- A world for the witness: the settled one, the listed variables laid. -/
noncomputable def laidWorld (os : Os) : World :=
 { (World.holding Tryd.prog os ⟨#[], #[], []⟩) with heap := (((((((((((World.holding Tryd.prog os ⟨#[], #[], []⟩).heap).modify 1 (fun | .cells _ t z => .cells #[.iface 180 (.pointer (some ⟨(World.holding Tryd.prog os ⟨#[], #[], []⟩).heap.size + 0, 0, none⟩))] t z | o => o)).modify 5 (fun | .cells _ t z => .cells #[.iface 180 (.pointer (some ⟨(World.holding Tryd.prog os ⟨#[], #[], []⟩).heap.size + 1, 0, none⟩))] t z | o => o)).modify 4 (fun | .cells _ t z => .cells #[.iface 180 (.pointer (some ⟨(World.holding Tryd.prog os ⟨#[], #[], []⟩).heap.size + 2, 0, none⟩))] t z | o => o)).modify 7 (fun | .cells _ t z => .cells #[.iface 180 (.pointer (some ⟨(World.holding Tryd.prog os ⟨#[], #[], []⟩).heap.size + 3, 0, none⟩))] t z | o => o)).modify 6 (fun | .cells _ t z => .cells #[.iface 180 (.pointer (some ⟨(World.holding Tryd.prog os ⟨#[], #[], []⟩).heap.size + 4, 0, none⟩))] t z | o => o)).push (.cells #[Value.string ⟨#[117, 110, 101, 120, 112, 101, 99, 116, 101, 100, 32, 69, 79, 70]⟩] 182 (0, 0))).push (.cells #[Value.string ⟨#[112, 114, 111, 116, 111, 58, 32, 110, 101, 103, 97, 116, 105, 118, 101, 32, 108, 101, 110, 103, 116, 104, 32, 102, 111, 117, 110, 100, 32, 100, 117, 114, 105, 110, 103, 32, 117, 110, 109, 97, 114, 115, 104, 97, 108, 105, 110, 103]⟩] 182 (0, 0))).push (.cells #[Value.string ⟨#[112, 114, 111, 116, 111, 58, 32, 105, 110, 116, 101, 103, 101, 114, 32, 111, 118, 101, 114, 102, 108, 111, 119]⟩] 182 (0, 0))).push (.cells #[Value.string ⟨#[112, 114, 111, 116, 111, 58, 32, 117, 110, 101, 120, 112, 101, 99, 116, 101, 100, 32, 101, 110, 100, 32, 111, 102, 32, 103, 114, 111, 117, 112]⟩] 182 (0, 0))).push (.cells #[Value.string ⟨#[112, 114, 111, 116, 111, 58, 32, 114, 101, 113, 117, 105, 114, 101, 100, 32, 102, 105, 101, 108, 100, 32, 110, 111, 116, 32, 115, 101, 116]⟩] 182 (0, 0)) }
theorem laid_met (os : Os) : laidMet Tryd.prog Rows.fnFieldsScriptRow.laid ((laidWorld os).forCall (fun _ _ => 0) ⟨#[], #[.int .u8 0, .slice none 0 0], []⟩).memory :=
 laidMet_of_run' 8 (by kernel_rfl) (by kernel_rfl)
theorem reads (os : Os) {H : Type} (enc : TypeId × Value → H) : ∃ places, DataW.whole enc Tryd.prog ((laidWorld os).forCall (fun _ _ => 0) ⟨#[], #[.int .u8 0, .slice none 0 0], []⟩).memory Tryd.f9.params.toList (OpenSpec.ofChange Rows.fnFieldsScriptSpec).vars false (#[.int .u8 0, .slice none 0 0] : Array Value).toList 8 = some ([.lit (.int .u8 0), .nil], [], places) :=
 ⟨[], by kernel_rfl⟩
set_option maxRecDepth 100000 in
theorem lifted (os : Os) (started : os.Started) (H : Type) (enc : TypeId × Value → H) (F : Stop.Interp) :
  ReturnsInHanded {} Tryd.checked os 9 .any ((OpenSpec.ofChange Rows.fnFieldsScriptSpec).preRow enc Tryd.prog Tryd.f9 Rows.fnFieldsScriptRow.domain false Rows.fnFieldsScriptRow.laid) (((OpenSpec.ofChange Rows.fnFieldsScriptSpec).at F).post enc Tryd.prog Tryd.f9 false true false false) := by
 obtain ⟨places, hx⟩ := reads os enc
 refine returnsInHanded_of_row (C := Tryd.checked) (s := (OpenSpec.ofChange Rows.fnFieldsScriptSpec)) own started (by kernel_rfl) Tryd.func9
  (witness_row_atRef (enc := enc) (C := Tryd.checked) false (laidWorld os) #[.int .u8 0, .slice none 0 0] rfl (by kernel_rfl) (by kernel_rfl) (by kernel_rfl)
   (OpenSpec.preRow_of_cond 8 hx (by kernel_rfl) (fun k hk => by cases hk) (by kernel_rfl) (laid_met os))) ?_
 intro W base args ds gs before hval0 hW hcnd _ hsz0 hL _ _
 have hsz : (DataW.weightsEach Tryd.prog (Tryd.f9.params.toList ++ Rows.fnFieldsScriptSpec.plain.varTypes Tryd.prog) (ds ++ gs)).all (· ≤ reachBytes) = true := hsz0
 have hval : ∀ (j : Nat) t v, Tryd.f9.params[j]? = some t → args[j]? = some v → Value.okWide Tryd.prog W .any base t v := hval0
 have hW' := hW
 obtain ⟨p, q, hA0, hV, rfl, hfz, hnd⟩ := hW
 have hA : DataW.TrodAll enc Tryd.prog W 0 (fun _ => true) true Tryd.f9.params.toList args.toList ds p := hA0
 rw [Tryd.params9] at hA hval hsz
 obtain ⟨v0, vs0, d0, ds0, p0, q0, hargs, rfl, rfl, h0, r0⟩ := trodAll_cons hA
 obtain ⟨v1, vs1, d1, ds1, p1, q1, rfl, rfl, rfl, h1, r1⟩ := trodAll_cons r0
 obtain ⟨rfl, rfl, rfl⟩ := trodAll_nil r1
 obtain rfl : args = #[v0, v1] := by cases args; simp_all
 obtain ⟨rfl, rfl⟩ := trodVars_none hV
 obtain ⟨a0, rfl, rfl, rfl, w0⟩ := open_int Tryd.underlying5 (hval 0 5 v0 rfl rfl) h0
 obtain ⟨cs1, e1⟩ : ∃ u, v1.cells.toList = [u] ∧ v1 = u := by
  obtain ⟨a1, len1, cap1, rfl⟩ := okWide_slice Tryd.underlying62 (hval 1 62 v1 rfl rfl)
  exact ⟨_, rfl, rfl⟩
 have k1 := h1
 have lt1 : ∀ x ∈ p1, x.block < W.heap.size := by obtain ⟨m, hm⟩ := k1; exact DataW.trod_lt m _ _ _ hm
 obtain ⟨A1, c1, l1, rfl, hc1, hC1, hb1⟩ : ∃ A c l, v1 = .slice A l.length c ∧ l.length ≤ c ∧ Go.Proofs.YtnhnlodmkbiiiaaDoorW.PrintWords.Kd.C Go.Proofs.YtnhnlodmkbiiiaaDoor.PScr.k65 W A l.length l ∧ ∀ p ∈ l, (0 ≤ p.f2 ∧ p.f2 < 18446744073709551616) ∧ ∀ x ∈ p.f1, 0 ≤ x ∧ x ≤ 255 := by
  obtain ⟨m, hm⟩ := h1
  obtain ⟨e2, rfl⟩ := e1
  rw [e2] at hm
  exact Go.Proofs.YtnhnlodmkbiiiaaDoor.HandFields.open_eds hm
 have hkd : 0 ≤ a0 ∧ a0 < 256 := by
  have := w0
  simp [Lit.wf, IntKind.bits, IntKind.signed, IntKind.min, IntKind.max] at this
  omega
 clear hA0 hval0 hsz0 hsz
 refine (Go.Proofs.YtnhnlodmkbiiiaaDoor.HandFields.script_calls W a0 (a0 % 6).toNat hkd rfl A1 c1 l1 hC1 hc1 hb1).mono fun e W' ⟨he, bel⟩ => ?_
 subst he
 exact ⟨_, rfl, _, _, _, [], _, [], hW', trodAll_mk1 (shut_bool Tryd.underlying4 _), (trodAll_cons_mk (shut_int Tryd.underlying5 w0) (trodAll_cons_mk (Below.trod laidOut (by kernel_rfl) (of_decide_eq_true (by kernel_rfl)) k1 bel lt1) trodAll_mk0)), rfl, bel.frame _, fun h => by cases h⟩
theorem over : Rows.fnFieldsScriptRow.holds Tryd.pinned (OpenSpec.ofChange Rows.fnFieldsScriptSpec) :=
 OpenClaim.holds_of_cond 9 Tryd.f9 rfl rfl rfl rfl rfl rfl rfl ⟨rfl, rfl, rfl, rfl, rfl⟩ rfl rfl rfl rfl rfl (by kernel_rfl) Tryd.func9 (by kernel_rfl)
  (of_decide_eq_true (by kernel_rfl)) (by unfold Func.isWrapper; first | (rw [if_pos (by decide +kernel)]; kernel_rfl) | (rw [if_neg (by decide +kernel)]; exact ⟨rfl, rfl⟩))
  (fun os started H enc _ F => by rw [OpenClaim.pre_eq_preRow]; exact lifted os started H enc F)
theorem proved : Rows.FnFieldsScriptSaid := over
theorem plain (f : FuncId) (fn : Func) (hf : Tryd.pinned.checked.prog.funcNamed "pub-tholos/laws.FnFieldsScript" = some f) (hfn : Tryd.pinned.checked.prog.funcs[f]? = some fn) :
  false = Tryd.pinned.checked.prog.looks [] ∧ ∀ (j : Nat) t, fn.params[j]? = some t → Tryd.pinned.checked.prog.wantsStandIn t = false := by
 obtain rfl : f = 9 := Option.some.inj ((show Tryd.prog.funcNamed "pub-tholos/laws.FnFieldsScript" = some 9 by kernel_rfl).symm.trans hf) |>.symm
 obtain rfl : fn = Tryd.f9 := (Option.some.inj (Tryd.func9.symm.trans hfn)).symm
 refine ⟨by kernel_rfl, fun j t ht => ?_⟩
 have h : (Tryd.f9.params.toList.all fun t => !Tryd.prog.wantsStandIn t) = true := by kernel_rfl
 have := List.all_eq_true.1 h t (Array.mem_toList_iff.2 (Array.mem_of_getElem? ht))
 exact (show Tryd.prog.wantsStandIn t = false by simpa using this)
theorem card : Rows.FnFieldsScriptCardSaid :=
 Claim7.holds_tied_plain_at .later [] _ _ _ _ proved (fun _ h => by cases h) (by kernel_rfl) (fun _ h => by cases h) fnFieldsScript_row_tie rfl ⟨rfl, rfl⟩ (by kernel_rfl) rfl plain (by kernel_rfl)
#print axioms card
end Go.Proofs.YtnhnlodmkbiiiaaDoor.fnFieldsScript
namespace Go.Proofs.YtnhnlodmkbiiiaaDoor
/-- The row, under a short name, for the claim. -/
theorem fnFieldsScript_holds : Rows.FnFieldsScriptCardSaid := fnFieldsScript.card
end Go.Proofs.YtnhnlodmkbiiiaaDoor
