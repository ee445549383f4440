/- The row and its card of FnPbJoined, by the walk of YtnhnlodmkbiiiaaDoorJC. -/
import Derived.Test.YtnhnlodmkbiiiaaDoorCards
import Derived.Test.YtnhnlodmkbiiiaaDoorTie
import Derived.Test.YtnhnlodmkbiiiaaDoorQJC
import Derived.LaidSub
import Derived.LaidLaws
import Derived.MakeChecks
import Derived.WalkKit
import Derived.Deep.DeepHandedRow
import Derived.Deep.DeepWitnessRowRef
import Derived.ProofKit
import Derived.OpenShut
import Derived.SliceStrings
import Derived.ShutString
import Derived.ChangeOld
import Derived.Below
import Derived.SizedLaws
import Derived.Test.YtnhnlodmkbiiiaaDoorWSized
namespace Go.Proofs.YtnhnlodmkbiiiaaDoor.fnPbJoined
open Go.ChangeShapes Go.WideShapes Go.ChangeAt Go.RowKit
open Go.ChangeMaps (open_string shut_string)
set_option linter.unusedVariables false
theorem own : ownKnob Tryd.prog.godebug = none := by kernel_rfl
theorem laidOut : laidOutB Tryd.prog = true := by kernel_rfl
theorem glob_0 : Tryd.prog.globalNamed "pub-tholos/pub/boxo/ipld/merkledag/pb.ErrIntOverflowMerkledag" = some 0 := by kernel_rfl
theorem globt_0 : (Tryd.prog.globals[0]?).map (·.type) = some 98 := by kernel_rfl
set_option maxRecDepth 100000 in
theorem ge_0 {W : World} (h0 : laidMetH Tryd.prog Rows.fnPbJoinedRow.laid W) : ∃ T X, W.cell? ⟨0, 0, none⟩ = some (.iface T X) := by
 have h1 := laidMetH.filter (fun x => x.1 == "pub-tholos/pub/boxo/ipld/merkledag/pb.ErrIntOverflowMerkledag") h0
 have e : (Rows.fnPbJoinedRow.laid.filter (fun x => x.1 == "pub-tholos/pub/boxo/ipld/merkledag/pb.ErrIntOverflowMerkledag")) = [("pub-tholos/pub/boxo/ipld/merkledag/pb.ErrIntOverflowMerkledag", Rows.laid_pub_tholos_pub_boxo_ipld_merkledag_pb_ErrIntOverflowMerkledag)] := by
  simp [Rows.fnPbJoinedRow, List.filter]
 rw [e, MakeChecks.laidMetH_plain _ _ _ (by kernel_rfl)] at h1
 obtain ⟨ps, ⟨g0, t0, cs0, f0, p0, q0, hg0, ht0, hv0, hd0, _⟩, _⟩ := h1
 obtain rfl := Option.some.inj (glob_0.symm.trans hg0)
 obtain rfl := Option.some.inj (globt_0.symm.trans ht0)
 obtain ⟨l0⟩ := cs0
 obtain ⟨f1, u, v, rfl, hn, _⟩ := iface_of_trod Tryd.underlying98 hd0
 exact ⟨u, v, by simpa using World.var?_cell hg0 hv0 0⟩
theorem glob_1 : Tryd.prog.globalNamed "io.ErrUnexpectedEOF" = some 1 := by kernel_rfl
theorem globt_1 : (Tryd.prog.globals[1]?).map (·.type) = some 98 := by kernel_rfl
set_option maxRecDepth 100000 in
theorem ge_1 {W : World} (h0 : laidMetH Tryd.prog Rows.fnPbJoinedRow.laid W) : ∃ T X, W.cell? ⟨1, 0, none⟩ = some (.iface T X) := by
 have h1 := laidMetH.filter (fun x => x.1 == "io.ErrUnexpectedEOF") h0
 have e : (Rows.fnPbJoinedRow.laid.filter (fun x => x.1 == "io.ErrUnexpectedEOF")) = [("io.ErrUnexpectedEOF", Rows.laid_io_ErrUnexpectedEOF)] := by
  simp [Rows.fnPbJoinedRow, List.filter]
 rw [e, MakeChecks.laidMetH_plain _ _ _ (by kernel_rfl)] at h1
 obtain ⟨ps, ⟨g0, t0, cs0, f0, p0, q0, hg0, ht0, hv0, hd0, _⟩, _⟩ := h1
 obtain rfl := Option.some.inj (glob_1.symm.trans hg0)
 obtain rfl := Option.some.inj (globt_1.symm.trans ht0)
 obtain ⟨l0⟩ := cs0
 obtain ⟨f1, u, v, rfl, hn, _⟩ := iface_of_trod Tryd.underlying98 hd0
 exact ⟨u, v, by simpa using World.var?_cell hg0 hv0 0⟩
theorem glob_2 : Tryd.prog.globalNamed "pub-tholos/pub/boxo/ipld/merkledag/pb.ErrInvalidLengthMerkledag" = some 2 := by kernel_rfl
theorem globt_2 : (Tryd.prog.globals[2]?).map (·.type) = some 98 := by kernel_rfl
set_option maxRecDepth 100000 in
theorem ge_2 {W : World} (h0 : laidMetH Tryd.prog Rows.fnPbJoinedRow.laid W) : ∃ T X, W.cell? ⟨2, 0, none⟩ = some (.iface T X) := by
 have h1 := laidMetH.filter (fun x => x.1 == "pub-tholos/pub/boxo/ipld/merkledag/pb.ErrInvalidLengthMerkledag") h0
 have e : (Rows.fnPbJoinedRow.laid.filter (fun x => x.1 == "pub-tholos/pub/boxo/ipld/merkledag/pb.ErrInvalidLengthMerkledag")) = [("pub-tholos/pub/boxo/ipld/merkledag/pb.ErrInvalidLengthMerkledag", Rows.laid_pub_tholos_pub_boxo_ipld_merkledag_pb_ErrInvalidLengthMerkledag)] := by
  simp [Rows.fnPbJoinedRow, List.filter]
 rw [e, MakeChecks.laidMetH_plain _ _ _ (by kernel_rfl)] at h1
 obtain ⟨ps, ⟨g0, t0, cs0, f0, p0, q0, hg0, ht0, hv0, hd0, _⟩, _⟩ := h1
 obtain rfl := Option.some.inj (glob_2.symm.trans hg0)
 obtain rfl := Option.some.inj (globt_2.symm.trans ht0)
 obtain ⟨l0⟩ := cs0
 obtain ⟨f1, u, v, rfl, hn, _⟩ := iface_of_trod Tryd.underlying98 hd0
 exact ⟨u, v, by simpa using World.var?_cell hg0 hv0 0⟩
/-- A world for the witness: the settled one, the listed variables laid. -/
noncomputable def laidWorld (os : Os) : World :=
 { (World.holding Tryd.prog os ⟨#[], #[], []⟩) with heap := (((((((((World.holding Tryd.prog os ⟨#[], #[], []⟩).heap).modify 1 (fun | .cells _ t z => .cells #[.iface 180 (.pointer (some ⟨(World.holding Tryd.prog os ⟨#[], #[], []⟩).heap.size + 0, 0, none⟩))] t z | o => o)).modify 2 (fun | .cells _ t z => .cells #[.iface 180 (.pointer (some ⟨(World.holding Tryd.prog os ⟨#[], #[], []⟩).heap.size + 1, 0, none⟩))] t z | o => o)).modify 0 (fun | .cells _ t z => .cells #[.iface 180 (.pointer (some ⟨(World.holding Tryd.prog os ⟨#[], #[], []⟩).heap.size + 2, 0, none⟩))] t z | o => o)).modify 3 (fun | .cells _ t z => .cells #[.iface 180 (.pointer (some ⟨(World.holding Tryd.prog os ⟨#[], #[], []⟩).heap.size + 3, 0, none⟩))] t z | o => o)).push (.cells #[Value.string ⟨#[117, 110, 101, 120, 112, 101, 99, 116, 101, 100, 32, 69, 79, 70]⟩] 182 (0, 0))).push (.cells #[Value.string ⟨#[112, 114, 111, 116, 111, 58, 32, 110, 101, 103, 97, 116, 105, 118, 101, 32, 108, 101, 110, 103, 116, 104, 32, 102, 111, 117, 110, 100, 32, 100, 117, 114, 105, 110, 103, 32, 117, 110, 109, 97, 114, 115, 104, 97, 108, 105, 110, 103]⟩] 182 (0, 0))).push (.cells #[Value.string ⟨#[112, 114, 111, 116, 111, 58, 32, 105, 110, 116, 101, 103, 101, 114, 32, 111, 118, 101, 114, 102, 108, 111, 119]⟩] 182 (0, 0))).push (.cells #[Value.string ⟨#[112, 114, 111, 116, 111, 58, 32, 117, 110, 101, 120, 112, 101, 99, 116, 101, 100, 32, 101, 110, 100, 32, 111, 102, 32, 103, 114, 111, 117, 112]⟩] 182 (0, 0)) }
theorem laid_met (os : Os) : laidMet Tryd.prog Rows.fnPbJoinedRow.laid ((laidWorld os).forCall (fun _ _ => 0) ⟨#[], #[.agg #[.bool false, .slice none 0 0, .slice none 0 0], .agg #[.bool false, .slice none 0 0, .slice none 0 0]], []⟩).memory :=
 laidMet_of_run' 8 (by kernel_rfl) (by kernel_rfl)
theorem reads (os : Os) {H : Type} (enc : TypeId × Value → H) : ∃ places, DataW.whole enc Tryd.prog ((laidWorld os).forCall (fun _ _ => 0) ⟨#[], #[.agg #[.bool false, .slice none 0 0, .slice none 0 0], .agg #[.bool false, .slice none 0 0, .slice none 0 0]], []⟩).memory Tryd.f5.params.toList (OpenSpec.ofChange Rows.fnPbJoinedSpec).vars false (#[.agg #[.bool false, .slice none 0 0, .slice none 0 0], .agg #[.bool false, .slice none 0 0, .slice none 0 0]] : Array Value).toList 8 = some ([.agg [.lit (.bool false), .nil, .nil], .agg [.lit (.bool false), .nil, .nil]], [], places) :=
 ⟨[], by kernel_rfl⟩
set_option maxRecDepth 100000 in
theorem lifted (os : Os) (started : os.Started) (H : Type) (enc : TypeId × Value → H) (F : Stop.Interp) :
  ReturnsInHanded {} Tryd.checked os 5 .any ((OpenSpec.ofChange Rows.fnPbJoinedSpec).preRow enc Tryd.prog Tryd.f5 Rows.fnPbJoinedRow.domain false Rows.fnPbJoinedRow.laid) (((OpenSpec.ofChange Rows.fnPbJoinedSpec).at F).post enc Tryd.prog Tryd.f5 false true false false) := by
 obtain ⟨places, hx⟩ := reads os enc
 refine returnsInHanded_of_row (C := Tryd.checked) (s := (OpenSpec.ofChange Rows.fnPbJoinedSpec)) own started (by kernel_rfl) Tryd.func5
  (witness_row_atRef (enc := enc) (C := Tryd.checked) false (laidWorld os) #[.agg #[.bool false, .slice none 0 0, .slice none 0 0], .agg #[.bool false, .slice none 0 0, .slice none 0 0]] rfl (by kernel_rfl) (by kernel_rfl) (by kernel_rfl)
   (OpenSpec.preRow_of_cond 8 hx (by kernel_rfl) (fun k hk => by cases hk) (by kernel_rfl) (laid_met os))) ?_
 intro W base args ds gs before hval0 hW hcnd _ hsz0 hL _ _
 have hsz : (DataW.weightsEach Tryd.prog (Tryd.f5.params.toList ++ Rows.fnPbJoinedSpec.plain.varTypes Tryd.prog) (ds ++ gs)).all (· ≤ reachBytes) = true := hsz0
 have hval : ∀ (j : Nat) t v, Tryd.f5.params[j]? = some t → args[j]? = some v → Value.okWide Tryd.prog W .any base t v := hval0
 have hW' := hW
 obtain ⟨p, q, hA0, hV, rfl, hfz, hnd⟩ := hW
 have hA : DataW.TrodAll enc Tryd.prog W 0 (fun _ => true) true Tryd.f5.params.toList args.toList ds p := hA0
 rw [Tryd.params5] at hA hval hsz
 obtain ⟨v0, vs0, d0, ds0, p0, q0, hargs, rfl, rfl, h0, r0⟩ := trodAll_cons hA
 obtain ⟨v1, vs1, d1, ds1, p1, q1, rfl, rfl, rfl, h1, r1⟩ := trodAll_cons r0
 obtain ⟨rfl, rfl, rfl⟩ := trodAll_nil r1
 obtain rfl : args = #[v0, v1] := by cases args; simp_all
 obtain ⟨rfl, rfl⟩ := trodVars_none hV
 obtain ⟨cs0, rfl, hcs0⟩ := okWide_struct Tryd.underlying36 (hval 0 36 v0 rfl rfl)
 obtain ⟨cs1, rfl, hcs1⟩ := okWide_struct Tryd.underlying36 (hval 1 36 v1 rfl rfl)
 have k0 := h0
 have k1 := h1
 have lt0 : ∀ x ∈ p0, x.block < W.heap.size := by obtain ⟨m, hm⟩ := k0; exact DataW.trod_lt m _ _ _ hm
 have lt1 : ∀ x ∈ p1, x.block < W.heap.size := by obtain ⟨m, hm⟩ := k1; exact DataW.trod_lt m _ _ _ hm
 obtain ⟨ha, A1, c1, A2, c2, da, la, rfl, hA1, hc1, hA2, hc2, ia⟩ := Go.Proofs.YtnhnlodmkbiiiaaDoor.HandPj.open_nd (by rw [hcs0]; kernel_rfl) h0
 obtain ⟨hb, B1, d1', B2, d2', db, lb, rfl, hB1, hd1, hB2, hd2, ib⟩ := Go.Proofs.YtnhnlodmkbiiiaaDoor.HandPj.open_nd (by rw [hcs1]; kernel_rfl) h1
 clear hA0 hval0 hsz0 hsz
 refine (Go.Proofs.YtnhnlodmkbiiiaaDoor.HandPj.law5_calls W ha hb da db la lb A1 A2 B1 B2 c1 c2 d1' d2' hA1 hc1 hA2 hc2 hB1 hd1 hB2 hd2 ⟨ge_0 hL, ge_1 hL, ge_2 hL⟩ ia ib).mono fun e W' ⟨he, bel⟩ => ?_
 subst he
 exact ⟨_, rfl, _, _, _, [], _, [], hW', trodAll_mk1 (shut_bool Tryd.underlying4 _), (trodAll_cons_mk (Below.trod laidOut (by kernel_rfl) (of_decide_eq_true (by kernel_rfl)) k0 bel lt0) (trodAll_cons_mk (Below.trod laidOut (by kernel_rfl) (of_decide_eq_true (by kernel_rfl)) k1 bel lt1) trodAll_mk0)), rfl, bel.frame _, fun h => by cases h⟩
theorem over : Rows.fnPbJoinedRow.holds Tryd.pinned (OpenSpec.ofChange Rows.fnPbJoinedSpec) :=
 OpenClaim.holds_of_cond 5 Tryd.f5 rfl rfl rfl rfl rfl rfl rfl ⟨rfl, rfl, rfl, rfl, rfl⟩ rfl rfl rfl rfl rfl (by kernel_rfl) Tryd.func5 (by kernel_rfl)
  (of_decide_eq_true (by kernel_rfl)) (by unfold Func.isWrapper; first | (rw [if_pos (by decide +kernel)]; kernel_rfl) | (rw [if_neg (by decide +kernel)]; exact ⟨rfl, rfl⟩))
  (fun os started H enc _ F => by rw [OpenClaim.pre_eq_preRow]; exact lifted os started H enc F)
theorem proved : Rows.FnPbJoinedSaid := over
theorem plain (f : FuncId) (fn : Func) (hf : Tryd.pinned.checked.prog.funcNamed "pub-tholos/laws.FnPbJoined" = some f) (hfn : Tryd.pinned.checked.prog.funcs[f]? = some fn) :
  false = Tryd.pinned.checked.prog.looks [] ∧ ∀ (j : Nat) t, fn.params[j]? = some t → Tryd.pinned.checked.prog.wantsStandIn t = false := by
 obtain rfl : f = 5 := Option.some.inj ((show Tryd.prog.funcNamed "pub-tholos/laws.FnPbJoined" = some 5 by kernel_rfl).symm.trans hf) |>.symm
 obtain rfl : fn = Tryd.f5 := (Option.some.inj (Tryd.func5.symm.trans hfn)).symm
 refine ⟨by kernel_rfl, fun j t ht => ?_⟩
 have h : (Tryd.f5.params.toList.all fun t => !Tryd.prog.wantsStandIn t) = true := by kernel_rfl
 have := List.all_eq_true.1 h t (Array.mem_toList_iff.2 (Array.mem_of_getElem? ht))
 exact (show Tryd.prog.wantsStandIn t = false by simpa using this)
theorem card : Rows.FnPbJoinedCardSaid :=
 Claim7.holds_tied_plain_at .later [] _ _ _ _ proved (fun _ h => by cases h) (by kernel_rfl) (fun _ h => by cases h) fnPbJoined_row_tie rfl ⟨rfl, rfl⟩ (by kernel_rfl) rfl plain (by kernel_rfl)
#print axioms card
end Go.Proofs.YtnhnlodmkbiiiaaDoor.fnPbJoined
namespace Go.Proofs.YtnhnlodmkbiiiaaDoor
/-- The row, under a short name, for the claim. -/
theorem fnPbJoined_holds : Rows.FnPbJoinedCardSaid := fnPbJoined.card
end Go.Proofs.YtnhnlodmkbiiiaaDoor
