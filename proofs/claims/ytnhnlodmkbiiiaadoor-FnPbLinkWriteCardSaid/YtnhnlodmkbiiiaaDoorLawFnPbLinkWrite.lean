/- The row and its card of FnPbLinkWrite, by the walk of YtnhnlodmkbiiiaaDoorG10. -/
import Derived.Test.YtnhnlodmkbiiiaaDoorCards
import Derived.Test.YtnhnlodmkbiiiaaDoorTie
import Derived.Test.YtnhnlodmkbiiiaaDoorG10
import Derived.LaidSub
import Derived.LaidLaws
import Derived.MakeChecks
import Derived.WalkKit
import Derived.Deep.DeepHandedRow
import Derived.Deep.DeepWitnessRowRef
import Derived.ProofKit
import Derived.OpenShut
import Derived.SliceStrings
import Derived.ShutString
import Derived.ChangeOld
import Derived.Below
import Derived.SizedLaws
import Derived.Test.YtnhnlodmkbiiiaaDoorWSized
namespace Go.Proofs.YtnhnlodmkbiiiaaDoor.fnPbLinkWrite
open Go.ChangeShapes Go.WideShapes Go.ChangeAt Go.RowKit
open Go.ChangeMaps (open_string shut_string)
set_option linter.unusedVariables false
theorem own : ownKnob Tryd.prog.godebug = none := by kernel_rfl
theorem laidOut : laidOutB Tryd.prog = true := by kernel_rfl
def IsRow (k : IntKind) (w : World) (a : Option Addr) (len cap : Nat) (zs : List Int) : Prop :=
  (a = none ∧ len = 0 ∧ cap = 0 ∧ zs = []) ∨
  ∃ x, a = some x ∧ len ≤ cap ∧ cap ≤ maxLen ∧ zs.length = cap ∧ (∀ i, i < zs.length → w.cell? (x.add i) = some (.int k (zs.getD i 0))) ∧ ∀ n ∈ zs, (Lit.int k n).wf = true
theorem glob_0 : Tryd.prog.globalNamed "pub-tholos/pub/boxo/ipld/merkledag/pb.ErrIntOverflowMerkledag" = some 0 := by kernel_rfl
theorem globt_0 : (Tryd.prog.globals[0]?).map (·.type) = some 98 := by kernel_rfl
set_option maxRecDepth 100000 in
theorem ge_0 {W : World} (h0 : laidMetH Tryd.prog Rows.fnPbLinkWriteRow.laid W) : ∃ T X, W.cell? ⟨0, 0, none⟩ = some (.iface T X) := by
  have h1 := laidMetH.filter (fun x => x.1 == "pub-tholos/pub/boxo/ipld/merkledag/pb.ErrIntOverflowMerkledag") h0
  have e : (Rows.fnPbLinkWriteRow.laid.filter (fun x => x.1 == "pub-tholos/pub/boxo/ipld/merkledag/pb.ErrIntOverflowMerkledag")) = [("pub-tholos/pub/boxo/ipld/merkledag/pb.ErrIntOverflowMerkledag", Rows.laid_pub_tholos_pub_boxo_ipld_merkledag_pb_ErrIntOverflowMerkledag)] := by
    simp [Rows.fnPbLinkWriteRow, List.filter]
  rw [e, MakeChecks.laidMetH_plain _ _ _ (by kernel_rfl)] at h1
  obtain ⟨ps, ⟨g0, t0, cs0, f0, p0, q0, hg0, ht0, hv0, hd0, _⟩, _⟩ := h1
  obtain rfl := Option.some.inj (glob_0.symm.trans hg0)
  obtain rfl := Option.some.inj (globt_0.symm.trans ht0)
  obtain ⟨l0⟩ := cs0
  obtain ⟨f1, u, v, rfl, hn, _⟩ := iface_of_trod Tryd.underlying98 hd0
  exact ⟨u, v, by simpa using World.var?_cell hg0 hv0 0⟩
theorem glob_1 : Tryd.prog.globalNamed "io.ErrUnexpectedEOF" = some 1 := by kernel_rfl
theorem globt_1 : (Tryd.prog.globals[1]?).map (·.type) = some 98 := by kernel_rfl
set_option maxRecDepth 100000 in
theorem ge_1 {W : World} (h0 : laidMetH Tryd.prog Rows.fnPbLinkWriteRow.laid W) : ∃ T X, W.cell? ⟨1, 0, none⟩ = some (.iface T X) := by
  have h1 := laidMetH.filter (fun x => x.1 == "io.ErrUnexpectedEOF") h0
  have e : (Rows.fnPbLinkWriteRow.laid.filter (fun x => x.1 == "io.ErrUnexpectedEOF")) = [("io.ErrUnexpectedEOF", Rows.laid_io_ErrUnexpectedEOF)] := by
    simp [Rows.fnPbLinkWriteRow, List.filter]
  rw [e, MakeChecks.laidMetH_plain _ _ _ (by kernel_rfl)] at h1
  obtain ⟨ps, ⟨g0, t0, cs0, f0, p0, q0, hg0, ht0, hv0, hd0, _⟩, _⟩ := h1
  obtain rfl := Option.some.inj (glob_1.symm.trans hg0)
  obtain rfl := Option.some.inj (globt_1.symm.trans ht0)
  obtain ⟨l0⟩ := cs0
  obtain ⟨f1, u, v, rfl, hn, _⟩ := iface_of_trod Tryd.underlying98 hd0
  exact ⟨u, v, by simpa using World.var?_cell hg0 hv0 0⟩
theorem glob_2 : Tryd.prog.globalNamed "pub-tholos/pub/boxo/ipld/merkledag/pb.ErrInvalidLengthMerkledag" = some 2 := by kernel_rfl
theorem globt_2 : (Tryd.prog.globals[2]?).map (·.type) = some 98 := by kernel_rfl
set_option maxRecDepth 100000 in
theorem ge_2 {W : World} (h0 : laidMetH Tryd.prog Rows.fnPbLinkWriteRow.laid W) : ∃ T X, W.cell? ⟨2, 0, none⟩ = some (.iface T X) := by
  have h1 := laidMetH.filter (fun x => x.1 == "pub-tholos/pub/boxo/ipld/merkledag/pb.ErrInvalidLengthMerkledag") h0
  have e : (Rows.fnPbLinkWriteRow.laid.filter (fun x => x.1 == "pub-tholos/pub/boxo/ipld/merkledag/pb.ErrInvalidLengthMerkledag")) = [("pub-tholos/pub/boxo/ipld/merkledag/pb.ErrInvalidLengthMerkledag", Rows.laid_pub_tholos_pub_boxo_ipld_merkledag_pb_ErrInvalidLengthMerkledag)] := by
    simp [Rows.fnPbLinkWriteRow, List.filter]
  rw [e, MakeChecks.laidMetH_plain _ _ _ (by kernel_rfl)] at h1
  obtain ⟨ps, ⟨g0, t0, cs0, f0, p0, q0, hg0, ht0, hv0, hd0, _⟩, _⟩ := h1
  obtain rfl := Option.some.inj (glob_2.symm.trans hg0)
  obtain rfl := Option.some.inj (globt_2.symm.trans ht0)
  obtain ⟨l0⟩ := cs0
  obtain ⟨f1, u, v, rfl, hn, _⟩ := iface_of_trod Tryd.underlying98 hd0
  exact ⟨u, v, by simpa using World.var?_cell hg0 hv0 0⟩
/-- A link that came in by value. -/
theorem open_link {H : Type} {enc : TypeId × Value → H} {W : World} {cs : Array Value} (hn : cs.size = 6) {d : DataW H} {ps : List MemPlace} (hd : DataW.Trod enc Tryd.prog W 0 (fun _ => true) true 27 (.agg cs) d ps) :
    ∃ b0 b1 b2 a0 len0 cap0 z0 st z, cs = #[.bool b0, .bool b1, .bool b2, .slice a0 len0 cap0, .string st, .int .u64 z] ∧ IsRow .u8 W a0 len0 cap0 z0 ∧ (Lit.int .u64 z).wf = true := by
  obtain ⟨fuel, hf⟩ := hd
  obtain ⟨c0, c1, c2, c3, c4, c5, rfl⟩ : ∃ c0 c1 c2 c3 c4 c5, cs = #[c0, c1, c2, c3, c4, c5] := by
    obtain ⟨l⟩ := cs
    match l, hn with
    | [c0, c1, c2, c3, c4, c5], _ => exact ⟨c0, c1, c2, c3, c4, c5, rfl⟩
  obtain ⟨xs, n, _, _, _, hlen, hfs⟩ := DataW.trod_struct Tryd.underlying27 hf
  have k4 : Tryd.prog.cellsOf 4 = 1 := by kernel_rfl
  have k22 : Tryd.prog.cellsOf 22 = 1 := by kernel_rfl
  have k9 : Tryd.prog.cellsOf 9 = 1 := by kernel_rfl
  have k24 : Tryd.prog.cellsOf 24 = 1 := by kernel_rfl
  match xs, hlen with
  | [y0, y1, y2, y3, y4, y5], _ =>
    have h0 := hfs 0 _ rfl
    have h1 := hfs 1 _ rfl
    have h2 := hfs 2 _ rfl
    have h3 := hfs 3 _ rfl
    have h4 := hfs 4 _ rfl
    have h5 := hfs 5 _ rfl
    change DataW.trod enc Tryd.prog W 0 (fun _ => true) true n 4 (List.take (Tryd.prog.cellsOf 4) (List.drop 0 [c0, c1, c2, c3, c4, c5])) = some y0 at h0
    rw [k4] at h0
    change DataW.trod enc Tryd.prog W 0 (fun _ => true) true n 4 (List.take (Tryd.prog.cellsOf 4) (List.drop 1 [c0, c1, c2, c3, c4, c5])) = some y1 at h1
    rw [k4] at h1
    change DataW.trod enc Tryd.prog W 0 (fun _ => true) true n 4 (List.take (Tryd.prog.cellsOf 4) (List.drop 2 [c0, c1, c2, c3, c4, c5])) = some y2 at h2
    rw [k4] at h2
    change DataW.trod enc Tryd.prog W 0 (fun _ => true) true n 22 (List.take (Tryd.prog.cellsOf 22) (List.drop 3 [c0, c1, c2, c3, c4, c5])) = some y3 at h3
    rw [k22] at h3
    change DataW.trod enc Tryd.prog W 0 (fun _ => true) true n 9 (List.take (Tryd.prog.cellsOf 9) (List.drop 4 [c0, c1, c2, c3, c4, c5])) = some y4 at h4
    rw [k9] at h4
    change DataW.trod enc Tryd.prog W 0 (fun _ => true) true n 24 (List.take (Tryd.prog.cellsOf 24) (List.drop 5 [c0, c1, c2, c3, c4, c5])) = some y5 at h5
    rw [k24] at h5
    obtain ⟨b0, e0, _⟩ := DataW.trod_bool Tryd.underlying4 h0
    obtain ⟨b1, e1, _⟩ := DataW.trod_bool Tryd.underlying4 h1
    obtain ⟨b2, e2, _⟩ := DataW.trod_bool Tryd.underlying4 h2
    obtain ⟨st, e4, _, _⟩ := DataW.trod_string Tryd.underlying9 h4
    obtain ⟨z, e5, _, hz⟩ := DataW.trod_int Tryd.underlying24 h5
    cases e0; cases e1; cases e2; cases e4; cases e5
    rcases open_ints Tryd.underlying22 Tryd.underlying5 (by kernel_rfl) h3 with ⟨hcs, _⟩ | ⟨x, l, c, zs, hcs, _, hl, hm, hzs, _, hcell, hwz⟩
    · cases hcs
      exact ⟨_, _, _, _, _, _, [], _, _, rfl, .inl ⟨rfl, rfl, rfl, rfl⟩, hz⟩
    · cases hcs
      exact ⟨_, _, _, _, _, _, zs, _, _, rfl, .inr ⟨_, rfl, hl, hm, by simpa using hzs, hcell, hwz⟩, hz⟩
/-- A world for the witness: the settled one, the listed variables laid. -/
noncomputable def laidWorld (os : Os) : World :=
  { (World.holding Tryd.prog os ⟨#[], #[], []⟩) with heap := (((((((((World.holding Tryd.prog os ⟨#[], #[], []⟩).heap).modify 1 (fun | .cells _ t z => .cells #[.iface 180 (.pointer (some ⟨(World.holding Tryd.prog os ⟨#[], #[], []⟩).heap.size + 0, 0, none⟩))] t z | o => o)).modify 2 (fun | .cells _ t z => .cells #[.iface 180 (.pointer (some ⟨(World.holding Tryd.prog os ⟨#[], #[], []⟩).heap.size + 1, 0, none⟩))] t z | o => o)).modify 0 (fun | .cells _ t z => .cells #[.iface 180 (.pointer (some ⟨(World.holding Tryd.prog os ⟨#[], #[], []⟩).heap.size + 2, 0, none⟩))] t z | o => o)).modify 3 (fun | .cells _ t z => .cells #[.iface 180 (.pointer (some ⟨(World.holding Tryd.prog os ⟨#[], #[], []⟩).heap.size + 3, 0, none⟩))] t z | o => o)).push (.cells #[Value.string ⟨#[117, 110, 101, 120, 112, 101, 99, 116, 101, 100, 32, 69, 79, 70]⟩] 182 (0, 0))).push (.cells #[Value.string ⟨#[112, 114, 111, 116, 111, 58, 32, 110, 101, 103, 97, 116, 105, 118, 101, 32, 108, 101, 110, 103, 116, 104, 32, 102, 111, 117, 110, 100, 32, 100, 117, 114, 105, 110, 103, 32, 117, 110, 109, 97, 114, 115, 104, 97, 108, 105, 110, 103]⟩] 182 (0, 0))).push (.cells #[Value.string ⟨#[112, 114, 111, 116, 111, 58, 32, 105, 110, 116, 101, 103, 101, 114, 32, 111, 118, 101, 114, 102, 108, 111, 119]⟩] 182 (0, 0))).push (.cells #[Value.string ⟨#[112, 114, 111, 116, 111, 58, 32, 117, 110, 101, 120, 112, 101, 99, 116, 101, 100, 32, 101, 110, 100, 32, 111, 102, 32, 103, 114, 111, 117, 112]⟩] 182 (0, 0)) }
theorem laid_met (os : Os) : laidMet Tryd.prog Rows.fnPbLinkWriteRow.laid ((laidWorld os).forCall (fun _ _ => 0) ⟨#[], #[.agg #[.bool false, .bool false, .bool false, .slice none 0 0, .string ByteArray.empty, .int .u64 0]], []⟩).memory :=
  laidMet_of_run' 8 (by kernel_rfl) (by kernel_rfl)
theorem reads (os : Os) {H : Type} (enc : TypeId × Value → H) : ∃ places, DataW.whole enc Tryd.prog ((laidWorld os).forCall (fun _ _ => 0) ⟨#[], #[.agg #[.bool false, .bool false, .bool false, .slice none 0 0, .string ByteArray.empty, .int .u64 0]], []⟩).memory Tryd.f4.params.toList (OpenSpec.ofChange Rows.fnPbLinkWriteSpec).vars false (#[.agg #[.bool false, .bool false, .bool false, .slice none 0 0, .string ByteArray.empty, .int .u64 0]] : Array Value).toList 8 = some ([.agg [.lit (.bool false), .lit (.bool false), .lit (.bool false), .nil, .lit (.string []), .lit (.int .u64 0)]], [], places) :=
  ⟨[], by kernel_rfl⟩
set_option maxRecDepth 100000 in
theorem lifted (os : Os) (started : os.Started) (H : Type) (enc : TypeId × Value → H) (F : Stop.Interp) :
    ReturnsInHanded {} Tryd.checked os 4 .any ((OpenSpec.ofChange Rows.fnPbLinkWriteSpec).preRow enc Tryd.prog Tryd.f4 Rows.fnPbLinkWriteRow.domain false Rows.fnPbLinkWriteRow.laid) (((OpenSpec.ofChange Rows.fnPbLinkWriteSpec).at F).post enc Tryd.prog Tryd.f4 false true false false) := by
  obtain ⟨places, hx⟩ := reads os enc
  refine returnsInHanded_of_row (C := Tryd.checked) (s := (OpenSpec.ofChange Rows.fnPbLinkWriteSpec)) own started (by kernel_rfl) Tryd.func4
    (witness_row_atRef (enc := enc) (C := Tryd.checked) false (laidWorld os) #[.agg #[.bool false, .bool false, .bool false, .slice none 0 0, .string ByteArray.empty, .int .u64 0]] rfl (by kernel_rfl) (by kernel_rfl) (by kernel_rfl)
      (OpenSpec.preRow_of_cond 8 hx (by kernel_rfl) (fun k hk => by cases hk) (by kernel_rfl) (laid_met os))) ?_
  intro W base args ds gs before hval0 hW hcnd _ hsz0 hL _ _
  have hsz : (DataW.weightsEach Tryd.prog (Tryd.f4.params.toList ++ Rows.fnPbLinkWriteSpec.plain.varTypes Tryd.prog) (ds ++ gs)).all (· ≤ reachBytes) = true := hsz0
  have hval : ∀ (j : Nat) t v, Tryd.f4.params[j]? = some t → args[j]? = some v → Value.okWide Tryd.prog W .any base t v := hval0
  have hW' := hW
  obtain ⟨p, q, hA0, hV, rfl, hfz, hnd⟩ := hW
  have hA : DataW.TrodAll enc Tryd.prog W 0 (fun _ => true) true Tryd.f4.params.toList args.toList ds p := hA0
  rw [Tryd.params4] at hA hval hsz
  obtain ⟨v0, vs0, d0, ds0, p0, q0, hargs, rfl, rfl, h0, r0⟩ := trodAll_cons hA
  obtain ⟨rfl, rfl, rfl⟩ := trodAll_nil r0
  obtain rfl : args = #[v0] := by cases args; simp_all
  obtain ⟨rfl, rfl⟩ := trodVars_none hV
  obtain ⟨cs0, rfl, hcs0⟩ := okWide_struct Tryd.underlying27 (hval 0 27 v0 rfl rfl)
  have k0 := h0
  have lt0 : ∀ x ∈ p0, x.block < W.heap.size := by obtain ⟨m, hm⟩ := k0; exact DataW.trod_lt m _ _ _ hm
  obtain ⟨b0, b1, b2, a0, len0, cap0, z0, st, z, rfl, w0, hz⟩ := open_link (by rw [hcs0]; kernel_rfl) h0
  clear hA0 hval0 hsz0 hsz
  refine (Go.Proofs.YtnhnlodmkbiiiaaDoor.HandPb.write_walk b0 b1 b2 a0 len0 cap0 z0 st z W hz w0 (ge_0 hL) (ge_1 hL) (ge_2 hL)).mono fun e W' ⟨he, bel⟩ => ?_
  subst he
  exact ⟨_, rfl, _, _, _, [], _, [], hW', trodAll_mk1 (shut_bool Tryd.underlying4 _), (trodAll_cons_mk (Below.trod laidOut (by kernel_rfl) (of_decide_eq_true (by kernel_rfl)) k0 bel lt0) trodAll_mk0), rfl, bel.frame _, fun h => by cases h⟩
theorem over : Rows.fnPbLinkWriteRow.holds Tryd.pinned (OpenSpec.ofChange Rows.fnPbLinkWriteSpec) :=
  OpenClaim.holds_of_cond 4 Tryd.f4 rfl rfl rfl rfl rfl rfl rfl ⟨rfl, rfl, rfl, rfl, rfl⟩ rfl rfl rfl rfl rfl (by kernel_rfl) Tryd.func4 (by kernel_rfl)
    (of_decide_eq_true (by kernel_rfl)) (by unfold Func.isWrapper; first | (rw [if_pos (by decide +kernel)]; kernel_rfl) | (rw [if_neg (by decide +kernel)]; exact ⟨rfl, rfl⟩))
    (fun os started H enc _ F => by rw [OpenClaim.pre_eq_preRow]; exact lifted os started H enc F)
theorem proved : Rows.FnPbLinkWriteSaid := over
theorem plain (f : FuncId) (fn : Func) (hf : Tryd.pinned.checked.prog.funcNamed "pub-tholos/laws.FnPbLinkWrite" = some f) (hfn : Tryd.pinned.checked.prog.funcs[f]? = some fn) :
    false = Tryd.pinned.checked.prog.looks [] ∧ ∀ (j : Nat) t, fn.params[j]? = some t → Tryd.pinned.checked.prog.wantsStandIn t = false := by
  obtain rfl : f = 4 := Option.some.inj ((show Tryd.prog.funcNamed "pub-tholos/laws.FnPbLinkWrite" = some 4 by kernel_rfl).symm.trans hf) |>.symm
  obtain rfl : fn = Tryd.f4 := (Option.some.inj (Tryd.func4.symm.trans hfn)).symm
  refine ⟨by kernel_rfl, fun j t ht => ?_⟩
  have h : (Tryd.f4.params.toList.all fun t => !Tryd.prog.wantsStandIn t) = true := by kernel_rfl
  have := List.all_eq_true.1 h t (Array.mem_toList_iff.2 (Array.mem_of_getElem? ht))
  exact (show Tryd.prog.wantsStandIn t = false by simpa using this)
theorem card : Rows.FnPbLinkWriteCardSaid :=
  Claim7.holds_tied_plain_at .later [] _ _ _ _ proved (fun _ h => by cases h) (by kernel_rfl) (fun _ h => by cases h) fnPbLinkWrite_row_tie rfl ⟨rfl, rfl⟩ (by kernel_rfl) rfl plain (by kernel_rfl)
#print axioms card
end Go.Proofs.YtnhnlodmkbiiiaaDoor.fnPbLinkWrite
namespace Go.Proofs.YtnhnlodmkbiiiaaDoor
/-- The row, under a short name, for the claim. -/
theorem fnPbLinkWrite_holds : Rows.FnPbLinkWriteCardSaid := fnPbLinkWrite.card
end Go.Proofs.YtnhnlodmkbiiiaaDoor
