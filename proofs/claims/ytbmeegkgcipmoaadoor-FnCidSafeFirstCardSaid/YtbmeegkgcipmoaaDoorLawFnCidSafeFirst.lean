/- FnCidSafeFirst: an identifier of the version 0 is safe: the row and its tied card, by the walks of YtbmeegkgcipmoaaDoorHandFnCidSafeFirst. -/
import Derived.Test.YtbmeegkgcipmoaaDoorCards
import Derived.Test.YtbmeegkgcipmoaaDoorTie
import Derived.Test.YtbmeegkgcipmoaaDoorHandFnCidSafeFirst
import Derived.WalkKit
import Derived.Deep.DeepHandedRow
import Derived.Deep.DeepWitnessRowRef
import Derived.LaidSub
import Derived.LaidLaws
import Derived.MakeChecks
import Derived.WideKeyArr2
import Derived.ProofKit
import Derived.OpenShut
import Derived.SliceStrings
import Derived.ShutString
import Derived.ChangeOld
import Derived.Below
import Derived.SizedLaws
import Derived.Test.YtbmeegkgcipmoaaDoorWSized
namespace Go.Proofs.YtbmeegkgcipmoaaDoor.fnCidSafeFirst
open Go.ChangeShapes Go.WideShapes Go.ChangeAt Go.RowKit
open Go.ChangeMaps (open_string shut_string)
set_option linter.unusedVariables false
theorem own : ownKnob Tryd.prog.godebug = none := by kernel_rfl
theorem laidOut : laidOutB Tryd.prog = true := by kernel_rfl
theorem name76 : Tryd.prog.typeName? 3 76 = some "*errors.errorString" := by kernel_rfl
theorem star : "*" ++ "errors.errorString" = "*errors.errorString" := by decide
theorem only76 (u : TypeId) (h : Tryd.prog.typeName? 3 u = some "*errors.errorString") : u = 76 :=
  typeName_ptr_named (nm := "errors.errorString") (by rw [star]; kernel_rfl) (by kernel_rfl) (by decide) u (by rw [star]; exact h)
theorem cells78 : Tryd.prog.cellsOf 78 = 1 := by kernel_rfl
theorem cells9 : Tryd.prog.cellsOf 9 = 1 := by kernel_rfl
theorem glob1 : Tryd.prog.globalNamed "pub-tholos/pub/boxo/verifcid.ErrPossiblyInsecureHashFunction" = some 1 := by kernel_rfl
theorem glob2 : Tryd.prog.globalNamed "pub-tholos/pub/boxo/verifcid.ErrBelowMinimumHashLength" = some 2 := by kernel_rfl
theorem globt1 : (Tryd.prog.globals[1]?).map (·.type) = some 38 := by kernel_rfl
theorem globt2 : (Tryd.prog.globals[2]?).map (·.type) = some 38 := by kernel_rfl
set_option maxRecDepth 100000 in
/-- The two sentinels that the call compares with, out of what is laid. -/
theorem sen_of_laid {W : World} (h0 : laidMetH Tryd.prog Rows.fnCidSafeFirstRow.laid W) : ∃ a1 a2, HandFnCidSafeFirst.Sen W a1 a2 := by
  have h1 := laidMetH.filter (fun x => x.1 == "pub-tholos/pub/boxo/verifcid.ErrPossiblyInsecureHashFunction" || x.1 == "pub-tholos/pub/boxo/verifcid.ErrBelowMinimumHashLength") h0
  have e : (Rows.fnCidSafeFirstRow.laid.filter (fun x => x.1 == "pub-tholos/pub/boxo/verifcid.ErrPossiblyInsecureHashFunction" || x.1 == "pub-tholos/pub/boxo/verifcid.ErrBelowMinimumHashLength")) = [("pub-tholos/pub/boxo/verifcid.ErrPossiblyInsecureHashFunction", Rows.laid_pub_tholos_pub_boxo_verifcid_ErrPossiblyInsecureHashFunction), ("pub-tholos/pub/boxo/verifcid.ErrBelowMinimumHashLength", Rows.laid_pub_tholos_pub_boxo_verifcid_ErrBelowMinimumHashLength)] := by
    simp [Rows.fnCidSafeFirstRow, List.filter]
  rw [e, MakeChecks.laidMetH_plain _ _ _ (by kernel_rfl)] at h1
  obtain ⟨ps, ⟨g0, t0, cs0, f0, p0, q0, hg0, ht0, hv0, hd0, ⟨g1, t1, cs1, f1, p1, q1, hg1, ht1, hv1, hd1, hq1, e1⟩, e0⟩, hnd, hrows⟩ := h1
  obtain rfl := Option.some.inj (glob1.symm.trans hg0)
  obtain rfl := Option.some.inj (glob2.symm.trans hg1)
  obtain rfl := Option.some.inj (globt1.symm.trans ht0)
  obtain rfl := Option.some.inj (globt2.symm.trans ht1)
  have hq1' : q1 = [] := hq1
  subst hq1'
  subst e1
  subst e0
  obtain ⟨l0⟩ := cs0
  obtain ⟨l1⟩ := cs1
  have ok0 : ∀ u v, l0 = [.iface u v] → Value.okWide Tryd.prog W .any 0 u v := fun u v e => by
    subst e
    exact (hrows 1 0 (by simp [MemPlace.row])).2 u v (by simpa using World.var?_cell hg0 hv0 0)
  have ok1 : ∀ u v, l1 = [.iface u v] → Value.okWide Tryd.prog W .any 0 u v := fun u v e => by
    subst e
    exact (hrows 2 0 (by simp [MemPlace.row])).2 u v (by simpa using World.var?_cell hg1 hv1 0)
  obtain ⟨a0, s0, rfl, hc0, hs0, hz0, rfl⟩ := errorString_of_trod Tryd.underlying38 only76 Tryd.underlying76 Tryd.underlying78 rfl rfl Tryd.underlying9 cells78 cells9 hd0 ok0
  obtain ⟨a1, s1, rfl, hc1, hs1, hz1, rfl⟩ := errorString_of_trod Tryd.underlying38 only76 Tryd.underlying76 Tryd.underlying78 rfl rfl Tryd.underlying9 cells78 cells9 hd1 ok1
  obtain ⟨c0, t0, hb0⟩ := (hrows a0.block a0.off (by simp [MemPlace.row])).1
  obtain ⟨c1, t1, hb1⟩ := (hrows a1.block a1.off (by simp [MemPlace.row])).1
  refine ⟨a0, a1, by simpa using World.var?_cell hg0 hv0 0, by simpa using World.var?_cell hg1 hv1 0, ?_, ⟨c0, t0, hb0⟩, ⟨c1, t1, hb1⟩⟩
  rintro rfl
  simp [MemPlace.row] at hnd
/-- An array of bytes that came in. -/
theorem open_bytes32 {H : Type} {enc : TypeId × Value → H} {W : World} {xs : Array Value} (hn : xs.size = 32) {d : DataW H} {ps : List MemPlace} (hd : DataW.Trod enc Tryd.prog W 0 (fun _ => true) true 32 (.agg xs) d ps) :
    ∃ hs : List Int, hs.length = 32 ∧ xs = (hs.map (Value.int .u8)).toArray ∧ ps = [] := by
  obtain ⟨fuel, hf⟩ := hd
  cases fuel with
  | zero => simp [DataW.trod] at hf
  | succ m =>
    rw [DataW.trod_step] at hf
    unfold DataW.trodStep at hf
    simp only [Tryd.underlying32, Value.cells] at hf
    rw [if_pos (by rw [show Tryd.prog.cellsOf 32 = 32 by kernel_rfl]; simpa using hn)] at hf
    simp only [Option.map_eq_some_iff] at hf
    obtain ⟨ys, hy, e1⟩ := hf
    rw [show Tryd.prog.cellsOf 5 = 1 by kernel_rfl] at hy
    have key : ∀ (L : List Nat) (ys : List (DataW H × List MemPlace)), L.mapM (fun i => DataW.trod enc Tryd.prog W 0 (fun _ => true) true m 5 ((xs.toList.drop (i * 1)).take 1)) = some ys →
        ∃ hs : List Int, L.map (fun i => (xs.toList.drop (i * 1)).take 1) = hs.map (fun x => [Value.int .u8 x]) ∧ ∀ y ∈ ys, y.2 = [] := by
      intro L
      induction L with
      | nil => intro ys h; simp at h; subst h; exact ⟨[], rfl, by simp⟩
      | cons i L ih =>
        intro ys h
        rw [List.mapM_cons] at h
        simp only [bind, Option.bind_eq_some_iff, pure, Option.some.injEq] at h
        obtain ⟨y, hy, zs, hzs, rfl⟩ := h
        obtain ⟨hs, e, hp⟩ := ih zs hzs
        obtain ⟨a, ea, rfl, wa⟩ := DataW.trod_int Tryd.underlying5 hy
        exact ⟨a :: hs, by simp only [List.map_cons, ea, e], by simpa using hp⟩
    obtain ⟨hs, e, hp⟩ := key _ ys hy
    have hl : hs.length = 32 := by
      have := congrArg List.length e
      simpa using this.symm
    refine ⟨hs, hl, ?_, ?_⟩
    · apply Array.ext
      · simp [hl, hn]
      · intro i h1 h2
        have hi : i < 32 := by omega
        have := congrArg (fun l => l[i]?) e
        simp only [List.getElem?_map, List.getElem?_range, hi, Option.map_some, Nat.mul_one] at this
        rw [List.getElem?_eq_getElem (show i < hs.length by omega)] at this
        simp only [Option.map_some, Option.some.injEq] at this
        rw [List.drop_eq_getElem_cons (by simpa using h1)] at this
        simp only [List.take_succ_cons, List.take_zero, List.cons.injEq, and_true] at this
        simpa using this
    · simp only [Prod.mk.injEq] at e1
      rw [← e1.2]
      simp only [List.flatMap_eq_nil_iff]
      exact fun y hy => hp y hy
/-- A world for the witness: the settled one, the listed variables laid. -/
noncomputable def laidWorld (os : Os) : World :=
  { (World.holding Tryd.prog os ⟨#[], #[], []⟩) with heap := ((((((((((((((((((((World.holding Tryd.prog os ⟨#[], #[], []⟩).heap).modify 4 (fun | .cells _ t z => .cells #[.iface 76 (.pointer (some ⟨(World.holding Tryd.prog os ⟨#[], #[], []⟩).heap.size + 0, 0, none⟩))] t z | o => o)).modify 6 (fun | .cells _ t z => .cells #[.iface 76 (.pointer (some ⟨(World.holding Tryd.prog os ⟨#[], #[], []⟩).heap.size + 1, 0, none⟩))] t z | o => o)).modify 5 (fun | .cells _ t z => .cells #[.iface 76 (.pointer (some ⟨(World.holding Tryd.prog os ⟨#[], #[], []⟩).heap.size + 2, 0, none⟩))] t z | o => o)).modify 9 (fun | .cells _ t z => .cells #[.iface 76 (.pointer (some ⟨(World.holding Tryd.prog os ⟨#[], #[], []⟩).heap.size + 3, 0, none⟩))] t z | o => o)).modify 10 (fun | .cells _ t z => .cells #[.iface 76 (.pointer (some ⟨(World.holding Tryd.prog os ⟨#[], #[], []⟩).heap.size + 4, 0, none⟩))] t z | o => o)).modify 11 (fun | .cells _ t z => .cells #[.iface 76 (.pointer (some ⟨(World.holding Tryd.prog os ⟨#[], #[], []⟩).heap.size + 5, 0, none⟩))] t z | o => o)).modify 0 (fun | .cells _ t z => .cells #[] t z | o => o)).modify 1 (fun | .cells _ t z => .cells #[.iface 76 (.pointer (some ⟨(World.holding Tryd.prog os ⟨#[], #[], []⟩).heap.size + 6, 0, none⟩))] t z | o => o)).modify 2 (fun | .cells _ t z => .cells #[.iface 76 (.pointer (some ⟨(World.holding Tryd.prog os ⟨#[], #[], []⟩).heap.size + 7, 0, none⟩))] t z | o => o)).modify 3 (fun | .cells _ t z => .cells #[.iface 76 (.pointer (some ⟨(World.holding Tryd.prog os ⟨#[], #[], []⟩).heap.size + 8, 0, none⟩))] t z | o => o)).push (.cells #[Value.string ⟨#[118, 97, 114, 105, 110, 116, 115, 32, 108, 97, 114, 103, 101, 114, 32, 116, 104, 97, 110, 32, 117, 105, 110, 116, 54, 51, 32, 110, 111, 116, 32, 115, 117, 112, 112, 111, 114, 116, 101, 100]⟩] 78 (0, 0))).push (.cells #[Value.string ⟨#[118, 97, 114, 105, 110, 116, 115, 32, 109, 97, 108, 102, 111, 114, 109, 101, 100, 44, 32, 99, 111, 117, 108, 100, 32, 110, 111, 116, 32, 114, 101, 97, 99, 104, 32, 116, 104, 101, 32, 101, 110, 100]⟩] 78 (0, 0))).push (.cells #[Value.string ⟨#[118, 97, 114, 105, 110, 116, 32, 110, 111, 116, 32, 109, 105, 110, 105, 109, 97, 108, 108, 121, 32, 101, 110, 99, 111, 100, 101, 100]⟩] 78 (0, 0))).push (.cells #[Value.string ⟨#[109, 117, 108, 116, 105, 104, 97, 115, 104, 32, 116, 111, 111, 32, 115, 104, 111, 114, 116, 46, 32, 109, 117, 115, 116, 32, 98, 101, 32, 62, 61, 32, 50, 32, 98, 121, 116, 101, 115]⟩] 78 (0, 0))).push (.cells #[Value.string ⟨#[117, 118, 97, 114, 105, 110, 116, 58, 32, 98, 117, 102, 102, 101, 114, 32, 116, 111, 111, 32, 115, 109, 97, 108, 108]⟩] 78 (0, 0))).push (.cells #[Value.string ⟨#[117, 118, 97, 114, 105, 110, 116, 58, 32, 118, 97, 114, 105, 110, 116, 32, 116, 111, 111, 32, 98, 105, 103, 32, 40, 109, 97, 120, 32, 54, 52, 98, 105, 116, 41]⟩] 78 (0, 0))).push (.cells #[Value.string ⟨#[112, 111, 116, 101, 110, 116, 105, 97, 108, 108, 121, 32, 105, 110, 115, 101, 99, 117, 114, 101, 32, 104, 97, 115, 104, 32, 102, 117, 110, 99, 116, 105, 111, 110, 115, 32, 110, 111, 116, 32, 97, 108, 108, 111, 119, 101, 100]⟩] 78 (0, 0))).push (.cells #[Value.string ⟨#[104, 97, 115, 104, 101, 115, 32, 109, 117, 115, 116, 32, 98, 101, 32, 97, 116, 32, 108, 101, 97, 115, 116, 32, 50, 48, 32, 98, 121, 116, 101, 115, 32, 108, 111, 110, 103]⟩] 78 (0, 0))).push (.cells #[Value.string ⟨#[104, 97, 115, 104, 101, 115, 32, 109, 117, 115, 116, 32, 98, 101, 32, 97, 116, 32, 109, 111, 115, 116, 32, 49, 50, 56, 32, 98, 121, 116, 101, 115, 32, 108, 111, 110, 103]⟩] 78 (0, 0)) }
theorem laid_met (os : Os) : laidMet Tryd.prog Rows.fnCidSafeFirstRow.laid ((laidWorld os).forCall (fun _ _ => 0) ⟨#[], #[.agg #[.int .u8 0, .int .u8 0, .int .u8 0, .int .u8 0, .int .u8 0, .int .u8 0, .int .u8 0, .int .u8 0, .int .u8 0, .int .u8 0, .int .u8 0, .int .u8 0, .int .u8 0, .int .u8 0, .int .u8 0, .int .u8 0, .int .u8 0, .int .u8 0, .int .u8 0, .int .u8 0, .int .u8 0, .int .u8 0, .int .u8 0, .int .u8 0, .int .u8 0, .int .u8 0, .int .u8 0, .int .u8 0, .int .u8 0, .int .u8 0, .int .u8 0, .int .u8 0]], []⟩).memory :=
  laidMet_of_run' 8 (by kernel_rfl) (by kernel_rfl)
theorem reads (os : Os) {H : Type} (enc : TypeId × Value → H) : ∃ places, DataW.whole enc Tryd.prog ((laidWorld os).forCall (fun _ _ => 0) ⟨#[], #[.agg #[.int .u8 0, .int .u8 0, .int .u8 0, .int .u8 0, .int .u8 0, .int .u8 0, .int .u8 0, .int .u8 0, .int .u8 0, .int .u8 0, .int .u8 0, .int .u8 0, .int .u8 0, .int .u8 0, .int .u8 0, .int .u8 0, .int .u8 0, .int .u8 0, .int .u8 0, .int .u8 0, .int .u8 0, .int .u8 0, .int .u8 0, .int .u8 0, .int .u8 0, .int .u8 0, .int .u8 0, .int .u8 0, .int .u8 0, .int .u8 0, .int .u8 0, .int .u8 0]], []⟩).memory Tryd.f4.params.toList (OpenSpec.ofChange Rows.fnCidSafeFirstSpec).vars false (#[.agg #[.int .u8 0, .int .u8 0, .int .u8 0, .int .u8 0, .int .u8 0, .int .u8 0, .int .u8 0, .int .u8 0, .int .u8 0, .int .u8 0, .int .u8 0, .int .u8 0, .int .u8 0, .int .u8 0, .int .u8 0, .int .u8 0, .int .u8 0, .int .u8 0, .int .u8 0, .int .u8 0, .int .u8 0, .int .u8 0, .int .u8 0, .int .u8 0, .int .u8 0, .int .u8 0, .int .u8 0, .int .u8 0, .int .u8 0, .int .u8 0, .int .u8 0, .int .u8 0]] : Array Value).toList 8 = some ([.agg [.lit (.int .u8 0), .lit (.int .u8 0), .lit (.int .u8 0), .lit (.int .u8 0), .lit (.int .u8 0), .lit (.int .u8 0), .lit (.int .u8 0), .lit (.int .u8 0), .lit (.int .u8 0), .lit (.int .u8 0), .lit (.int .u8 0), .lit (.int .u8 0), .lit (.int .u8 0), .lit (.int .u8 0), .lit (.int .u8 0), .lit (.int .u8 0), .lit (.int .u8 0), .lit (.int .u8 0), .lit (.int .u8 0), .lit (.int .u8 0), .lit (.int .u8 0), .lit (.int .u8 0), .lit (.int .u8 0), .lit (.int .u8 0), .lit (.int .u8 0), .lit (.int .u8 0), .lit (.int .u8 0), .lit (.int .u8 0), .lit (.int .u8 0), .lit (.int .u8 0), .lit (.int .u8 0), .lit (.int .u8 0)]], [], places) :=
  ⟨[], by kernel_rfl⟩
set_option maxRecDepth 100000 in
theorem lifted (os : Os) (started : os.Started) (H : Type) (enc : TypeId × Value → H) (F : Stop.Interp) :
    ReturnsInHanded {} Tryd.checked os 4 .any ((OpenSpec.ofChange Rows.fnCidSafeFirstSpec).preRow enc Tryd.prog Tryd.f4 Rows.fnCidSafeFirstRow.domain false Rows.fnCidSafeFirstRow.laid) (((OpenSpec.ofChange Rows.fnCidSafeFirstSpec).at F).post enc Tryd.prog Tryd.f4 false true false false) := by
  obtain ⟨places, hx⟩ := reads os enc
  refine returnsInHanded_of_row (C := Tryd.checked) (s := (OpenSpec.ofChange Rows.fnCidSafeFirstSpec)) own started (by kernel_rfl) Tryd.func4
    (witness_row_atRef (enc := enc) (C := Tryd.checked) false (laidWorld os) #[.agg #[.int .u8 0, .int .u8 0, .int .u8 0, .int .u8 0, .int .u8 0, .int .u8 0, .int .u8 0, .int .u8 0, .int .u8 0, .int .u8 0, .int .u8 0, .int .u8 0, .int .u8 0, .int .u8 0, .int .u8 0, .int .u8 0, .int .u8 0, .int .u8 0, .int .u8 0, .int .u8 0, .int .u8 0, .int .u8 0, .int .u8 0, .int .u8 0, .int .u8 0, .int .u8 0, .int .u8 0, .int .u8 0, .int .u8 0, .int .u8 0, .int .u8 0, .int .u8 0]] rfl (by kernel_rfl) (by kernel_rfl) (by kernel_rfl)
      (OpenSpec.preRow_of_cond 8 hx (by kernel_rfl) (fun k hk => by cases hk) (by kernel_rfl) (laid_met os))) ?_
  intro W base args ds gs before hval0 hW hcnd _ hsz0 hL _ _
  have hval : ∀ (j : Nat) t v, Tryd.f4.params[j]? = some t → args[j]? = some v → Value.okWide Tryd.prog W .any base t v := hval0
  have hW' := hW
  obtain ⟨p, q, hA0, hV, rfl, hfz, hnd⟩ := hW
  have hA : DataW.TrodAll enc Tryd.prog W 0 (fun _ => true) true Tryd.f4.params.toList args.toList ds p := hA0
  rw [Tryd.params4] at hA hval
  obtain ⟨v0, d0, rfl, rfl, h0⟩ := trodAll_one hA
  obtain ⟨rfl, rfl⟩ := trodVars_none hV
  obtain ⟨xs, rfl, hxs, _⟩ : ∃ cs : Array Value, v0 = .agg cs ∧ cs.size = 32 ∧ True := by
    have h := hval 0 32 v0 rfl rfl
    simp only [Value.okWide, Tryd.underlying32] at h
    obtain ⟨cs, h1, h2, _⟩ := h
    exact ⟨cs, h1, by rw [h2]; kernel_rfl, trivial⟩
  have k0 := h0
  have lt0 : ∀ x ∈ p, x.block < W.heap.size := by obtain ⟨m, hm⟩ := k0; exact DataW.trod_lt m _ _ _ hm
  obtain ⟨hs, h32, rfl, rfl⟩ := open_bytes32 hxs h0
  obtain ⟨a1, a2, sen⟩ := sen_of_laid hL
  clear hA0 hval0 hsz0
  refine (HandFnCidSafeFirst.law_calls hs h32 a1 a2 W sen).mono fun e W' ⟨he, bel⟩ => ?_
  subst he
  exact ⟨_, rfl, _, _, _, [], _, [], hW', trodAll_mk1 (shut_bool Tryd.underlying4 _), (trodAll_cons_mk (Below.trod laidOut (by kernel_rfl) (of_decide_eq_true (by kernel_rfl)) k0 bel lt0) trodAll_mk0), rfl, bel.frame _, fun h => by cases h⟩
theorem over : Rows.fnCidSafeFirstRow.holds Tryd.pinned (OpenSpec.ofChange Rows.fnCidSafeFirstSpec) :=
  OpenClaim.holds_of_cond 4 Tryd.f4 rfl rfl rfl rfl rfl rfl rfl ⟨rfl, rfl, rfl, rfl, rfl⟩ rfl rfl rfl rfl rfl (by kernel_rfl) Tryd.func4 (by kernel_rfl)
    (of_decide_eq_true (by kernel_rfl)) (by unfold Func.isWrapper; first | (rw [if_pos (by decide +kernel)]; kernel_rfl) | (rw [if_neg (by decide +kernel)]; exact ⟨rfl, rfl⟩))
    (fun os started H enc _ F => by rw [OpenClaim.pre_eq_preRow]; exact lifted os started H enc F)
theorem proved : Rows.FnCidSafeFirstSaid := over
theorem plain (f : FuncId) (fn : Func) (hf : Tryd.pinned.checked.prog.funcNamed "pub-tholos/laws.FnCidSafeFirst" = some f) (hfn : Tryd.pinned.checked.prog.funcs[f]? = some fn) :
    true = Tryd.pinned.checked.prog.looks [] ∧ ∀ (j : Nat) t, fn.params[j]? = some t → Tryd.pinned.checked.prog.wantsStandIn t = false := by
  obtain rfl : f = 4 := Option.some.inj ((show Tryd.prog.funcNamed "pub-tholos/laws.FnCidSafeFirst" = some 4 by kernel_rfl).symm.trans hf) |>.symm
  obtain rfl : fn = Tryd.f4 := (Option.some.inj (Tryd.func4.symm.trans hfn)).symm
  refine ⟨by kernel_rfl, fun j t ht => ?_⟩
  have h : (Tryd.f4.params.toList.all fun t => !Tryd.prog.wantsStandIn t) = true := by kernel_rfl
  have := List.all_eq_true.1 h t (Array.mem_toList_iff.2 (Array.mem_of_getElem? ht))
  exact (show Tryd.prog.wantsStandIn t = false by simpa using this)
theorem card : Rows.FnCidSafeFirstCardSaid :=
  Claim7.holds_tied_plain_at .later [] _ _ _ _ proved (fun _ h => by cases h) (by kernel_rfl) (fun _ h => by cases h) fnCidSafeFirst_row_tie rfl ⟨rfl, rfl⟩ (by kernel_rfl) rfl plain (by kernel_rfl)
#print axioms card
end Go.Proofs.YtbmeegkgcipmoaaDoor.fnCidSafeFirst
namespace Go.Proofs.YtbmeegkgcipmoaaDoor
/-- The row, under a short name, for the claim. -/
theorem fnCidSafeFirst_holds : Rows.FnCidSafeFirstCardSaid := fnCidSafeFirst.card
end Go.Proofs.YtbmeegkgcipmoaaDoor
