/- An identifier of the version 0 is safe, and three small examples are told as they are: the Go functions of FnCidSafeFirst that the print does not take, walked by hand. -/
import Derived.Test.YtbmeegkgcipmoaaDoorProg
import Derived.WalkSpells
import Derived.WalkLawsBesides
import Derived.Below
import Derived.Deep.Draws
import Derived.Deep.AppendLies
import Derived.Maps.AppendAt
import Derived.OwnWalk
import Derived.Laws.BytesArg
import Derived.Laws.MakeOwn
import Derived.Laws.OwnMore
import Derived.Deep.OwnRows
import Derived.Tactics
import Derived.Lib.ConvBytes
import Derived.Laws.Slices
import Derived.WalkKit
import Derived.KernelRfl
import Derived.RowKit3
import Derived.Deep.LoopGhost
import Derived.Deep.QuietTactic
import Derived.BigQuiet
import Derived.WideLaws
import Derived.Deep.DeepCutAuto
import Derived.Deep.CutBlock
import Derived.Deep.RegionHeld3
import Derived.Laws.Rows
import Derived.Lib.AppendStr
import Derived.ArgAppend
import Derived.Laws.IdiomCopy
import Derived.OrdersHeld
import Derived.Laws.BitsLemmas
import Derived.RowKit
import Derived.Test.YtbmeegkgcipmoaaDoorLOwn
import Derived.Test.YtbmeegkgcipmoaaDoorLOwn2
import Derived.Test.YtbmeegkgcipmoaaDoorWWords
import Derived.Test.YtbmeegkgcipmoaaDoorWLast
import Derived.Test.YtbmeegkgcipmoaaDoorWTab
import Derived.Test.YtbmeegkgcipmoaaDoorWFour
import Derived.Test.YtbmeegkgcipmoaaDoorWQPut
import Derived.Test.YtbmeegkgcipmoaaDoorWApart
import Derived.Test.YtbmeegkgcipmoaaDoorWArr
import Derived.Test.YtbmeegkgcipmoaaDoorWZeros
import Derived.Test.YtbmeegkgcipmoaaDoorWFoot
import Derived.Test.YtbmeegkgcipmoaaDoorWKept
import Derived.Test.YtbmeegkgcipmoaaDoorWShare
import Derived.Test.YtbmeegkgcipmoaaDoorWN
import Derived.Test.YtbmeegkgcipmoaaDoorWFootNe
import Derived.Test.YtbmeegkgcipmoaaDoorWAt
import Derived.Test.YtbmeegkgcipmoaaDoorWEqStruct
import Derived.Test.YtbmeegkgcipmoaaDoorWRepsOne
import Derived.Test.YtbmeegkgcipmoaaDoorWInv
import Derived.Test.YtbmeegkgcipmoaaDoorWInvWords
import Derived.Test.YtbmeegkgcipmoaaDoorWGuard
import Derived.Test.YtbmeegkgcipmoaaDoorWNEv
import Derived.Test.YtbmeegkgcipmoaaDoorWMore
import Derived.Test.YtbmeegkgcipmoaaDoorPFnCidSafeFirstx
import Derived.LaidEql
namespace Go.Proofs.YtbmeegkgcipmoaaDoor.HandFnCidSafeFirst
open Go Go.RowKit Go.Proofs.YtbmeegkgcipmoaaDoorL Go.Proofs.YtbmeegkgcipmoaaDoorW.PrintWords Go.Proofs.YtbmeegkgcipmoaaDoorW.PrintLast Go.Proofs.YtbmeegkgcipmoaaDoorW.PrintMore Go.Proofs.YtbmeegkgcipmoaaDoor.PFnCidSafeFirst
attribute [local go_sem] max2_int min2_int max_two min_two max_three min_three max_four min_four
set_option linter.unusedVariables false
set_option linter.unusedSimpArgs false
set_option maxHeartbeats 4000000 in
set_option maxRecDepth 100000 in
theorem allowed18 (w : World) : Calls Tryd.prog 61 #[.agg #[], .int .u64 18] w fun e w' => e = .returned (.bool true) ∧ Below w.heap.size w w' := by
  go_enter Tryd.func61, Tryd.ntmps61
  go_wp2
  go_ret
  exact ⟨rfl, below_alloc (Below.refl _ _) _⟩
set_option maxHeartbeats 4000000 in
set_option maxRecDepth 100000 in
theorem allowed24 (w : World) : Calls Tryd.prog 61 #[.agg #[], .int .u64 24] w fun e w' => e = .returned (.bool false) ∧ Below w.heap.size w w' := by
  go_enter Tryd.func61, Tryd.ntmps61
  go_wp2
  go_ret
  exact ⟨rfl, below_alloc (Below.refl _ _) _⟩
/-- The sentinels, as they lie. -/
structure Sen (W : World) (a1 a2 : Addr) : Prop where
  s1 : W.cell? ⟨1, 0, none⟩ = some (.iface 76 (.pointer (some a1)))
  s2 : W.cell? ⟨2, 0, none⟩ = some (.iface 76 (.pointer (some a2)))
  ne : a2 ≠ a1
  h1 : ∃ c t, W.heap[a1.block]? = some (.cells c t (0, 0))
  h2 : ∃ c t, W.heap[a2.block]? = some (.cells c t (0, 0))
theorem Sen.below {W W1 : World} {a1 a2 : Addr} (h : Sen W a1 a2) (hb : Below W.heap.size W W1) : Sen W1 a1 a2 := by
  obtain ⟨c1, t1, e1⟩ := h.h1
  obtain ⟨c2, t2, e2⟩ := h.h2
  exact ⟨(hb.cell (World.block_lt_of_cell? _ _ h.s1)).trans h.s1, (hb.cell (World.block_lt_of_cell? _ _ h.s2)).trans h.s2, h.ne, ⟨c1, t1, (hb.block _ (blk_lt e1)).trans e1⟩, ⟨c2, t2, (hb.block _ (blk_lt e2)).trans e2⟩⟩
set_option maxHeartbeats 4000000 in
set_option maxRecDepth 100000 in
theorem Validate_ok (k : Nat) (s : ByteArray) (v c n : Int) (a1 a2 : Addr) (w : World) (hs : Sen w a1 a2) (hp : gocid_Cid_Prefix.f k s = some (v, c, 18, n)) (hn : 20 ≤ n ∧ n ≤ 128) :
    Calls Tryd.prog 20 #[.iface 52 (.agg #[]), .agg #[.string s]] w fun e w' => e = .returned .nilIface ∧ Below w.heap.size w w' := by
  have hm : ∀ w : World, (method 233 52 (.agg #[]) "IsAllowed").run Tryd.prog w = .ok (61, .agg #[]) w := fun _ => by kernel_rfl
  have HP := Aside0.mk hp
  have SN := Aside0.mk hs
  have q1 : decide (n < 20) = false := decide_eq_false (by omega)
  have q2 : decide (128 < n) = false := decide_eq_false (by omega)
  have HB := Aside0.mk (Below.refl w.heap.size w)
  clear hp hs hn
  go_enter Tryd.func20, Tryd.ntmps20
  go_wp2_with (first | (go_at_call 29; refine (gocid_Cid_Prefix.calls k s v c 18 n _ HP.out).mono ?_; rintro e w3 ⟨rfl, hb⟩; have HB3 := Aside0.mk (below_step (by repeat (first | exact HB.out | apply below_alloc)) hb); clear hb) | ((with_reducible refine gate_dst (N := 5) rfl ?_); refine box_event (N := 5) (cs := #[.int .u64 0, .int .u64 0, .int .u64 0, .int .i64 0]) (t := 73) ?hg ?hd ?hr ?_; (case hd => rfl); (case hg => rfl); (case hr => first | (go_simp; done) | (go_simp; rfl)); intro g5 hg w4 hbox hb; have BK := Aside0.mk hbox; have HB4 := Aside0.mk (below_step HB3.out hb); have GE := Aside0.mk (show w.heap.size ≤ g5 by have := below_size HB3.out; omega); clear hg hbox hb; have hz0 : w4.cell? ⟨g5, 0, none⟩ = some (.int .u64 0) := (blk_cell BK.out 0).trans rfl; have hz1 : w4.cell? ⟨g5, 1, none⟩ = some (.int .u64 0) := (blk_cell BK.out 1).trans rfl; have hz2 : w4.cell? ⟨g5, 2, none⟩ = some (.int .u64 0) := (blk_cell BK.out 2).trans rfl; have hz3 : w4.cell? ⟨g5, 3, none⟩ = some (.int .i64 0) := (blk_cell BK.out 3).trans rfl; have hf0 := blk_frozen BK.out 0; have hf1 := blk_frozen BK.out 1; have hf2 := blk_frozen BK.out 2; have hf3 := blk_frozen BK.out 3) | (go_at_call 61; refine (allowed18 _).mono ?_; rintro e w6 ⟨rfl, hb⟩; have BK6 := (hb.block g5 (blk_lt (blk_put (blk_put (blk_put (blk_put BK.out 0 (.int .u64 v) rfl) 1 (.int .u64 c) rfl) 2 (.int .u64 18) rfl) 3 (.int .i64 n) rfl))).trans (blk_put (blk_put (blk_put (blk_put BK.out 0 (.int .u64 v) rfl) 1 (.int .u64 c) rfl) 2 (.int .u64 18) rfl) 3 (.int .i64 n) rfl); have HB4b := Aside0.mk (below_set (j := 3) (v := .int .i64 n) (below_set (j := 2) (v := .int .u64 18) (below_set (j := 1) (v := .int .u64 c) (below_set (j := 0) (v := .int .u64 v) HB4.out GE.out) GE.out) GE.out) GE.out); have hy2 : w6.cell? ⟨g5, 2, none⟩ = some (.int .u64 18) := (blk_cell BK6 2).trans rfl; have hy3 : w6.cell? ⟨g5, 3, none⟩ = some (.int .i64 n) := (blk_cell BK6 3).trans rfl; have HB6 := Aside0.mk (below_step HB4b.out hb); clear hb BK6 hz0 hz1 hz2 hz3 hf0 hf1 hf2 hf3))
  go_ret
  exact ⟨rfl, HB6.out⟩
set_option maxHeartbeats 4000000 in
set_option maxRecDepth 100000 in
theorem Validate_bad (k : Nat) (s : ByteArray) (v c n : Int) (a1 a2 : Addr) (w : World) (hs : Sen w a1 a2) (hp : gocid_Cid_Prefix.f k s = some (v, c, 24, n)) :
    Calls Tryd.prog 20 #[.iface 52 (.agg #[]), .agg #[.string s]] w fun e w' => e = .returned (.iface 76 (.pointer (some a1))) ∧ Below w.heap.size w w' := by
  have hm : ∀ w : World, (method 233 52 (.agg #[]) "IsAllowed").run Tryd.prog w = .ok (61, .agg #[]) w := fun _ => by kernel_rfl
  have HP := Aside0.mk hp
  have SN := Aside0.mk hs
  have HB := Aside0.mk (Below.refl w.heap.size w)
  clear hp hs
  go_enter Tryd.func20, Tryd.ntmps20
  go_wp2_with (first | (go_at_call 29; refine (gocid_Cid_Prefix.calls k s v c 24 n _ HP.out).mono ?_; rintro e w3 ⟨rfl, hb⟩; have HB3 := Aside0.mk (below_step (by repeat (first | exact HB.out | apply below_alloc)) hb); clear hb) | ((with_reducible refine gate_dst (N := 5) rfl ?_); refine box_event (N := 5) (cs := #[.int .u64 0, .int .u64 0, .int .u64 0, .int .i64 0]) (t := 73) ?hg ?hd ?hr ?_; (case hd => rfl); (case hg => rfl); (case hr => first | (go_simp; done) | (go_simp; rfl)); intro g5 hg w4 hbox hb; have BK := Aside0.mk hbox; have HB4 := Aside0.mk (below_step HB3.out hb); have GE := Aside0.mk (show w.heap.size ≤ g5 by have := below_size HB3.out; omega); clear hg hbox hb; have hz0 : w4.cell? ⟨g5, 0, none⟩ = some (.int .u64 0) := (blk_cell BK.out 0).trans rfl; have hz1 : w4.cell? ⟨g5, 1, none⟩ = some (.int .u64 0) := (blk_cell BK.out 1).trans rfl; have hz2 : w4.cell? ⟨g5, 2, none⟩ = some (.int .u64 0) := (blk_cell BK.out 2).trans rfl; have hz3 : w4.cell? ⟨g5, 3, none⟩ = some (.int .i64 0) := (blk_cell BK.out 3).trans rfl; have hf0 := blk_frozen BK.out 0; have hf1 := blk_frozen BK.out 1; have hf2 := blk_frozen BK.out 2; have hf3 := blk_frozen BK.out 3) | (go_at_call 61; refine (allowed24 _).mono ?_; rintro e w6 ⟨rfl, hb⟩; have BK6 := (hb.block g5 (blk_lt (blk_put (blk_put (blk_put (blk_put BK.out 0 (.int .u64 v) rfl) 1 (.int .u64 c) rfl) 2 (.int .u64 24) rfl) 3 (.int .i64 n) rfl))).trans (blk_put (blk_put (blk_put (blk_put BK.out 0 (.int .u64 v) rfl) 1 (.int .u64 c) rfl) 2 (.int .u64 24) rfl) 3 (.int .i64 n) rfl); have HB4b := Aside0.mk (below_set (j := 3) (v := .int .i64 n) (below_set (j := 2) (v := .int .u64 24) (below_set (j := 1) (v := .int .u64 c) (below_set (j := 0) (v := .int .u64 v) HB4.out GE.out) GE.out) GE.out) GE.out); have hy2 : w6.cell? ⟨g5, 2, none⟩ = some (.int .u64 24) := (blk_cell BK6 2).trans rfl; have hy3 : w6.cell? ⟨g5, 3, none⟩ = some (.int .i64 n) := (blk_cell BK6 3).trans rfl; have HB6 := Aside0.mk (below_step HB4b.out hb); have hg : w6.cell? ⟨1, 0, none⟩ = some (.iface 76 (.pointer (some a1))) := (SN.out.below (below_step HB4b.out hb)).s1; clear hb BK6 hz0 hz1 hz2 hz3 hf0 hf1 hf2 hf3))
  go_ret
  exact ⟨rfl, HB6.out⟩
set_option maxHeartbeats 4000000 in
set_option maxRecDepth 100000 in
theorem Validate_short (k : Nat) (s : ByteArray) (v c n : Int) (a1 a2 : Addr) (w : World) (hs : Sen w a1 a2) (hp : gocid_Cid_Prefix.f k s = some (v, c, 18, n)) (hn : n < 20) :
    Calls Tryd.prog 20 #[.iface 52 (.agg #[]), .agg #[.string s]] w fun e w' => e = .returned (.iface 76 (.pointer (some a2))) ∧ Below w.heap.size w w' := by
  have hm : ∀ w : World, (method 233 52 (.agg #[]) "IsAllowed").run Tryd.prog w = .ok (61, .agg #[]) w := fun _ => by kernel_rfl
  have HP := Aside0.mk hp
  have SN := Aside0.mk hs
  have q1 : decide (n < 20) = true := decide_eq_true (by omega)
  have HB := Aside0.mk (Below.refl w.heap.size w)
  clear hp hs hn
  go_enter Tryd.func20, Tryd.ntmps20
  go_wp2_with (first | (go_at_call 29; refine (gocid_Cid_Prefix.calls k s v c 18 n _ HP.out).mono ?_; rintro e w3 ⟨rfl, hb⟩; have HB3 := Aside0.mk (below_step (by repeat (first | exact HB.out | apply below_alloc)) hb); clear hb) | ((with_reducible refine gate_dst (N := 5) rfl ?_); refine box_event (N := 5) (cs := #[.int .u64 0, .int .u64 0, .int .u64 0, .int .i64 0]) (t := 73) ?hg ?hd ?hr ?_; (case hd => rfl); (case hg => rfl); (case hr => first | (go_simp; done) | (go_simp; rfl)); intro g5 hg w4 hbox hb; have BK := Aside0.mk hbox; have HB4 := Aside0.mk (below_step HB3.out hb); have GE := Aside0.mk (show w.heap.size ≤ g5 by have := below_size HB3.out; omega); clear hg hbox hb; have hz0 : w4.cell? ⟨g5, 0, none⟩ = some (.int .u64 0) := (blk_cell BK.out 0).trans rfl; have hz1 : w4.cell? ⟨g5, 1, none⟩ = some (.int .u64 0) := (blk_cell BK.out 1).trans rfl; have hz2 : w4.cell? ⟨g5, 2, none⟩ = some (.int .u64 0) := (blk_cell BK.out 2).trans rfl; have hz3 : w4.cell? ⟨g5, 3, none⟩ = some (.int .i64 0) := (blk_cell BK.out 3).trans rfl; have hf0 := blk_frozen BK.out 0; have hf1 := blk_frozen BK.out 1; have hf2 := blk_frozen BK.out 2; have hf3 := blk_frozen BK.out 3) | (go_at_call 61; refine (allowed18 _).mono ?_; rintro e w6 ⟨rfl, hb⟩; have BK6 := (hb.block g5 (blk_lt (blk_put (blk_put (blk_put (blk_put BK.out 0 (.int .u64 v) rfl) 1 (.int .u64 c) rfl) 2 (.int .u64 18) rfl) 3 (.int .i64 n) rfl))).trans (blk_put (blk_put (blk_put (blk_put BK.out 0 (.int .u64 v) rfl) 1 (.int .u64 c) rfl) 2 (.int .u64 18) rfl) 3 (.int .i64 n) rfl); have HB4b := Aside0.mk (below_set (j := 3) (v := .int .i64 n) (below_set (j := 2) (v := .int .u64 18) (below_set (j := 1) (v := .int .u64 c) (below_set (j := 0) (v := .int .u64 v) HB4.out GE.out) GE.out) GE.out) GE.out); have hy2 : w6.cell? ⟨g5, 2, none⟩ = some (.int .u64 18) := (blk_cell BK6 2).trans rfl; have hy3 : w6.cell? ⟨g5, 3, none⟩ = some (.int .i64 n) := (blk_cell BK6 3).trans rfl; have HB6 := Aside0.mk (below_step HB4b.out hb); have hg : w6.cell? ⟨2, 0, none⟩ = some (.iface 76 (.pointer (some a2))) := (SN.out.below (below_step HB4b.out hb)).s2; clear hb BK6 hz0 hz1 hz2 hz3 hf0 hf1 hf2 hf3))
  go_ret
  exact ⟨rfl, HB6.out⟩
theorem row76 : ∃ i, Tryd.prog.info? 76 = some i ∧ i.comparable = true := by
  have h : (Tryd.prog.info? 76).map (·.comparable) = some true := by kernel_rfl
  cases hh : Tryd.prog.info? 76 with
  | none => rw [hh] at h; exact absurd h (by simp)
  | some i => rw [hh] at h; exact ⟨i, rfl, by simpa using h⟩
theorem row78 : ∃ i, Tryd.prog.info? 78 = some i ∧ i.size ≠ 0 := by
  have h : (Tryd.prog.info? 78).map (·.size) = some 1 := by kernel_rfl
  cases hh : Tryd.prog.info? 78 with
  | none => rw [hh] at h; exact absurd h (by simp)
  | some i => rw [hh] at h; exact ⟨i, rfl, by have : i.size = 1 := by { simpa using h }; omega⟩
set_option maxHeartbeats 4000000 in
set_option maxRecDepth 100000 in
theorem CidSafe_ok (k : Nat) (A0 : Option Addr) (c0 : Nat) (l0 : List Int) (s : ByteArray) (v c n : Int) (a1 a2 : Addr) (w : World) (hr0 : Kd.C (Kd.int .u8) w A0 l0.length l0) (hc0 : l0.length ≤ c0) (hl : l0.length * 1 ≤ 140737488351232) (hs : Sen w a1 a2) (hc : gocid_Cast.f k l0 = some (s, none)) (hp : gocid_Cid_Prefix.f k s = some (v, c, 18, n)) (hn : 20 ≤ n ∧ n ≤ 128) :
    Calls Tryd.prog 10 #[.slice A0 l0.length c0] w fun e w' => e = .returned (.int .i64 0) ∧ Below w.heap.size w w' := by
  have HR := Aside0.mk hr0
  have HC0 := Aside0.mk hc0
  have HL := Aside0.mk hl
  have SN := Aside0.mk hs
  have HC := Aside0.mk hc
  have HP := Aside0.mk hp
  have HB := Aside0.mk (Below.refl w.heap.size w)
  obtain ⟨i76, hi76, hcomp⟩ := row76
  obtain ⟨j78, hj78, hsz78⟩ := row78
  have I76 := Aside0.mk hi76
  have K76 := Aside0.mk hcomp
  have J78 := Aside0.mk hj78
  have Z78 := Aside0.mk hsz78
  clear hr0 hc0 hl hs hc hp hi76 hcomp hj78 hsz78
  go_enter Tryd.func10, Tryd.ntmps10
  go_wp2_with (first | (go_at_call 16; refine (bytes_Clone.calls A0 c0 l0 l0 w HR.out HC0.out (by unfold bytes_Clone.f; rw [if_pos HL.out])).mono ?_; rintro e w1 ⟨v1, rfl, hR, hb⟩; obtain ⟨A1, c1, rfl⟩ := Kd.R_slice hR; have HR1 := Aside0.mk (Kd.R_reads' hR); have HB1 := Aside0.mk hb; clear hR hb) | (go_at_call 19; refine (gocid_Cast.calls k A1 c1 l0 s none w1 HR1.out.2.2 HR1.out.2.1 HC.out).mono ?_; rintro e w2 ⟨eT, eX, rfl, hb⟩; simp only [errV_none]; have HB2 := Aside0.mk (below_step HB1.out hb); clear hb) | ((with_reducible refine gate_dst (N := 3) rfl ?_); refine box_event (N := 3) (cs := #[.string (⟨#[]⟩ : ByteArray)]) (t := 47) ?hg ?hd ?hr ?_; (case hd => rfl); (case hg => rfl); (case hr => first | (go_simp; done) | (go_simp; rfl)); intro g3 hg w3 hbox hb; have BK := Aside0.mk hbox; have HB3 := Aside0.mk (below_step HB2.out hb); have GE := Aside0.mk (show w.heap.size ≤ g3 by have := below_size HB2.out; omega); clear hg hbox hb; have hz0 : w3.cell? ⟨g3, 0, none⟩ = some (.string (⟨#[]⟩ : ByteArray)) := (blk_cell BK.out 0).trans rfl; have hf0 := blk_frozen BK.out 0; have HB4 := Aside0.mk (below_set (j := 0) (v := .string s) HB3.out GE.out)) | (go_at_call 20; refine (Validate_ok k s v c n a1 a2 _ (SN.out.below HB4.out) HP.out hn).mono ?_; rintro e w6 ⟨rfl, hb⟩; have HB6 := Aside0.mk (below_step HB4.out hb); clear hb hz0 hf0))
  go_ret
  exact ⟨rfl, HB6.out⟩
set_option maxHeartbeats 4000000 in
set_option maxRecDepth 100000 in
theorem CidSafe_bad (k : Nat) (A0 : Option Addr) (c0 : Nat) (l0 : List Int) (s : ByteArray) (v c n : Int) (a1 a2 : Addr) (w : World) (hr0 : Kd.C (Kd.int .u8) w A0 l0.length l0) (hc0 : l0.length ≤ c0) (hl : l0.length * 1 ≤ 140737488351232) (hs : Sen w a1 a2) (hc : gocid_Cast.f k l0 = some (s, none)) (hp : gocid_Cid_Prefix.f k s = some (v, c, 24, n)) :
    Calls Tryd.prog 10 #[.slice A0 l0.length c0] w fun e w' => e = .returned (.int .i64 1) ∧ Below w.heap.size w w' := by
  have HR := Aside0.mk hr0
  have HC0 := Aside0.mk hc0
  have HL := Aside0.mk hl
  have SN := Aside0.mk hs
  have HC := Aside0.mk hc
  have HP := Aside0.mk hp
  have HB := Aside0.mk (Below.refl w.heap.size w)
  obtain ⟨i76, hi76, hcomp⟩ := row76
  obtain ⟨j78, hj78, hsz78⟩ := row78
  have I76 := Aside0.mk hi76
  have K76 := Aside0.mk hcomp
  have J78 := Aside0.mk hj78
  have Z78 := Aside0.mk hsz78
  clear hr0 hc0 hl hs hc hp hi76 hcomp hj78 hsz78
  go_enter Tryd.func10, Tryd.ntmps10
  go_wp2_with (first | (go_at_call 16; refine (bytes_Clone.calls A0 c0 l0 l0 w HR.out HC0.out (by unfold bytes_Clone.f; rw [if_pos HL.out])).mono ?_; rintro e w1 ⟨v1, rfl, hR, hb⟩; obtain ⟨A1, c1, rfl⟩ := Kd.R_slice hR; have HR1 := Aside0.mk (Kd.R_reads' hR); have HB1 := Aside0.mk hb; clear hR hb) | (go_at_call 19; refine (gocid_Cast.calls k A1 c1 l0 s none w1 HR1.out.2.2 HR1.out.2.1 HC.out).mono ?_; rintro e w2 ⟨eT, eX, rfl, hb⟩; simp only [errV_none]; have HB2 := Aside0.mk (below_step HB1.out hb); clear hb) | ((with_reducible refine gate_dst (N := 3) rfl ?_); refine box_event (N := 3) (cs := #[.string (⟨#[]⟩ : ByteArray)]) (t := 47) ?hg ?hd ?hr ?_; (case hd => rfl); (case hg => rfl); (case hr => first | (go_simp; done) | (go_simp; rfl)); intro g3 hg w3 hbox hb; have BK := Aside0.mk hbox; have HB3 := Aside0.mk (below_step HB2.out hb); have GE := Aside0.mk (show w.heap.size ≤ g3 by have := below_size HB2.out; omega); clear hg hbox hb; have hz0 : w3.cell? ⟨g3, 0, none⟩ = some (.string (⟨#[]⟩ : ByteArray)) := (blk_cell BK.out 0).trans rfl; have hf0 := blk_frozen BK.out 0; have HB4 := Aside0.mk (below_set (j := 0) (v := .string s) HB3.out GE.out)) | (go_at_call 20; refine (Validate_bad k s v c n a1 a2 _ (SN.out.below HB4.out) HP.out).mono ?_; rintro e w6 ⟨rfl, hb⟩; have HB6 := Aside0.mk (below_step HB4.out hb); clear hb hz0 hf0; have hg1 : w6.cell? ⟨1, 0, none⟩ = some (.iface 76 (.pointer (some a1))) := (SN.out.below HB6.out).s1; have he1 := run_eql_iface_ptr_same (P := Tryd.prog) w6 a1 Tryd.underlying38 Tryd.underlying76 I76.out K76.out J78.out))
  go_ret
  exact ⟨rfl, HB6.out⟩
set_option maxHeartbeats 4000000 in
set_option maxRecDepth 100000 in
theorem CidSafe_short (k : Nat) (A0 : Option Addr) (c0 : Nat) (l0 : List Int) (s : ByteArray) (v c n : Int) (a1 a2 : Addr) (w : World) (hr0 : Kd.C (Kd.int .u8) w A0 l0.length l0) (hc0 : l0.length ≤ c0) (hl : l0.length * 1 ≤ 140737488351232) (hs : Sen w a1 a2) (hc : gocid_Cast.f k l0 = some (s, none)) (hp : gocid_Cid_Prefix.f k s = some (v, c, 18, n)) (hn : n < 20) :
    Calls Tryd.prog 10 #[.slice A0 l0.length c0] w fun e w' => e = .returned (.int .i64 2) ∧ Below w.heap.size w w' := by
  have HR := Aside0.mk hr0
  have HC0 := Aside0.mk hc0
  have HL := Aside0.mk hl
  have SN := Aside0.mk hs
  have HC := Aside0.mk hc
  have HP := Aside0.mk hp
  have HB := Aside0.mk (Below.refl w.heap.size w)
  obtain ⟨i76, hi76, hcomp⟩ := row76
  obtain ⟨j78, hj78, hsz78⟩ := row78
  have I76 := Aside0.mk hi76
  have K76 := Aside0.mk hcomp
  have J78 := Aside0.mk hj78
  have Z78 := Aside0.mk hsz78
  clear hr0 hc0 hl hs hc hp hi76 hcomp hj78 hsz78
  go_enter Tryd.func10, Tryd.ntmps10
  go_wp2_with (first | (go_at_call 16; refine (bytes_Clone.calls A0 c0 l0 l0 w HR.out HC0.out (by unfold bytes_Clone.f; rw [if_pos HL.out])).mono ?_; rintro e w1 ⟨v1, rfl, hR, hb⟩; obtain ⟨A1, c1, rfl⟩ := Kd.R_slice hR; have HR1 := Aside0.mk (Kd.R_reads' hR); have HB1 := Aside0.mk hb; clear hR hb) | (go_at_call 19; refine (gocid_Cast.calls k A1 c1 l0 s none w1 HR1.out.2.2 HR1.out.2.1 HC.out).mono ?_; rintro e w2 ⟨eT, eX, rfl, hb⟩; simp only [errV_none]; have HB2 := Aside0.mk (below_step HB1.out hb); clear hb) | ((with_reducible refine gate_dst (N := 3) rfl ?_); refine box_event (N := 3) (cs := #[.string (⟨#[]⟩ : ByteArray)]) (t := 47) ?hg ?hd ?hr ?_; (case hd => rfl); (case hg => rfl); (case hr => first | (go_simp; done) | (go_simp; rfl)); intro g3 hg w3 hbox hb; have BK := Aside0.mk hbox; have HB3 := Aside0.mk (below_step HB2.out hb); have GE := Aside0.mk (show w.heap.size ≤ g3 by have := below_size HB2.out; omega); clear hg hbox hb; have hz0 : w3.cell? ⟨g3, 0, none⟩ = some (.string (⟨#[]⟩ : ByteArray)) := (blk_cell BK.out 0).trans rfl; have hf0 := blk_frozen BK.out 0; have HB4 := Aside0.mk (below_set (j := 0) (v := .string s) HB3.out GE.out)) | (go_at_call 20; refine (Validate_short k s v c n a1 a2 _ (SN.out.below HB4.out) HP.out hn).mono ?_; rintro e w6 ⟨rfl, hb⟩; have HB6 := Aside0.mk (below_step HB4.out hb); clear hb hz0 hf0; have hg1 : w6.cell? ⟨1, 0, none⟩ = some (.iface 76 (.pointer (some a1))) := (SN.out.below HB6.out).s1; have hg2 : w6.cell? ⟨2, 0, none⟩ = some (.iface 76 (.pointer (some a2))) := (SN.out.below HB6.out).s2; obtain ⟨c1_, t1_, e1_⟩ := (SN.out.below HB6.out).h1; obtain ⟨c2_, t2_, e2_⟩ := (SN.out.below HB6.out).h2; have he1 := run_eql_iface_ptr_other (P := Tryd.prog) w6 Tryd.underlying38 Tryd.underlying76 I76.out K76.out J78.out Z78.out SN.out.ne e2_ e1_; have he2 := run_eql_iface_ptr_same (P := Tryd.prog) w6 a2 Tryd.underlying38 Tryd.underlying76 I76.out K76.out J78.out; clear e1_ e2_))
  go_ret
  exact ⟨rfl, HB6.out⟩
theorem reads_block {W : World} {g t : Nat} {hs : List Int} (h : W.heap[g]? = some (.cells (nums .u8 hs).toArray t (0, 0))) (hm : hs.length ≤ 9223372036854775807) : Kd.C (Kd.int .u8) W (some ⟨g, 0, none⟩) hs.length hs := by
  refine Kd.C_of_reads (enc := Value.int .u8) (d := (0 : Int)) (h1 := fun _ => rfl) ⟨rfl, hm, fun _ => ⟨_, rfl, fun j hj => ?_⟩⟩
  have e : (⟨g, 0, none⟩ : Addr).add j = ⟨g, j, none⟩ := by
    unfold Addr.add
    split
    · next h => rw [h]
    · simp
  rw [e, cell_of_row _ _ _ _ _ _ h]
  simp [nums, List.getElem?_eq_getElem hj, List.getD_eq_getElem?_getD]
set_option maxHeartbeats 4000000 in
set_option maxRecDepth 100000 in
theorem key_calls (hs : List Int) (h32 : hs.length = 32) (w : World) : Calls Tryd.prog 11 #[.agg (nums .u8 hs).toArray] w fun e w' => ∃ v, e = .returned v ∧ Kd.R (Kd.int .u8) 5 w' w.heap.size (fun _ => True) v (18 :: 32 :: hs) ∧ Below w.heap.size w w' := by
  have H32 := Aside0.mk h32
  have HB := Aside0.mk (Below.refl w.heap.size w)
  clear h32
  go_enter Tryd.func11, Tryd.ntmps11
  go_wp2_with (first | ((with_reducible refine gate_dst (N := 1) rfl ?_); refine box_event (N := 1) (cs := (nums .u8 hs).toArray) (t := 32) ?hg ?hd ?hr ?_; (case hd => rfl); (case hg => rfl); (case hr => first | (go_simp; done) | (go_simp; rfl)); intro g1 hg w1 hbox hb; have BK := Aside0.mk hbox; have HB1 := Aside0.mk hb; clear hg hbox hb) | ((with_reducible refine gate_dst (N := 3) rfl ?_); refine Kd.R_lit (Kd.int .u8) (w0 := w) w.heap.size 5 ?hg (N := 3) ?hd (xs := ([18, 32] : List Int)) (inner := [.int .u8 18, .int .u8 32]) (ok := fun _ => True) (okp := fun _ => True) ?hr ?hp (fun _ hk => hk) trivial HB1.out (below_size HB1.out) (by simp) ?_; (case hd => rfl); (case hg => rfl); (case hr => first | (go_simp; done) | (go_simp; rfl)); (case hp => exact (Reps.one (show Kd.M (Kd.int .u8) _ _ _ 18 [.int .u8 18] from rfl) (Reps.one (show Kd.M (Kd.int .u8) _ _ _ 32 [.int .u8 32] from rfl) (Reps.none _ _)))); intro v3 w3 ho hb hg_ hnew_; have HO := Aside0.mk ho; have BK3 := Aside0.mk ((hg_.block g1 (blk_lt BK.out) (by simp)).trans BK.out); have HB3 := Aside0.mk hb; clear ho hb hg_ hnew_) | ((with_reducible refine gate_builtin (b := .append) (xs := #[.tmp 3, .tmp 4]) rfl ?_); refine Kd.R_append_rows (Kd.int .u8) (Rr := fun x cs => cs = [Value.int .u8 x]) (w0 := w) w.heap.size rfl (.tmp 3) (.tmp 4) 24 5 (.int .u8 0) 1 rfl Tryd.underlying24 info5 rfl (by decide) (by decide) v3 [18, 32] hs (some ⟨g1, 0, none⟩) 32 32 (fun _ => True) (fun _ => False) rfl rfl HO.out ?aR (fun x cs hx => hx) (fun _ hk => hk.elim) (fun _ _ => trivial) HB3.out (below_size HB3.out) (by decide) ?_; (case aR => have := reads_block BK3.out (by rw [H32.out]; decide); rw [H32.out] at this; exact this); intro v5 w5 hR hb hg hat; have HR5 := Aside0.mk hR; have HB5 := Aside0.mk hb; clear hR hb hg hat))
  go_ret
  exact ⟨_, rfl, HR5.out, HB5.out⟩
def hash0 : List Int := List.replicate 32 0
set_option maxHeartbeats 4000000 in
set_option maxRecDepth 100000 in
theorem identifier_calls (w : World) : Calls Tryd.prog 21 #[.int .u8 1] w fun e w' => ∃ v, e = .returned v ∧ Kd.R (Kd.int .u8) 5 w' w.heap.size (fun _ => True) v (1 :: 112 :: 18 :: 32 :: hash0) ∧ Below w.heap.size w w' := by
  have HB := Aside0.mk (Below.refl w.heap.size w)
  have HI : Aside0 ((Tryd.prog.info? 32).map (·.size) = some (nums .u8 hash0).toArray.size) := ⟨by kernel_rfl⟩
  go_enter Tryd.func21, Tryd.ntmps21
  go_wp2_with (first | ((with_reducible refine gate_dst (N := 3) rfl ?_); refine box_event (N := 3) (cs := (nums .u8 hash0).toArray) (t := 32) ?hg ?hd ?hr ?_; (case hd => rfl); (case hg => rfl); (case hr => first | (go_simp; done) | (go_simp; rfl) | kernel_rfl); intro g3 hg w3 hbox hb; have BK := Aside0.mk hbox; have HB3 := Aside0.mk hb; have GE := Aside0.mk (show w.heap.size ≤ g3 by omega); clear hg hbox hb; have hx : w3.cell? ⟨g3, 31, none⟩ = some (.int .u8 0) := (blk_cell BK.out 31).trans rfl; have hf := blk_frozen BK.out 31) | ((with_reducible refine gate_store (t := 5) (p := 7) rfl ?_); refine store_event (t := 5) (p := 7) (v := ?vo_1) (w1 := (w3.setCell ⟨g3, 31, none⟩ (.int .u8 0))) ?hg ?ho ?hn ?hr ?_; (case ho => rfl); (case hg => rfl); (case hn => rfl); (case hr => first | (go_simp; done) | (go_simp; rfl)); intro w4 hw; have BK4 := Aside0.mk (show w4.heap[g3]? = some (.cells (nums .u8 hash0).toArray 32 (0, 0)) by rw [hw]; exact blk_put BK.out 31 _ (by rfl)); have HB4 := Aside0.mk (show Below w.heap.size w w4 by rw [hw]; exact below_set HB3.out GE.out); clear hw hx hf) | ((with_reducible refine gate_dst (N := 8) rfl ?_); refine wpList_load_row rfl 32 (.tmp 3) rfl g3 rfl 32 (nums .u8 hash0).toArray (0, 0) _ BK4.out Tryd.underlying32 rfl HI.out ?_) | (go_at_call 11; refine (key_calls hash0 rfl _).mono ?_; rintro e w5 ⟨v5, rfl, hR, hb⟩; obtain ⟨A5, c5, rfl⟩ := Kd.R_slice hR; have HR5 := Aside0.mk (Kd.R_lower hR (below_size HB4.out)); have HB5 := Aside0.mk (below_step HB4.out hb); clear hR hb) | ((with_reducible refine gate_dst (N := 19) rfl ?_); refine Kd.R_lit (Kd.int .u8) (w0 := w) w.heap.size 5 ?hg (N := 19) ?hd (xs := ([1, 112] : List Int)) (inner := [.int .u8 1, .int .u8 112]) (ok := fun _ => True) (okp := fun _ => True) ?hr ?hp (fun _ hk => hk) trivial (below_alloc HB5.out _) (below_size (below_alloc HB5.out _)) (by simp) ?_; (case hd => rfl); (case hg => rfl); (case hr => first | (go_simp; done) | (go_simp; rfl)); (case hp => exact (Reps.one (show Kd.M (Kd.int .u8) _ _ _ 1 [.int .u8 1] from rfl) (Reps.one (show Kd.M (Kd.int .u8) _ _ _ 112 [.int .u8 112] from rfl) (Reps.none _ _)))); intro v7 w7 ho hb hg_ hnew_; have HO := Aside0.mk ho; have HR7 := Aside0.mk (Kd.R_grown (Kd.R_alloc HR5.out _) hg_ (fun k _ => by simp)); have HB7 := Aside0.mk hb; clear ho hb hg_ hnew_) | ((with_reducible refine gate_builtin (b := .append) (xs := #[.tmp 19, .tmp 20]) rfl ?_); refine Kd.R_append_rows (Kd.int .u8) (Rr := fun x cs => cs = [Value.int .u8 x]) (w0 := w) w.heap.size rfl (.tmp 19) (.tmp 20) 24 5 (.int .u8 0) 1 rfl Tryd.underlying24 info5 rfl (by decide) (by decide) v7 [1, 112] (18 :: 32 :: hash0) A5 _ c5 (fun _ => True) (fun _ => False) rfl rfl HO.out (Kd.R_reads' HR7.out).2.2 (fun x cs hx => hx) (fun _ hk => hk.elim) (fun _ _ => trivial) HB7.out (below_size HB7.out) (by decide) ?_; intro v8 w8 hR hb hg hat; have HR8 := Aside0.mk hR; have HB8 := Aside0.mk hb; clear hR hb hg hat))
  go_ret
  exact ⟨_, rfl, HR8.out, HB8.out⟩
def b1 : List Int := 1 :: 112 :: 18 :: 32 :: hash0
def b2 : List Int := [1, 85, 24, 0]
def b3 : List Int := [1, 85, 18, 1, 7]
theorem cast1 : gocid_Cast.f 100 b1 = some (strOfNums b1, none) := by decide +kernel
theorem cast2 : gocid_Cast.f 100 b2 = some (strOfNums b2, none) := by decide +kernel
theorem cast3 : gocid_Cast.f 100 b3 = some (strOfNums b3, none) := by decide +kernel
theorem pre1 : gocid_Cid_Prefix.f 100 (strOfNums b1) = some (1, 112, 18, 32) := by decide +kernel
theorem pre2 : gocid_Cid_Prefix.f 100 (strOfNums b2) = some (1, 85, 24, 0) := by decide +kernel
theorem pre3 : gocid_Cid_Prefix.f 100 (strOfNums b3) = some (1, 85, 18, 1) := by decide +kernel
set_option maxHeartbeats 4000000 in
set_option maxRecDepth 100000 in
theorem safeLive_calls (a1 a2 : Addr) (w : World) (hs : Sen w a1 a2) : Calls Tryd.prog 12 #[] w fun e w' => e = .returned (.bool true) ∧ Below w.heap.size w w' := by
  have SN := Aside0.mk hs
  have HB := Aside0.mk (Below.refl w.heap.size w)
  clear hs
  go_enter Tryd.func12, Tryd.ntmps12
  go_wp2_with (first | (go_at_call 21; refine (identifier_calls w).mono ?_; rintro e w1 ⟨v1, rfl, hR, hb⟩; obtain ⟨A1, c1, rfl⟩ := Kd.R_slice hR; have HR1 := Aside0.mk (Kd.R_reads' hR); have HB1 := Aside0.mk hb; clear hR hb) | (go_at_call 10; refine (CidSafe_ok 100 A1 c1 b1 (strOfNums b1) 1 112 32 a1 a2 w1 HR1.out.2.2 HR1.out.2.1 (by decide) (SN.out.below HB1.out) cast1 pre1 (by decide)).mono ?_; rintro e w2 ⟨rfl, hb⟩; have HB2 := Aside0.mk (below_step HB1.out hb); clear hb HR1 HB1) | ((with_reducible refine gate_dst (N := 5) rfl ?_); (try (refine gate_guard (by rfl) ?_; dsimp only)); refine Kd.R_lit (Kd.int .u8) (w0 := w) w.heap.size 5 ?hg (N := 5) ?hd (xs := b2) (inner := [.int .u8 1, .int .u8 85, .int .u8 24, .int .u8 0]) (ok := fun _ => True) (okp := fun _ => True) ?hr ?hp (fun _ hk => hk) trivial HB2.out (below_size HB2.out) (by decide) ?_; (case hd => rfl); (case hg => rfl); (case hr => first | (go_simp; done) | (go_simp; rfl)); (case hp => exact (Reps.one (show Kd.M (Kd.int .u8) _ _ _ 1 [.int .u8 1] from rfl) (Reps.one (show Kd.M (Kd.int .u8) _ _ _ 85 [.int .u8 85] from rfl) (Reps.one (show Kd.M (Kd.int .u8) _ _ _ 24 [.int .u8 24] from rfl) (Reps.one (show Kd.M (Kd.int .u8) _ _ _ 0 [.int .u8 0] from rfl) (Reps.none _ _)))))); intro v3 w3 ho hb hg_ hnew_; obtain ⟨A3, c3, rfl⟩ := Kd.R_slice ho; have HR3 := Aside0.mk (Kd.R_reads' ho); have HB3 := Aside0.mk hb; clear ho hb hg_ hnew_) | (go_at_call 10; refine (CidSafe_bad 100 A3 c3 b2 (strOfNums b2) 1 85 0 a1 a2 w3 HR3.out.2.2 HR3.out.2.1 (by decide) (SN.out.below HB3.out) cast2 pre2).mono ?_; rintro e w4 ⟨rfl, hb⟩; have HB4 := Aside0.mk (below_step HB3.out hb); clear hb HR3 HB3) | ((with_reducible refine gate_dst (N := 10) rfl ?_); (try (refine gate_guard (by rfl) ?_; dsimp only)); refine Kd.R_lit (Kd.int .u8) (w0 := w) w.heap.size 5 ?hg (N := 10) ?hd (xs := b3) (inner := [.int .u8 1, .int .u8 85, .int .u8 18, .int .u8 1, .int .u8 7]) (ok := fun _ => True) (okp := fun _ => True) ?hr ?hp (fun _ hk => hk) trivial HB4.out (below_size HB4.out) (by decide) ?_; (case hd => rfl); (case hg => rfl); (case hr => first | (go_simp; done) | (go_simp; rfl)); (case hp => exact (Reps.one (show Kd.M (Kd.int .u8) _ _ _ 1 [.int .u8 1] from rfl) (Reps.one (show Kd.M (Kd.int .u8) _ _ _ 85 [.int .u8 85] from rfl) (Reps.one (show Kd.M (Kd.int .u8) _ _ _ 18 [.int .u8 18] from rfl) (Reps.one (show Kd.M (Kd.int .u8) _ _ _ 1 [.int .u8 1] from rfl) (Reps.one (show Kd.M (Kd.int .u8) _ _ _ 7 [.int .u8 7] from rfl) (Reps.none _ _))))))); intro v5 w5 ho hb hg_ hnew_; obtain ⟨A5, c5, rfl⟩ := Kd.R_slice ho; have HR5 := Aside0.mk (Kd.R_reads' ho); have HB5 := Aside0.mk hb; clear ho hb hg_ hnew_) | (go_at_call 10; refine (CidSafe_short 100 A5 c5 b3 (strOfNums b3) 1 85 1 a1 a2 w5 HR5.out.2.2 HR5.out.2.1 (by decide) (SN.out.below HB5.out) cast3 pre3 (by decide)).mono ?_; rintro e w6 ⟨rfl, hb⟩; have HB6 := Aside0.mk (below_step HB5.out hb); clear hb HR5 HB5))
  go_ret
  exact ⟨rfl, HB6.out⟩
theorem castL (x0 x1 x2 x3 x4 x5 x6 x7 x8 x9 x10 x11 x12 x13 x14 x15 x16 x17 x18 x19 x20 x21 x22 x23 x24 x25 x26 x27 x28 x29 x30 x31 : Int) : gocid_Cast.f 100 (18 :: 32 :: [x0, x1, x2, x3, x4, x5, x6, x7, x8, x9, x10, x11, x12, x13, x14, x15, x16, x17, x18, x19, x20, x21, x22, x23, x24, x25, x26, x27, x28, x29, x30, x31]) = some (strOfNums (18 :: 32 :: [x0, x1, x2, x3, x4, x5, x6, x7, x8, x9, x10, x11, x12, x13, x14, x15, x16, x17, x18, x19, x20, x21, x22, x23, x24, x25, x26, x27, x28, x29, x30, x31]), none) := by kernel_rfl
theorem preL (x0 x1 x2 x3 x4 x5 x6 x7 x8 x9 x10 x11 x12 x13 x14 x15 x16 x17 x18 x19 x20 x21 x22 x23 x24 x25 x26 x27 x28 x29 x30 x31 : Int) : gocid_Cid_Prefix.f 100 (strOfNums (18 :: 32 :: [x0, x1, x2, x3, x4, x5, x6, x7, x8, x9, x10, x11, x12, x13, x14, x15, x16, x17, x18, x19, x20, x21, x22, x23, x24, x25, x26, x27, x28, x29, x30, x31])) = some (0, 112, 18, 32) := by kernel_rfl
theorem castK (hs : List Int) (h32 : hs.length = 32) : gocid_Cast.f 100 (18 :: 32 :: hs) = some (strOfNums (18 :: 32 :: hs), none) := by
  match hs, h32 with
  | [x0, x1, x2, x3, x4, x5, x6, x7, x8, x9, x10, x11, x12, x13, x14, x15, x16, x17, x18, x19, x20, x21, x22, x23, x24, x25, x26, x27, x28, x29, x30, x31], _ => exact castL x0 x1 x2 x3 x4 x5 x6 x7 x8 x9 x10 x11 x12 x13 x14 x15 x16 x17 x18 x19 x20 x21 x22 x23 x24 x25 x26 x27 x28 x29 x30 x31
theorem preK (hs : List Int) (h32 : hs.length = 32) : gocid_Cid_Prefix.f 100 (strOfNums (18 :: 32 :: hs)) = some (0, 112, 18, 32) := by
  match hs, h32 with
  | [x0, x1, x2, x3, x4, x5, x6, x7, x8, x9, x10, x11, x12, x13, x14, x15, x16, x17, x18, x19, x20, x21, x22, x23, x24, x25, x26, x27, x28, x29, x30, x31], _ => exact preL x0 x1 x2 x3 x4 x5 x6 x7 x8 x9 x10 x11 x12 x13 x14 x15 x16 x17 x18 x19 x20 x21 x22 x23 x24 x25 x26 x27 x28 x29 x30 x31
set_option maxHeartbeats 4000000 in
set_option maxRecDepth 100000 in
theorem law_calls (hs : List Int) (h32 : hs.length = 32) (a1 a2 : Addr) (w : World) (hsn : Sen w a1 a2) : Calls Tryd.prog 4 #[.agg (nums .u8 hs).toArray] w fun e w' => e = .returned (.bool true) ∧ Below w.heap.size w w' := by
  have SN := Aside0.mk hsn
  have H32 := Aside0.mk h32
  have HB := Aside0.mk (Below.refl w.heap.size w)
  have HI : Aside0 ((Tryd.prog.info? 32).map (·.size) = some (nums .u8 hs).toArray.size) := ⟨by rw [show (nums .u8 hs).toArray.size = 32 by simp [nums, h32]]; kernel_rfl⟩
  clear hsn h32
  go_enter Tryd.func4, Tryd.ntmps4
  go_wp2_with (first | ((with_reducible refine gate_dst (N := 1) rfl ?_); refine box_event (N := 1) (cs := (nums .u8 hs).toArray) (t := 32) ?hg ?hd ?hr ?_; (case hd => rfl); (case hg => rfl); (case hr => first | (go_simp; done) | (go_simp; rfl)); intro g1 hg w1 hbox hb; have BK := Aside0.mk hbox; have HB1 := Aside0.mk hb; clear hg hbox hb) | ((with_reducible refine gate_dst (N := 3) rfl ?_); refine wpList_load_row rfl 32 (.tmp 1) rfl g1 rfl 32 (nums .u8 hs).toArray (0, 0) _ BK.out Tryd.underlying32 rfl HI.out ?_) | (go_at_call 11; refine (key_calls hs H32.out w1).mono ?_; rintro e w2 ⟨v2, rfl, hR, hb⟩; obtain ⟨A2, c2, rfl⟩ := Kd.R_slice hR; have HR2 := Aside0.mk (Kd.R_reads' hR); have HB2 := Aside0.mk (below_step HB1.out hb); clear hR hb) | (go_at_call 10; refine (CidSafe_ok 100 A2 c2 (18 :: 32 :: hs) (strOfNums (18 :: 32 :: hs)) 0 112 32 a1 a2 w2 HR2.out.2.2 HR2.out.2.1 (by simp only [List.length_cons]; rw [H32.out]; decide) (SN.out.below HB2.out) (castK hs H32.out) (preK hs H32.out) (by decide)).mono ?_; rintro e w3 ⟨rfl, hb⟩; have HB3 := Aside0.mk (below_step HB2.out hb); clear hb HR2 HB2) | (go_at_call 12; refine (safeLive_calls a1 a2 w3 (SN.out.below HB3.out)).mono ?_; rintro e w4 ⟨rfl, hb⟩; have HB4 := Aside0.mk (below_step HB3.out hb); clear hb))
  go_ret
  exact ⟨rfl, HB4.out⟩
end Go.Proofs.YtbmeegkgcipmoaaDoor.HandFnCidSafeFirst
