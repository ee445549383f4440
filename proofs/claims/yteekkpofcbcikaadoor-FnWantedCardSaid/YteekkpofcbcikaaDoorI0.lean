/- Walks of the keys and identifiers that the laws of want lists make, at any number. -/
import Derived.WalkSpells
import Derived.WalkLawsBesides
import Derived.Below
import Derived.Deep.Draws
import Derived.Deep.AppendLies
import Derived.Maps.AppendAt
import Derived.OwnWalk
import Derived.Laws.BytesArg
import Derived.Laws.MakeOwn
import Derived.Laws.OwnMore
import Derived.Deep.OwnRows
import Derived.Tactics
import Derived.Lib.ConvBytes
import Derived.Laws.Slices
import Derived.WalkKit
import Derived.KernelRfl
import Derived.RowKit3
import Derived.Deep.LoopGhost
import Derived.Deep.QuietTactic
import Derived.BigQuiet
import Derived.WideLaws
import Derived.Deep.DeepCutAuto
import Derived.Deep.CutBlock
import Derived.Deep.RegionHeld3
import Derived.Laws.Rows
import Derived.Lib.AppendStr
import Derived.ArgAppend
import Derived.Laws.IdiomCopy
import Derived.OrdersHeld
import Derived.Laws.BitsLemmas
import Derived.RowKit
import Derived.StillTailTactics
import Derived.Test.YteekkpofcbcikaaDoorWWords
import Derived.Test.YteekkpofcbcikaaDoorWLast
import Derived.Test.YteekkpofcbcikaaDoorWTab
import Derived.Test.YteekkpofcbcikaaDoorWQPut
import Derived.Test.YteekkpofcbcikaaDoorWApart
import Derived.Test.YteekkpofcbcikaaDoorWArr
import Derived.Test.YteekkpofcbcikaaDoorWZeros
import Derived.Test.YteekkpofcbcikaaDoorWFoot
import Derived.Test.YteekkpofcbcikaaDoorWKept
import Derived.Test.YteekkpofcbcikaaDoorWShare
import Derived.Test.YteekkpofcbcikaaDoorWN
import Derived.Test.YteekkpofcbcikaaDoorWFootNe
import Derived.Test.YteekkpofcbcikaaDoorWRepsOne
import Derived.Test.YteekkpofcbcikaaDoorWNEv
import Derived.Test.YteekkpofcbcikaaDoorWMore
import Derived.Test.YteekkpofcbcikaaDoorLOwn
import Derived.Test.YteekkpofcbcikaaDoorChecked
namespace Go.Proofs.YteekkpofcbcikaaDoor.HandWan
open Go Go.RowKit Go.Proofs.YteekkpofcbcikaaDoorL Go.Proofs.YteekkpofcbcikaaDoorW.PrintWords Go.Proofs.YteekkpofcbcikaaDoorW.PrintLast Go.Proofs.YteekkpofcbcikaaDoorW.PrintMore
attribute [local go_sem] max2_int min2_int max_two min_two max_three min_three max_four min_four
set_option linter.unusedVariables false
set_option linter.unusedSimpArgs false
theorem reads_block {W : World} {g t : Nat} {hs : List Int} (h : W.heap[g]? = some (.cells (nums .u8 hs).toArray t (0, 0))) (hm : hs.length ≤ 9223372036854775807) : Kd.C (Kd.int .u8) W (some ⟨g, 0, none⟩) hs.length hs := by
  refine Kd.C_of_reads (enc := Value.int .u8) (d := (0 : Int)) (h1 := fun _ => rfl) ⟨rfl, hm, fun _ => ⟨_, rfl, fun j hj => ?_⟩⟩
  have e : (⟨g, 0, none⟩ : Addr).add j = ⟨g, j, none⟩ := by
    unfold Addr.add
    split
    · next h => rw [h]
    · simp
  rw [e, cell_of_row _ _ _ _ _ _ h]
  simp [nums, List.getElem?_eq_getElem hj, List.getD_eq_getElem?_getD]
theorem info5d : (Tryd.prog.info? 5).map (fun i => (i.zero, i.size, i.bytes)) = some (some (.int .u8 0), 1, 1) := by kernel_rfl
set_option maxHeartbeats 4000000 in
set_option maxRecDepth 100000 in
theorem key_calls (hs : List Int) (h32 : hs.length = 32) (w : World) : Calls Tryd.prog 30 #[.agg (nums .u8 hs).toArray] w fun e w' => ∃ v, e = .returned v ∧ Kd.R (Kd.int .u8) 5 w' w.heap.size (fun _ => True) v (18 :: 32 :: hs) ∧ Below w.heap.size w w' := by
  have H32 := Aside0.mk h32
  have HB := Aside0.mk (Below.refl w.heap.size w)
  clear h32
  go_enter Tryd.func30, Tryd.ntmps30
  go_wp2_with (first
    | ((with_reducible refine gate_dst (N := 1) rfl ?_); refine box_event (N := 1) (cs := (nums .u8 hs).toArray) (t := 70) ?hg ?hd ?hr ?_; (case hd => rfl); (case hg => rfl); (case hr => first | (go_simp; done) | (go_simp; rfl)); intro g1 hg w1 hbox hb; have BK := Aside0.mk hbox; have HB1 := Aside0.mk hb; clear hg hbox hb)
    | ((with_reducible refine gate_dst (N := 3) rfl ?_); refine Kd.R_lit (Kd.int .u8) (w0 := w) w.heap.size 5 ?hg (N := 3) ?hd (xs := ([18, 32] : List Int)) (inner := [.int .u8 18, .int .u8 32]) (ok := fun _ => True) (okp := fun _ => True) ?hr ?hp (fun _ hk => hk) trivial HB1.out (below_size HB1.out) (by simp) ?_; (case hd => rfl); (case hg => rfl); (case hr => first | (go_simp; done) | (go_simp; rfl)); (case hp => exact (Reps.one (show Kd.M (Kd.int .u8) _ _ _ 18 [.int .u8 18] from rfl) (Reps.one (show Kd.M (Kd.int .u8) _ _ _ 32 [.int .u8 32] from rfl) (Reps.none _ _)))); intro v3 w3 ho hb hg_ hnew_; have HO := Aside0.mk ho; have BK3 := Aside0.mk ((hg_.block g1 (blk_lt BK.out) (by simp)).trans BK.out); have HB3 := Aside0.mk hb; clear ho hb hg_ hnew_)
    | ((with_reducible refine gate_builtin (b := .append) (xs := #[.tmp 3, .tmp 4]) rfl ?_); refine Kd.R_append_rows (Kd.int .u8) (Rr := fun x cs => cs = [Value.int .u8 x]) (w0 := w) w.heap.size rfl (.tmp 3) (.tmp 4) 24 5 (.int .u8 0) 1 rfl Tryd.underlying24 info5d rfl (by decide) (by decide) v3 [18, 32] hs (some ⟨g1, 0, none⟩) 32 32 (fun _ => True) (fun _ => False) rfl rfl HO.out ?aR (fun x cs hx => hx) (fun _ hk => hk.elim) (fun _ _ => trivial) HB3.out (below_size HB3.out) (by decide) ?_; (case aR => have := reads_block BK3.out (by rw [H32.out]; decide); rw [H32.out] at this; exact this); intro v5 w5 hR hb hg hat; have HR5 := Aside0.mk hR; have HB5 := Aside0.mk hb; clear hR hb hg hat))
  go_ret
  exact ⟨_, rfl, HR5.out, HB5.out⟩
def hash0 : List Int := List.replicate 32 0
def hashN (m : Nat) : List Int := List.replicate 31 0 ++ [(m : Int)]
theorem hashN_len (m : Nat) : (hashN m).length = 32 := by simp [hashN]
theorem hashN_set (m : Nat) : (nums .u8 hash0).toArray.setIfInBounds 31 (.int .u8 (m : Int)) = (nums .u8 (hashN m)).toArray := rfl
/-- The bytes of an identifier, by its number. -/
def idB (n : Nat) : List Int := if n % 3 = 0 then 18 :: 32 :: hashN (n / 3) else if n % 3 = 1 then 1 :: 112 :: 18 :: 32 :: hashN (n / 3) else 1 :: 85 :: 18 :: 32 :: hashN (n / 3)
set_option maxHeartbeats 8000000 in
set_option maxRecDepth 100000 in
theorem identifier_0 (n : Nat) (hn : n < 256) (hr : n % 3 = 0) (w : World) : Calls Tryd.prog 8 #[.int .u8 (n : Int)] w fun e w' => ∃ v, e = .returned v ∧ Kd.R (Kd.int .u8) 5 w' w.heap.size (fun _ => True) v (idB n) ∧ Below w.heap.size w w' := by
  have HB := Aside0.mk (Below.refl w.heap.size w)
  have HI : Aside0 ((Tryd.prog.info? 70).map (·.size) = some (nums .u8 (hashN (n / 3))).toArray.size) := ⟨by rw [show (nums .u8 (hashN (n / 3))).toArray.size = 32 from by simp [nums, hashN]]; kernel_rfl⟩
  have hid : idB n = 18 :: 32 :: hashN (n / 3) := by unfold idB; rw [if_pos hr]
  obtain ⟨m, hm⟩ : ∃ m, m = n / 3 := ⟨_, rfl⟩
  rw [← hm] at HI hid
  have hq : Int.tdiv (n : Int) 3 = (m : Int) := by rw [Int.tdiv_eq_ediv_of_nonneg (by omega)]; omega
  have hrm : Int.tmod (n : Int) 3 = 0 := by rw [Int.tmod_eq_emod_of_nonneg (by omega)]; omega
  have hmw : IntKind.u8.wrap (m : Int) = (m : Int) := by rw [show IntKind.u8.wrap (m : Int) = (m : Int) % 256 from by rfl]; omega
  have HID := Aside0.mk hid
  clear hid hn hr hm
  go_enter Tryd.func8, Tryd.ntmps8
  go_wp2_with (first
    | ((with_reducible refine gate_dst (N := 3) rfl ?_); refine box_event (N := 3) (cs := (nums .u8 hash0).toArray) (t := 70) ?hg ?hd ?hr ?_; (case hd => rfl); (case hg => rfl); (case hr => first | (go_simp; done) | (go_simp; rfl) | kernel_rfl); intro g3 hg w3 hbox hb; have BK := Aside0.mk hbox; have HB3 := Aside0.mk hb; have GE := Aside0.mk (show w.heap.size ≤ g3 by omega); clear hg hbox hb; have hx : w3.cell? ⟨g3, 31, none⟩ = some (.int .u8 0) := (blk_cell BK.out 31).trans rfl; have hf := blk_frozen BK.out 31)
    | ((with_reducible refine gate_store (t := 5) (p := 7) rfl ?_); refine store_event (t := 5) (p := 7) (v := ?vo_1) (w1 := (w3.setCell ⟨g3, 31, none⟩ (.int .u8 (m : Int)))) ?hg ?ho ?hn ?hr ?_; (case ho => rfl); (case hg => rfl); (case hn => rfl); (case hr => first | (go_simp; done) | (go_simp; rfl)); intro w4 hw; have BK4 := Aside0.mk (show w4.heap[g3]? = some (.cells (nums .u8 (hashN m)).toArray 70 (0, 0)) by rw [hw]; exact blk_put BK.out 31 _ (hashN_set m)); have HB4 := Aside0.mk (show Below w.heap.size w w4 by rw [hw]; exact below_set HB3.out GE.out); clear hw hx hf)
    | ((with_reducible refine gate_dst (N := 8) rfl ?_); refine wpList_load_row rfl 70 (.tmp 3) rfl g3 rfl 70 (nums .u8 (hashN m)).toArray (0, 0) _ BK4.out Tryd.underlying70 rfl HI.out ?_)
    | (go_at_call 30; refine (key_calls (hashN m) (hashN_len m) _).mono ?_; rintro e w5 ⟨v5, rfl, hR, hb⟩; obtain ⟨A5, c5, rfl⟩ := Kd.R_slice hR; have HR5 := Aside0.mk (Kd.R_lower hR (below_size HB4.out)); have HB5 := Aside0.mk (below_step HB4.out hb); clear hR hb))
  go_ret
  rw [HID.out]
  exact ⟨_, rfl, HR5.out, HB5.out⟩
set_option maxHeartbeats 8000000 in
set_option maxRecDepth 100000 in
theorem identifier_1 (n : Nat) (hn : n < 256) (hr : n % 3 = 1) (w : World) : Calls Tryd.prog 8 #[.int .u8 (n : Int)] w fun e w' => ∃ v, e = .returned v ∧ Kd.R (Kd.int .u8) 5 w' w.heap.size (fun _ => True) v (idB n) ∧ Below w.heap.size w w' := by
  have HB := Aside0.mk (Below.refl w.heap.size w)
  have HI : Aside0 ((Tryd.prog.info? 70).map (·.size) = some (nums .u8 (hashN (n / 3))).toArray.size) := ⟨by rw [show (nums .u8 (hashN (n / 3))).toArray.size = 32 from by simp [nums, hashN]]; kernel_rfl⟩
  have hid : idB n = 1 :: 112 :: 18 :: 32 :: hashN (n / 3) := by unfold idB; rw [if_neg (by omega), if_pos (by omega)]
  obtain ⟨m, hm⟩ : ∃ m, m = n / 3 := ⟨_, rfl⟩
  rw [← hm] at HI hid
  have hq : Int.tdiv (n : Int) 3 = (m : Int) := by rw [Int.tdiv_eq_ediv_of_nonneg (by omega)]; omega
  have hrm : Int.tmod (n : Int) 3 = 1 := by rw [Int.tmod_eq_emod_of_nonneg (by omega)]; omega
  have hmw : IntKind.u8.wrap (m : Int) = (m : Int) := by rw [show IntKind.u8.wrap (m : Int) = (m : Int) % 256 from by rfl]; omega
  have HID := Aside0.mk hid
  clear hid hn hr hm
  go_enter Tryd.func8, Tryd.ntmps8
  go_wp2_with (first
    | ((with_reducible refine gate_dst (N := 3) rfl ?_); refine box_event (N := 3) (cs := (nums .u8 hash0).toArray) (t := 70) ?hg ?hd ?hr ?_; (case hd => rfl); (case hg => rfl); (case hr => first | (go_simp; done) | (go_simp; rfl) | kernel_rfl); intro g3 hg w3 hbox hb; have BK := Aside0.mk hbox; have HB3 := Aside0.mk hb; have GE := Aside0.mk (show w.heap.size ≤ g3 by omega); clear hg hbox hb; have hx : w3.cell? ⟨g3, 31, none⟩ = some (.int .u8 0) := (blk_cell BK.out 31).trans rfl; have hf := blk_frozen BK.out 31)
    | ((with_reducible refine gate_store (t := 5) (p := 7) rfl ?_); refine store_event (t := 5) (p := 7) (v := ?vo_1) (w1 := (w3.setCell ⟨g3, 31, none⟩ (.int .u8 (m : Int)))) ?hg ?ho ?hn ?hr ?_; (case ho => rfl); (case hg => rfl); (case hn => rfl); (case hr => first | (go_simp; done) | (go_simp; rfl)); intro w4 hw; have BK4 := Aside0.mk (show w4.heap[g3]? = some (.cells (nums .u8 (hashN m)).toArray 70 (0, 0)) by rw [hw]; exact blk_put BK.out 31 _ (hashN_set m)); have HB4 := Aside0.mk (show Below w.heap.size w w4 by rw [hw]; exact below_set HB3.out GE.out); clear hw hx hf)
    | ((with_reducible refine gate_dst (N := 8) rfl ?_); refine wpList_load_row rfl 70 (.tmp 3) rfl g3 rfl 70 (nums .u8 (hashN m)).toArray (0, 0) _ BK4.out Tryd.underlying70 rfl HI.out ?_)
    | (go_at_call 30; refine (key_calls (hashN m) (hashN_len m) _).mono ?_; rintro e w5 ⟨v5, rfl, hR, hb⟩; obtain ⟨A5, c5, rfl⟩ := Kd.R_slice hR; have HR5 := Aside0.mk (Kd.R_lower hR (below_size HB4.out)); have HB5 := Aside0.mk (below_step HB4.out hb); clear hR hb)
    | ((with_reducible refine gate_dst (N := 19) rfl ?_); refine Kd.R_lit (Kd.int .u8) (w0 := w) w.heap.size 5 ?hg (N := 19) ?hd (xs := ([1, 112] : List Int)) (inner := [.int .u8 1, .int .u8 112]) (ok := fun _ => True) (okp := fun _ => True) ?hr ?hp (fun _ hk => hk) trivial (below_alloc HB5.out _) (below_size (below_alloc HB5.out _)) (by simp) ?_; (case hd => rfl); (case hg => rfl); (case hr => first | (go_simp; done) | (go_simp; rfl)); (case hp => exact (Reps.one (show Kd.M (Kd.int .u8) _ _ _ 1 [.int .u8 1] from rfl) (Reps.one (show Kd.M (Kd.int .u8) _ _ _ 112 [.int .u8 112] from rfl) (Reps.none _ _)))); intro v7 w7 ho hb hg_ hnew_; have HO := Aside0.mk ho; have HR7 := Aside0.mk (Kd.R_grown (Kd.R_alloc HR5.out _) hg_ (fun k _ => by simp)); have HB7 := Aside0.mk hb; clear ho hb hg_ hnew_)
    | ((with_reducible refine gate_builtin (b := .append) (xs := #[.tmp 19, .tmp 20]) rfl ?_); refine Kd.R_append_rows (Kd.int .u8) (Rr := fun x cs => cs = [Value.int .u8 x]) (w0 := w) w.heap.size rfl (.tmp 19) (.tmp 20) 24 5 (.int .u8 0) 1 rfl Tryd.underlying24 info5d rfl (by decide) (by decide) v7 [1, 112] (18 :: 32 :: hashN m) A5 _ c5 (fun _ => True) (fun _ => False) rfl rfl HO.out (Kd.R_reads' HR7.out).2.2 (fun x cs hx => hx) (fun _ hk => hk.elim) (fun _ _ => trivial) HB7.out (below_size HB7.out) (by simp [hashN_len]) ?_; intro v8 w8 hR hb hg hat; have HR8 := Aside0.mk hR; have HB8 := Aside0.mk hb; clear hR hb hg hat))
  go_ret
  rw [HID.out]
  exact ⟨_, rfl, HR8.out, HB8.out⟩
set_option maxHeartbeats 8000000 in
set_option maxRecDepth 100000 in
theorem identifier_2 (n : Nat) (hn : n < 256) (hr : n % 3 = 2) (w : World) : Calls Tryd.prog 8 #[.int .u8 (n : Int)] w fun e w' => ∃ v, e = .returned v ∧ Kd.R (Kd.int .u8) 5 w' w.heap.size (fun _ => True) v (idB n) ∧ Below w.heap.size w w' := by
  have HB := Aside0.mk (Below.refl w.heap.size w)
  have HI : Aside0 ((Tryd.prog.info? 70).map (·.size) = some (nums .u8 (hashN (n / 3))).toArray.size) := ⟨by rw [show (nums .u8 (hashN (n / 3))).toArray.size = 32 from by simp [nums, hashN]]; kernel_rfl⟩
  have hid : idB n = 1 :: 85 :: 18 :: 32 :: hashN (n / 3) := by unfold idB; rw [if_neg (by omega), if_neg (by omega)]
  obtain ⟨m, hm⟩ : ∃ m, m = n / 3 := ⟨_, rfl⟩
  rw [← hm] at HI hid
  have hq : Int.tdiv (n : Int) 3 = (m : Int) := by rw [Int.tdiv_eq_ediv_of_nonneg (by omega)]; omega
  have hrm : Int.tmod (n : Int) 3 = 2 := by rw [Int.tmod_eq_emod_of_nonneg (by omega)]; omega
  have hmw : IntKind.u8.wrap (m : Int) = (m : Int) := by rw [show IntKind.u8.wrap (m : Int) = (m : Int) % 256 from by rfl]; omega
  have HID := Aside0.mk hid
  clear hid hn hr hm
  go_enter Tryd.func8, Tryd.ntmps8
  go_wp2_with (first
    | ((with_reducible refine gate_dst (N := 3) rfl ?_); refine box_event (N := 3) (cs := (nums .u8 hash0).toArray) (t := 70) ?hg ?hd ?hr ?_; (case hd => rfl); (case hg => rfl); (case hr => first | (go_simp; done) | (go_simp; rfl) | kernel_rfl); intro g3 hg w3 hbox hb; have BK := Aside0.mk hbox; have HB3 := Aside0.mk hb; have GE := Aside0.mk (show w.heap.size ≤ g3 by omega); clear hg hbox hb; have hx : w3.cell? ⟨g3, 31, none⟩ = some (.int .u8 0) := (blk_cell BK.out 31).trans rfl; have hf := blk_frozen BK.out 31)
    | ((with_reducible refine gate_store (t := 5) (p := 7) rfl ?_); refine store_event (t := 5) (p := 7) (v := ?vo_1) (w1 := (w3.setCell ⟨g3, 31, none⟩ (.int .u8 (m : Int)))) ?hg ?ho ?hn ?hr ?_; (case ho => rfl); (case hg => rfl); (case hn => rfl); (case hr => first | (go_simp; done) | (go_simp; rfl)); intro w4 hw; have BK4 := Aside0.mk (show w4.heap[g3]? = some (.cells (nums .u8 (hashN m)).toArray 70 (0, 0)) by rw [hw]; exact blk_put BK.out 31 _ (hashN_set m)); have HB4 := Aside0.mk (show Below w.heap.size w w4 by rw [hw]; exact below_set HB3.out GE.out); clear hw hx hf)
    | ((with_reducible refine gate_dst (N := 8) rfl ?_); refine wpList_load_row rfl 70 (.tmp 3) rfl g3 rfl 70 (nums .u8 (hashN m)).toArray (0, 0) _ BK4.out Tryd.underlying70 rfl HI.out ?_)
    | (go_at_call 30; refine (key_calls (hashN m) (hashN_len m) _).mono ?_; rintro e w5 ⟨v5, rfl, hR, hb⟩; obtain ⟨A5, c5, rfl⟩ := Kd.R_slice hR; have HR5 := Aside0.mk (Kd.R_lower hR (below_size HB4.out)); have HB5 := Aside0.mk (below_step HB4.out hb); clear hR hb)
    | ((with_reducible refine gate_dst (N := 19) rfl ?_); refine Kd.R_lit (Kd.int .u8) (w0 := w) w.heap.size 5 ?hg (N := 19) ?hd (xs := ([1, 85] : List Int)) (inner := [.int .u8 1, .int .u8 85]) (ok := fun _ => True) (okp := fun _ => True) ?hr ?hp (fun _ hk => hk) trivial (below_alloc HB5.out _) (below_size (below_alloc HB5.out _)) (by simp) ?_; (case hd => rfl); (case hg => rfl); (case hr => first | (go_simp; done) | (go_simp; rfl)); (case hp => exact (Reps.one (show Kd.M (Kd.int .u8) _ _ _ 1 [.int .u8 1] from rfl) (Reps.one (show Kd.M (Kd.int .u8) _ _ _ 85 [.int .u8 85] from rfl) (Reps.none _ _)))); intro v7 w7 ho hb hg_ hnew_; have HO := Aside0.mk ho; have HR7 := Aside0.mk (Kd.R_grown (Kd.R_alloc HR5.out _) hg_ (fun k _ => by simp)); have HB7 := Aside0.mk hb; clear ho hb hg_ hnew_)
    | ((with_reducible refine gate_builtin (b := .append) (xs := #[.tmp 19, .tmp 20]) rfl ?_); refine Kd.R_append_rows (Kd.int .u8) (Rr := fun x cs => cs = [Value.int .u8 x]) (w0 := w) w.heap.size rfl (.tmp 19) (.tmp 20) 24 5 (.int .u8 0) 1 rfl Tryd.underlying24 info5d rfl (by decide) (by decide) v7 [1, 85] (18 :: 32 :: hashN m) A5 _ c5 (fun _ => True) (fun _ => False) rfl rfl HO.out (Kd.R_reads' HR7.out).2.2 (fun x cs hx => hx) (fun _ hk => hk.elim) (fun _ _ => trivial) HB7.out (below_size HB7.out) (by simp [hashN_len]) ?_; intro v8 w8 hR hb hg hat; have HR8 := Aside0.mk hR; have HB8 := Aside0.mk hb; clear hR hb hg hat))
  go_ret
  rw [HID.out]
  exact ⟨_, rfl, HR8.out, HB8.out⟩
theorem identifier_calls (n : Nat) (hn : n < 256) (w : World) : Calls Tryd.prog 8 #[.int .u8 (n : Int)] w fun e w' => ∃ v, e = .returned v ∧ Kd.R (Kd.int .u8) 5 w' w.heap.size (fun _ => True) v (idB n) ∧ Below w.heap.size w w' := by
  rcases (show n % 3 = 0 ∨ n % 3 = 1 ∨ n % 3 = 2 by omega) with h | h | h
  · exact identifier_0 n hn h w
  · exact identifier_1 n hn h w
  · exact identifier_2 n hn h w
end Go.Proofs.YteekkpofcbcikaaDoor.HandWan
