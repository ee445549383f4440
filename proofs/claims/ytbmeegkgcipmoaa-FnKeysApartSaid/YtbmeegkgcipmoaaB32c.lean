/- The standard encoding of base 32 without padding is made; the number of its digits; nothing is encoded as nothing. -/
import Derived.Test.YtbmeegkgcipmoaaProg
import Derived.WalkSpells
import Derived.WalkLawsBesides
import Derived.Below
import Derived.Deep.Draws
import Derived.Deep.AppendLies
import Derived.Maps.AppendAt
import Derived.OwnWalk
import Derived.Laws.BytesArg
import Derived.Laws.MakeOwn
import Derived.Laws.OwnMore
import Derived.Deep.OwnRows
import Derived.Tactics
import Derived.Lib.ConvBytes
import Derived.Laws.Slices
import Derived.WalkKit
import Derived.KernelRfl
import Derived.RowKit3
import Derived.Deep.LoopGhost
import Derived.Deep.QuietTactic
import Derived.BigQuiet
import Derived.WideLaws
import Derived.Deep.DeepCutAuto
import Derived.Deep.CutBlock
import Derived.Deep.RegionHeld3
import Derived.Laws.Rows
import Derived.Lib.AppendStr
import Derived.ArgAppend
import Derived.Laws.IdiomCopy
import Derived.OrdersHeld
import Derived.Laws.BitsLemmas
import Derived.RowKit
import Derived.Test.YtbmeegkgcipmoaaLOwn
import Derived.Test.YtbmeegkgcipmoaaLOwn2
import Derived.Test.YtbmeegkgcipmoaaWWords
import Derived.Test.YtbmeegkgcipmoaaWLast
import Derived.Test.YtbmeegkgcipmoaaWTab
import Derived.Test.YtbmeegkgcipmoaaWFour
import Derived.Test.YtbmeegkgcipmoaaWQPut
import Derived.Test.YtbmeegkgcipmoaaWApart
import Derived.Test.YtbmeegkgcipmoaaWArr
import Derived.Test.YtbmeegkgcipmoaaWZeros
import Derived.Test.YtbmeegkgcipmoaaWFoot
import Derived.Test.YtbmeegkgcipmoaaWKept
import Derived.Test.YtbmeegkgcipmoaaWShare
import Derived.Test.YtbmeegkgcipmoaaWN
import Derived.Test.YtbmeegkgcipmoaaWFootNe
import Derived.Test.YtbmeegkgcipmoaaWAt
import Derived.Test.YtbmeegkgcipmoaaWEqStruct
import Derived.Test.YtbmeegkgcipmoaaWRepsOne
import Derived.Test.YtbmeegkgcipmoaaWInv
import Derived.Test.YtbmeegkgcipmoaaWInvWords
import Derived.Test.YtbmeegkgcipmoaaWGuard
import Derived.Test.YtbmeegkgcipmoaaWNEv
import Derived.Test.YtbmeegkgcipmoaaWMore
import Derived.StillTailTactics
import Derived.Test.YtbmeegkgcipmoaaB32a
namespace Go.Proofs.YtbmeegkgcipmoaaL
open Go Go.RowKit Go.Proofs.YtbmeegkgcipmoaaW.PrintWords Go.Proofs.YtbmeegkgcipmoaaW.PrintLast Go.Proofs.YtbmeegkgcipmoaaW.PrintMore
attribute [local go_sem] max2_int min2_int max_two min_two max_three min_three max_four min_four
set_option linter.unusedVariables false
set_option linter.unusedSimpArgs false
def z119 : Array Value := ([Value.string ⟨#[]⟩] ++ List.replicate 256 (Value.int .u8 0) ++ [Value.int .i32 0]).toArray
theorem infoZ : (Try.prog.info? 119).map (fun i => (i.zero, i.size)) = some (some (.agg z119), 258) := by kernel_rfl
theorem lower_same (c : Int) (h0 : 0 ≤ c) (h1 : c ≤ 255) (w : World) : ∃ r : Int, 0 ≤ r ∧ r ≤ 255 ∧ Calls Try.prog 87 #[.int .u8 c] w fun e w' => e = .returned (.int .u8 r) ∧ w' = w := by
  by_cases c2 : 65 ≤ c
  · have c2b0 : decide (65 ≤ c) = true := decide_eq_true c2
    by_cases c3 : c ≤ 90
    · have c3b0 : decide (c ≤ 90) = true := decide_eq_true c3
      refine ⟨(c + 32) % 256, by omega, by omega, ?_⟩
      clear h0 h1 c2 c3
      go_enter Try.func87, Try.ntmps87
      go_wp2
      go_ret
      exact ⟨by first | rfl | (simp; done) | (simp [*]; done), rfl⟩
    · have c3b0 : decide (c ≤ 90) = false := decide_eq_false c3
      refine ⟨c, h0, h1, ?_⟩
      clear h0 h1 c2 c3
      go_enter Try.func87, Try.ntmps87
      go_wp2
      go_ret
      exact ⟨by first | rfl | (simp; done) | (simp [*]; done), rfl⟩
  · have c2b0 : decide (65 ≤ c) = false := decide_eq_false c2
    refine ⟨c, h0, h1, ?_⟩
    clear h0 h1 c2
    go_enter Try.func87, Try.ntmps87
    go_wp2
    go_ret
    exact ⟨by first | rfl | (simp; done) | (simp [*]; done), rfl⟩
theorem upper_same (c : Int) (h0 : 0 ≤ c) (h1 : c ≤ 255) (w : World) : ∃ r : Int, 0 ≤ r ∧ r ≤ 255 ∧ Calls Try.prog 88 #[.int .u8 c] w fun e w' => e = .returned (.int .u8 r) ∧ w' = w := by
  by_cases c2 : 97 ≤ c
  · have c2b0 : decide (97 ≤ c) = true := decide_eq_true c2
    by_cases c3 : c ≤ 122
    · have c3b0 : decide (c ≤ 122) = true := decide_eq_true c3
      refine ⟨(c - 32) % 256, by omega, by omega, ?_⟩
      clear h0 h1 c2 c3
      go_enter Try.func88, Try.ntmps88
      go_wp2
      go_ret
      exact ⟨by first | rfl | (simp; done) | (simp [*]; done), rfl⟩
    · have c3b0 : decide (c ≤ 122) = false := decide_eq_false c3
      refine ⟨c, h0, h1, ?_⟩
      clear h0 h1 c2 c3
      go_enter Try.func88, Try.ntmps88
      go_wp2
      go_ret
      exact ⟨by first | rfl | (simp; done) | (simp [*]; done), rfl⟩
  · have c2b0 : decide (97 ≤ c) = false := decide_eq_false c2
    refine ⟨c, h0, h1, ?_⟩
    clear h0 h1 c2
    go_enter Try.func88, Try.ntmps88
    go_wp2
    go_ret
    exact ⟨by first | rfl | (simp; done) | (simp [*]; done), rfl⟩
/-- A block of 258 cells: an Encoding that is being made. -/
structure Mk (w0 W : World) (E : Nat) (s : ByteArray) (p : Int) : Prop where
  blk : ∃ cs, W.heap[E]? = some (.cells cs 119 (0, 0)) ∧ cs.size = 258 ∧ cs[0]? = some (.string s) ∧ cs[257]? = some (.int .i32 p)
  ge : w0.heap.size ≤ E
  below : Below w0.heap.size w0 W
theorem Mk.drew {w0 W : World} {E : Nat} {s : ByteArray} {p : Int} (h : Mk w0 W E s p) : Mk w0 W.drew E s p := ⟨h.blk, h.ge, below_drew h.below⟩
theorem Mk.cell {w0 W : World} {E : Nat} {s : ByteArray} {p : Int} (h : Mk w0 W E s p) (o : Nat) (ho : o < 258) : ∃ v, W.cell? ⟨E, o, none⟩ = some v ∧ W.frozen? ⟨E, o, none⟩ = false := by
  obtain ⟨cs, h1, h2, h3, h4⟩ := h.blk
  refine ⟨cs[o]'(by omega), ?_, ?_⟩
  · unfold World.cell?
    rw [h1]
    show cs[o]? = _
    exact Array.getElem?_eq_getElem (by omega)
  · unfold World.frozen?
    rw [h1]
    simp
theorem heap_set {W : World} {E o : Nat} {cs : Array Value} {t : TypeId} {v : Value} (h : W.heap[E]? = some (.cells cs t (0, 0))) : (W.setCell ⟨E, o, none⟩ v).heap[E]? = some (.cells (cs.setIfInBounds o v) t (0, 0)) := blk_put h o v rfl
theorem Mk.put {w0 W : World} {E : Nat} {s : ByteArray} {p : Int} (h : Mk w0 W E s p) (o : Nat) (h0 : 1 ≤ o) (h1 : o < 257) (v : Value) : Mk w0 (W.setCell ⟨E, o, none⟩ v) E s p := by
  obtain ⟨cs, e1, e2, e3, e4⟩ := h.blk
  refine ⟨⟨_, heap_set e1, by simp [e2], ?_, ?_⟩, h.ge, below_set h.below h.ge⟩
  · rw [Array.getElem?_setIfInBounds_ne (by omega)]; exact e3
  · rw [Array.getElem?_setIfInBounds_ne (by omega)]; exact e4
theorem Mk.put0 {w0 W : World} {E : Nat} {s : ByteArray} {p : Int} (h : Mk w0 W E s p) (s' : ByteArray) : Mk w0 (W.setCell ⟨E, 0, none⟩ (.string s')) E s' p := by
  obtain ⟨cs, e1, e2, e3, e4⟩ := h.blk
  refine ⟨⟨_, heap_set e1, by simp [e2], ?_, ?_⟩, h.ge, below_set h.below h.ge⟩
  · rw [Array.getElem?_setIfInBounds_self_of_lt (by omega)]
  · rw [Array.getElem?_setIfInBounds_ne (by omega)]; exact e4
theorem Mk.put257 {w0 W : World} {E : Nat} {s : ByteArray} {p : Int} (h : Mk w0 W E s p) (p' : Int) : Mk w0 (W.setCell ⟨E, 257, none⟩ (.int .i32 p')) E s p' := by
  obtain ⟨cs, e1, e2, e3, e4⟩ := h.blk
  refine ⟨⟨_, heap_set e1, by simp [e2], ?_, ?_⟩, h.ge, below_set h.below h.ge⟩
  · rw [Array.getElem?_setIfInBounds_ne (by omega)]; exact e3
  · rw [Array.getElem?_setIfInBounds_self_of_lt (by omega)]
theorem wsucc' (j : Nat) (h : j < 9223372036854775807) : wrap64 ((j : Int) + 1) = ((j + 1 : Nat) : Int) := by unfold wrap64; omega
set_option maxHeartbeats 4000000 in
set_option maxRecDepth 100000 in
theorem NewEncodingCI_calls (w : World) : Calls Try.prog 77 #[.string alpha_] w fun e w' => ∃ E, e = .returned (.pointer (some ⟨E, 0, none⟩)) ∧ Mk w w' E alpha_ 61 := by
  have hinfo := infoZ
  obtain ⟨i, hi, hz, hs⟩ : ∃ i, Try.prog.info? 119 = some i ∧ i.zero = some (.agg z119) ∧ i.size = 258 := by
    cases hh : Try.prog.info? 119 with
    | none => rw [hh] at hinfo; exact absurd hinfo (by simp)
    | some i =>
      rw [hh] at hinfo
      simp only [Option.map_some, Option.some.injEq, Prod.mk.injEq] at hinfo
      exact ⟨i, rfl, hinfo.1, hinfo.2⟩
  clear hinfo
  go_enter Try.func77, Try.ntmps77
  go_wp2_with (first | ((with_reducible refine gate_dst (N := 6) rfl ?_); refine box_event (cs := z119) (t := 119) rfl rfl ?hr ?_; (case hr => first | (go_simp; done) | (go_simp; rfl)); intro E hE w1 hb hbel; have HM := Aside0.mk (show Mk w w1 E ⟨#[]⟩ 0 from ⟨⟨z119, hb, rfl, rfl, rfl⟩, by omega, hbel⟩); obtain ⟨_, hx, hf⟩ := HM.out.cell 257 (by decide); clear hE hb hbel) | ((with_reducible refine gate_store (t := 21) (p := 9) rfl ?_); refine store_event (t := 21) (p := 9) (v := ?vo_a) (w1 := (w1.setCell ⟨E, 257, none⟩ (.int .i32 61))) ?hg ?ho ?hn ?hr ?_; (case ho => rfl); (case hg => rfl); (case hn => rfl); (case hr => first | (go_simp; done) | (go_simp; rfl)); intro w2 hw; have HM2 := Aside0.mk (hw ▸ HM.out.put257 61); clear hx hf hw HM; obtain ⟨_, hx, hf⟩ := HM2.out.cell 0 (by decide)) | ((with_reducible refine gate_store (t := 9) (p := 13) rfl ?_); refine store_event (t := 9) (p := 13) (v := ?vo_b) (w1 := (w2.setCell ⟨E, 0, none⟩ (.string alpha_))) ?hg ?ho ?hn ?hr ?_; (case ho => rfl); (case hg => rfl); (case hn => rfl); (case hr => first | (go_simp; done) | (go_simp; rfl)); intro w3 hw; have HM3 := Aside0.mk (hw ▸ HM2.out.put0 alpha_); clear hx hf hw HM2))
  clear hi hz hs
  go_loopg [4] 256 (fun kq v4 w' => ∃ j : Nat, v4 = .int .i64 (j : Int) ∧ Aside0 (j + kq = 256) ∧ Aside0 (Mk w w' E alpha_ 61))
  case atStart => exact ⟨0, rfl, ⟨rfl⟩, HM3⟩
  case round =>
    clear HM3
    obtain ⟨j, rfl, HJ, HM⟩ := hrel
    by_cases hj : j < 256
    · have q1 : decide ((j : Int) < 256) = true := decide_eq_true (by omega)
      have q2 : ((j : Int) < 256) = True := eq_true (by omega)
      have q3 : (0 ≤ (j : Int)) = True := eq_true (by omega)
      have q4 : (j < 256) = True := eq_true hj
      obtain ⟨_, hx, hf⟩ := HM.out.cell (1 + j) (by omega)
      have HW := Aside0.mk (wsucc' j (by omega))
      have HP := Aside0.mk (HM.out.put (1 + j) (by omega) (by omega) (.int .u8 255))
      go_wp2_with ((with_reducible refine gate_store (t := 5) (p := 22) rfl ?_); refine store_event (t := 5) (p := 22) (v := ?vo_c) (w1 := (wr.setCell ⟨E, 1 + j, none⟩ (.int .u8 255))) ?hg ?ho ?hn ?hr ?_; (case ho => rfl); (case hg => rfl); (case hn => rfl); (case hr => first | (go_simp; done) | (go_simp; rfl)); intro w4 hw; have HQ := Aside0.mk (hw ▸ HP.out); clear hx hf hw HP HM)
      go_roundg (gk - 1)
      case measure => have := HJ.out; omega
      case rel => exact ⟨j + 1, by first | (rw [HW.out]; done) | (congr 1), ⟨by have := HJ.out; omega⟩, HQ⟩
    · have q1 : decide ((j : Int) < 256) = false := decide_eq_false (by omega)
      clear hj HJ
      go_wp2
      go_loopg [5] 32 (fun kq v5 w' => ∃ j : Nat, v5 = .int .i64 (j : Int) ∧ Aside0 (j + kq = 32) ∧ Aside0 (Mk w w' E alpha_ 61))
      case atStart => exact ⟨0, rfl, ⟨rfl⟩, HM⟩
      case round =>
        clear HM q1
        obtain ⟨j, rfl, HJ, HM⟩ := hrel
        by_cases hj : j < 32
        · have q1 : decide ((j : Int) < (alpha_.size : Int)) = true := decide_eq_true (by rw [alpha_size]; omega)
          have q2 : ((j : Int) < (alpha_.size : Int)) = True := eq_true (by rw [alpha_size]; omega)
          have q3 : (0 ≤ (j : Int)) = True := eq_true (by omega)
          have q4 : (j < alpha_.size) = True := eq_true (by rw [alpha_size]; omega)
          have q5 : ∀ h : j < alpha_.size, ((alpha_[j]'h).toNat : Int) = bt alpha_ (j : Int) := bt_at alpha_ (j : Int)
          have HW := Aside0.mk (wsucc' j (by omega))
          have hbt := bt_range alpha_ (j : Int)
          have q6 : ((j : Int) % 256) = (j : Int) := by omega
          go_wp2
          obtain ⟨r1, h10, h11, hc1⟩ := lower_same (bt alpha_ (j : Int)) hbt.1 hbt.2 wr.drew
          have a1 : (0 ≤ r1) = True := eq_true h10
          have b1 : (r1 < 256) = True := eq_true (by omega)
          obtain ⟨_, hx, hf⟩ := HM.out.cell (1 + r1.toNat) (by omega)
          have HP := Aside0.mk (HM.out.drew.put (1 + r1.toNat) (by omega) (by omega) (.int .u8 (IntKind.u8.wrap (j : Int))))
          go_still_tail 10, (by kernel_rfl)
          still_call hc1
          repeat still_step
          refine wpStill_nil ?_
          change wpList _ _ _ _ _ wr.drew
          go_wp2_with ((with_reducible refine gate_store (t := 5) (p := 38) rfl ?_); refine store_event (t := 5) (p := 38) (v := ?vo_d1) (w1 := (wr.drew.setCell ⟨E, 1 + r1.toNat, none⟩ (.int .u8 (IntKind.u8.wrap (j : Int))))) ?hg ?ho ?hn ?hr ?_; (case ho => rfl); (case hg => rfl); (case hn => rfl); (case hr => first | (go_simp; done) | (go_simp; rfl)); intro w5 hw; have HN := Aside0.mk (hw ▸ HP.out); clear hx hf hw HP HM)
          clear a1 b1 h10 h11 hc1
          obtain ⟨r2, h20, h21, hc2⟩ := upper_same (bt alpha_ (j : Int)) hbt.1 hbt.2 w5.drew
          have a2 : (0 ≤ r2) = True := eq_true h20
          have b2 : (r2 < 256) = True := eq_true (by omega)
          obtain ⟨_, hx, hf⟩ := HN.out.cell (1 + r2.toNat) (by omega)
          have HP := Aside0.mk (HN.out.drew.put (1 + r2.toNat) (by omega) (by omega) (.int .u8 (IntKind.u8.wrap (j : Int))))
          go_still_tail 10, (by kernel_rfl)
          still_call hc2
          repeat still_step
          refine wpStill_nil ?_
          change wpList _ _ _ _ _ w5.drew
          go_wp2_with ((with_reducible refine gate_store (t := 5) (p := 48) rfl ?_); refine store_event (t := 5) (p := 48) (v := ?vo_d2) (w1 := (w5.drew.setCell ⟨E, 1 + r2.toNat, none⟩ (.int .u8 (IntKind.u8.wrap (j : Int))))) ?hg ?ho ?hn ?hr ?_; (case ho => rfl); (case hg => rfl); (case hn => rfl); (case hr => first | (go_simp; done) | (go_simp; rfl)); intro w6 hw; have HO := Aside0.mk (hw ▸ HP.out); clear hx hf hw HP HN)
          clear a2 b2 h20 h21 hc2
          go_roundg (gk - 1)
          case measure => have := HJ.out; omega
          case rel => exact ⟨j + 1, by first | (rw [HW.out]; done) | (congr 1), ⟨by have := HJ.out; omega⟩, HO⟩
        · have q1 : decide ((j : Int) < (alpha_.size : Int)) = false := decide_eq_false (by rw [alpha_size]; omega)
          have q4 : (j < alpha_.size) = False := eq_false (by rw [alpha_size]; omega)
          clear hj HJ
          go_wp2
          go_ret
          exact ⟨E, rfl, HM.out⟩
set_option maxHeartbeats 4000000 in
set_option maxRecDepth 100000 in
theorem WithPadding_calls (cs : Array Value) (h258 : cs.size = 258) (s : ByteArray) (h0 : cs[0]? = some (.string s)) (w : World) : Calls Try.prog 78 #[.agg cs, .int .i32 (-1)] w fun e w' => ∃ E, e = .returned (.pointer (some ⟨E, 0, none⟩)) ∧ Mk w w' E s (-1) := by
  go_enter Try.func78, Try.ntmps78
  go_wp2
  go_ret
  exact ⟨w.heap.size, rfl, ⟨⟨_, blk_new w _, by simp [h258], by rw [Array.getElem?_setIfInBounds_ne (by decide)]; exact h0, by rw [Array.getElem?_setIfInBounds_self_of_lt (by omega)]⟩, Nat.le_refl _, below_alloc (Below.refl _ _) _⟩⟩
set_option maxHeartbeats 4000000 in
set_option maxRecDepth 100000 in
theorem RawStd_calls (w : World) : Calls Try.prog 68 #[] w fun e w' => ∃ E, e = .returned (.pointer (some ⟨E, 0, none⟩)) ∧ w.heap.size ≤ E ∧ EncIs w' E ∧ Below w.heap.size w w' := by
  have hinfo := infoZ
  have hi : (Try.prog.info? 119).map (·.size) = some 258 := by
    cases hh : Try.prog.info? 119 with
    | none => rw [hh] at hinfo; exact absurd hinfo (by simp)
    | some i =>
      rw [hh] at hinfo
      simp only [Option.map_some, Option.some.injEq, Prod.mk.injEq] at hinfo
      simp [hinfo.2]
  have HI := Aside0.mk hi
  clear hinfo hi
  go_enter Try.func68, Try.ntmps68
  go_wp2_with (first | (go_at_call 77; refine (NewEncodingCI_calls w).mono ?_; rintro e w5 ⟨E, rfl, hM⟩; obtain ⟨cs, e1, e2, e3, e4⟩ := hM.blk; have HM := Aside0.mk hM; have HE1 := Aside0.mk e1; have HE2 := Aside0.mk e2; have HE3 := Aside0.mk e3; clear hM e1 e2 e3 e4) | ((with_reducible refine gate_dst (N := 3) rfl ?_); refine wpList_load_row rfl 119 (.tmp 2) rfl E rfl 119 cs (0, 0) _ HE1.out Try.underlying119 rfl (by rw [HE2.out]; exact HI.out) ?_) | (go_at_call 78; refine (WithPadding_calls cs HE2.out alpha_ HE3.out w5).mono ?_; rintro e w6 ⟨E2, rfl, hM⟩; have HM2 := Aside0.mk hM; clear hM))
  go_ret
  obtain ⟨cs2, f1, f2, f3, f4⟩ := HM2.out.blk
  exact ⟨E2, rfl, Nat.le_trans HM.out.below.size HM2.out.ge, ⟨⟨cs2, f1, f3, f4⟩⟩, below_step HM.out.below HM2.out.below⟩
theorem wrap64_id' {x : Int} (h0 : -9223372036854775808 ≤ x) (h1 : x ≤ 9223372036854775807) : wrap64 x = x := by unfold wrap64; omega
theorem EncodedLen_calls (E n : Nat) (hn : n ≤ 1000) (w : World) (hE : EncIs w E) : Calls Try.prog 69 #[.pointer (some ⟨E, 0, none⟩), .int .i64 (n : Int)] w fun e w' => e = .returned (.int .i64 (((8 * n + 4) / 5 : Nat) : Int)) ∧ w' = w := by
  have e1 := hE.c1
  have h1 : wrap64 ((n : Int) * 8) = (n : Int) * 8 := by unfold wrap64; omega
  have h2 : wrap64 ((n : Int) * 8 + 4) = (n : Int) * 8 + 4 := by unfold wrap64; omega
  have h3 : wrap64 (Int.tdiv ((n : Int) * 8 + 4) 5) = (((8 * n + 4) / 5 : Nat) : Int) := by rw [Int.tdiv_eq_ediv_of_nonneg (by omega), wrap64_id' (by omega) (by omega)]; omega
  have h4 : (IntKind.i64.wrap (Int.tdiv ((n : Int) * 8 + 4) 5)) = (((8 * n + 4) / 5 : Nat) : Int) := (i64_w _).trans h3
  clear hE
  go_enter Try.func69, Try.ntmps69
  go_wp2
  go_ret
  exact ⟨by first | rfl | (simp; omega) | (simp [*]; omega), rfl⟩

set_option maxHeartbeats 4000000 in
set_option maxRecDepth 100000 in
theorem Encode_nil (w : World) (E : Nat) (D : Option Addr) (n cap : Nat) (A : Option Addr) (c m : Nat) (hm : m = 0) :
    Calls Try.prog 70 #[.pointer (some ⟨E, 0, none⟩), .slice D n cap, .slice A m c] w fun e w' => ∃ v, e = .returned v ∧ w' = w := by
  have c0 : ((m : Int) == 0) = true := by rw [hm]; rfl
  clear hm
  go_enter Try.func70, Try.ntmps70
  go_wp2
  refine bodyPost_ret (results_none rfl _ _ _) rfl ?_
  first | exact ⟨_, rfl, rfl⟩ | exact ⟨⟨_, rfl⟩, rfl⟩
end Go.Proofs.YtbmeegkgcipmoaaL
