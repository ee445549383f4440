/- The encoder of base 32, walked: it writes the digits of its source into the row it is given. -/
import Derived.Test.YtbmeegkgcipmoaaProg
import Derived.WalkSpells
import Derived.WalkLawsBesides
import Derived.Below
import Derived.Deep.Draws
import Derived.Deep.AppendLies
import Derived.Maps.AppendAt
import Derived.OwnWalk
import Derived.Laws.BytesArg
import Derived.Laws.MakeOwn
import Derived.Laws.OwnMore
import Derived.Deep.OwnRows
import Derived.Tactics
import Derived.Lib.ConvBytes
import Derived.Laws.Slices
import Derived.WalkKit
import Derived.KernelRfl
import Derived.RowKit3
import Derived.Deep.LoopGhost
import Derived.Deep.QuietTactic
import Derived.BigQuiet
import Derived.WideLaws
import Derived.Deep.DeepCutAuto
import Derived.Deep.CutBlock
import Derived.Deep.RegionHeld3
import Derived.Laws.Rows
import Derived.Lib.AppendStr
import Derived.ArgAppend
import Derived.Laws.IdiomCopy
import Derived.OrdersHeld
import Derived.Laws.BitsLemmas
import Derived.RowKit
import Derived.Test.YtbmeegkgcipmoaaLOwn
import Derived.Test.YtbmeegkgcipmoaaLOwn2
import Derived.Test.YtbmeegkgcipmoaaWWords
import Derived.Test.YtbmeegkgcipmoaaWLast
import Derived.Test.YtbmeegkgcipmoaaWTab
import Derived.Test.YtbmeegkgcipmoaaWFour
import Derived.Test.YtbmeegkgcipmoaaWQPut
import Derived.Test.YtbmeegkgcipmoaaWApart
import Derived.Test.YtbmeegkgcipmoaaWArr
import Derived.Test.YtbmeegkgcipmoaaWZeros
import Derived.Test.YtbmeegkgcipmoaaWFoot
import Derived.Test.YtbmeegkgcipmoaaWKept
import Derived.Test.YtbmeegkgcipmoaaWShare
import Derived.Test.YtbmeegkgcipmoaaWN
import Derived.Test.YtbmeegkgcipmoaaWFootNe
import Derived.Test.YtbmeegkgcipmoaaWAt
import Derived.Test.YtbmeegkgcipmoaaWEqStruct
import Derived.Test.YtbmeegkgcipmoaaWRepsOne
import Derived.Test.YtbmeegkgcipmoaaWInv
import Derived.Test.YtbmeegkgcipmoaaWInvWords
import Derived.Test.YtbmeegkgcipmoaaWGuard
import Derived.Test.YtbmeegkgcipmoaaWNEv
import Derived.Test.YtbmeegkgcipmoaaWMore
import Derived.StillTailTactics
import Derived.Test.YtbmeegkgcipmoaaB32a
namespace Go.Proofs.YtbmeegkgcipmoaaL
open Go Go.RowKit Go.Proofs.YtbmeegkgcipmoaaW.PrintWords Go.Proofs.YtbmeegkgcipmoaaW.PrintLast Go.Proofs.YtbmeegkgcipmoaaW.PrintMore
attribute [local go_sem] max2_int min2_int max_two min_two max_three min_three max_four min_four
set_option linter.unusedVariables false
set_option linter.unusedSimpArgs false
set_option maxHeartbeats 40000000 in
set_option maxRecDepth 100000 in
theorem Encode_calls (w0 w : World) (E g o n cap cap0 : Nat) (A : Option Addr) (c : Nat) (l xs : List Int) (hh : Array Obj) (hE : Enc w0 w E g cap0 xs hh) (hl : Kd.C (Kd.int .u8) w0 A l.length l) (hc : l.length ≤ c) (hby : ∀ i : Int, 0 ≤ rd l i ∧ rd l i ≤ 255) (hn : xs.length = o + n) (hnc : n ≤ cap) (hfit : (8 * l.length + 4) / 5 ≤ n) :
    Calls Try.prog 70 #[.pointer (some ⟨E, 0, none⟩), .slice (some ⟨g, o, none⟩) n cap, .slice A l.length c] w fun e w' => ∃ v, e = .returned v ∧ Enc w0 w' E g cap0 (putAt xs o (enc32_ l)) hh := by
  have HE := Aside0.mk hE
  have HL := Aside0.mk hl
  have HC := Aside0.mk hc
  have HBY := Aside0.mk hby
  clear hE hl hc hby
  by_cases h0 : l.length = 0
  · have c0 : ((l.length : Int) == 0) = true := by rw [h0]; rfl
    have e0 : enc32_ l = [] := by
      obtain rfl := List.eq_nil_of_length_eq_zero h0
      rfl
    rw [e0, putAt_nil]
    clear e0 h0
    go_enter Try.func70, Try.ntmps70
    go_wp2
    refine bodyPost_ret (results_none rfl _ _ _) rfl ?_
    exact ⟨_, rfl, HE.out⟩
  have c0 : ((l.length : Int) == 0) = false := beq_eq_false_iff_ne.mpr (by omega)
  obtain ⟨F, hF⟩ : ∃ F, F = putAt xs o (enc32_ l) := ⟨_, rfl⟩
  rw [← hF]
  obtain ⟨i0, hi, hz0, hz1, hz2⟩ := info_parts info5b
  have HI := Aside0.mk hi
  have HZ := Aside0.mk hz1
  clear hi hz0 hz1 hz2
  have HF0 := Aside0.mk hF.symm
  clear hF
  go_enter Try.func70, Try.ntmps70
  go_wp2
  go_loopg [1, 2] l.length (fun kq v1 v2 w' => ∃ (D : Option Addr) (n' cap' : Nat) (B : Option Addr) (r : List Int) (c' o' : Nat) (xs' : List Int), v1 = .slice D n' cap' ∧ v2 = .slice B r.length c' ∧ Aside0 (r.length ≤ kq) ∧ Aside0 (r.length ≤ c') ∧ Aside0 (Kd.C (Kd.int .u8) w0 B r.length r) ∧ Aside0 (Enc w0 w' E g cap0 xs' hh) ∧ Aside0 (0 < n' → D = some ⟨g, o', none⟩) ∧ Aside0 (xs'.length = o' + n') ∧ Aside0 (n' ≤ cap') ∧ Aside0 ((8 * r.length + 4) / 5 ≤ n') ∧ Aside0 (∀ i : Int, 0 ≤ rd r i ∧ rd r i ≤ 255) ∧ Aside0 (putAt xs' o' (enc32_ r) = F))
  case atStart => exact ⟨some ⟨g, o, none⟩, n, cap, A, l, c, o, xs, rfl, rfl, ⟨Nat.le_refl _⟩, HC, HL, HE, ⟨fun _ => rfl⟩, ⟨hn⟩, ⟨hnc⟩, ⟨hfit⟩, HBY, HF0⟩
  case round =>
    clear HE HL HC h0 c0 hn hnc hfit HBY HF0
    obtain ⟨D, n', cap', B, r, c', o', xs', rfl, rfl, HK, HC, HL, HE, HD, HX, HN, HF, HBY, HQ⟩ := hrel
    by_cases h4 : 4 < r.length
    · have q4 : decide ((4 : Int) < (r.length : Int)) = true := decide_eq_true (by omega)
      obtain rfl := HD.out (by have := HF.out; omega)
      obtain ⟨bb, bk, rfl⟩ := reads_spot HL.out (by omega)
      have p0 : ((0 : Int) < (r.length : Int)) = True := eq_true (by omega)
      have p0a : (0 < r.length) = True := eq_true (by omega)
      have p0b : (r = []) = False := eq_false (fun e => by rw [e] at h4; simp at h4)
      have p1 : ((1 : Int) < (r.length : Int)) = True := eq_true (by omega)
      have p2 : ((2 : Int) < (r.length : Int)) = True := eq_true (by omega)
      have p3 : ((3 : Int) < (r.length : Int)) = True := eq_true (by omega)
      have p4 : ((4 : Int) < (r.length : Int)) = True := eq_true (by omega)
      have H0 := Aside0.mk (show 0 < r.length by omega)
      have H1 := Aside0.mk (show 1 < r.length by omega)
      have H2 := Aside0.mk (show 2 < r.length by omega)
      have H3 := Aside0.mk (show 3 < r.length by omega)
      have H4 := Aside0.mk h4
      have N0 := Aside0.mk (show 0 < n' by have := HF.out; omega)
      have N1 := Aside0.mk (show 1 < n' by have := HF.out; omega)
      have N2 := Aside0.mk (show 2 < n' by have := HF.out; omega)
      have N3 := Aside0.mk (show 3 < n' by have := HF.out; omega)
      have N4 := Aside0.mk (show 4 < n' by have := HF.out; omega)
      have N5 := Aside0.mk (show 5 < n' by have := HF.out; omega)
      have N6 := Aside0.mk (show 6 < n' by have := HF.out; omega)
      have N7 := Aside0.mk (show 7 < n' by have := HF.out; omega)
      clear h4
      go_wp2
      have hcS : ∀ W, Sem.run Try.prog (Instr.slice 22 (.slice (some ⟨bb, bk, none⟩) r.length c') (some (.int .i64 5)) none none) W = .ok (.slice (if c' = 5 then some ⟨bb, bk, none⟩ else Option.map (fun x : Addr => x.add (5 * 1)) (some ⟨bb, bk, none⟩)) (r.drop 5).length (c' - 5)) W := fun W => by
        rw [List.length_drop]
        exact cut_from (P := Try.prog) 22 5 .i64 Try.underlying22 HI.out 1 HZ.out (some ⟨bb, bk, none⟩) r.length c' 5 (by decide) (by have := H4.out; omega) W
      have hcD : ∀ W, Sem.run Try.prog (Instr.slice 22 (.slice (some ⟨g, o', none⟩) n' cap') (some (.int .i64 8)) none none) W = .ok (.slice (if cap' = 8 then some ⟨g, o', none⟩ else Option.map (fun x : Addr => x.add (8 * 1)) (some ⟨g, o', none⟩)) (n' - 8) (cap' - 8)) W := fun W =>
        cut_from (P := Try.prog) 22 5 .i64 Try.underlying22 HI.out 1 HZ.out (some ⟨g, o', none⟩) n' cap' 8 (by decide) (by have := N7.out; omega) W
      generalize hBB : (if c' = 5 then some (⟨bb, bk, none⟩ : Addr) else Option.map (fun x : Addr => x.add (5 * 1)) (some ⟨bb, bk, none⟩)) = BB at hcS
      generalize hDD : (if cap' = 8 then some (⟨g, o', none⟩ : Addr) else Option.map (fun x : Addr => x.add (8 * 1)) (some ⟨g, o', none⟩)) = DD at hcD
      have HBB := Aside0.mk hBB
      have HDD := Aside0.mk hDD
      clear hBB hDD
      have e0 := HE.out.enc.c0
      have s4 : wr.cell? ⟨bb, bk + 4, none⟩ = some (.int .u8 (rd r 4)) := HE.out.src HL.out 4 H4.out
      have EC := Aside0.mk (d7 (HBY.out 4))
      have pa : (0 ≤ Go.bits .and .u8 (rd r 4) 31) = True := eq_true (by rw [EC.out]; have := And.intro (HBY.out 4) (And.intro (HBY.out 4) (HBY.out 4)); omega)
      have pb : (Go.bits .and .u8 (rd r 4) 31 < (alpha_.size : Int)) = True := eq_true (by rw [EC.out, alpha_size]; have := And.intro (HBY.out 4) (And.intro (HBY.out 4) (HBY.out 4)); omega)
      have pc := bt_at alpha_ (Go.bits .and .u8 (rd r 4) 31)
      have pd : ((7 : Int) < (n' : Int)) = True := eq_true (by have := N7.out; omega)
      obtain ⟨hx, hf⟩ := HE.out.cell (o' + 7) (by (try simp only [List.length_set]); have := HX.out; have := N7.out; omega)
      have HP := HE.out.drew.put (o' + 7) (by (try simp only [List.length_set]); have := HX.out; have := N7.out; omega) (bt alpha_ (rd r 4 % 32))
      rw [← EC.out] at HP
      go_still_tail 11, (by kernel_rfl)
      change wpList _ _ _ _ _ wr.drew
      go_wp2_with ((with_reducible refine gate_store (t := 5) (p := 23) rfl ?_); refine store_event (t := 5) (p := 23) (v := ?vo_1) (w1 := (wr.drew.setCell ⟨g, o' + 7, none⟩ (.int .u8 (bt alpha_ (Go.bits .and .u8 (rd r 4) 31))))) ?hg ?ho ?hn ?hr ?_; (case ho => rfl); (case hg => rfl); (case hn => rfl); (case hr => first | (go_simp; done) | (go_simp; rfl)); intro w1 hw; rw [← hw, EC.out] at HP; clear HE; have HE := Aside0.mk HP; clear HP hw)
      clear e0 s4 EC pa pb pc pd hx hf
      have e0 := HE.out.enc.c0
      have s3 : w1.cell? ⟨bb, bk + 3, none⟩ = some (.int .u8 (rd r 3)) := HE.out.src HL.out 3 H3.out
      have s4 : w1.cell? ⟨bb, bk + 4, none⟩ = some (.int .u8 (rd r 4)) := HE.out.src HL.out 4 H4.out
      have EC := Aside0.mk (d6 (HBY.out 3) (HBY.out 4))
      have pa : (0 ≤ Go.bits .or .u8 (rd r 4 / 32) (Go.bits .and .u8 (IntKind.u8.wrap (rd r 3 * 8)) 31)) = True := eq_true (by rw [EC.out]; have := And.intro (HBY.out 3) (And.intro (HBY.out 4) (HBY.out 3)); omega)
      have pb : (Go.bits .or .u8 (rd r 4 / 32) (Go.bits .and .u8 (IntKind.u8.wrap (rd r 3 * 8)) 31) < (alpha_.size : Int)) = True := eq_true (by rw [EC.out, alpha_size]; have := And.intro (HBY.out 3) (And.intro (HBY.out 4) (HBY.out 3)); omega)
      have pc := bt_at alpha_ (Go.bits .or .u8 (rd r 4 / 32) (Go.bits .and .u8 (IntKind.u8.wrap (rd r 3 * 8)) 31))
      have pd : ((6 : Int) < (n' : Int)) = True := eq_true (by have := N6.out; omega)
      obtain ⟨hx, hf⟩ := HE.out.cell (o' + 6) (by (try simp only [List.length_set]); have := HX.out; have := N6.out; omega)
      have HP := HE.out.drew.put (o' + 6) (by (try simp only [List.length_set]); have := HX.out; have := N6.out; omega) (bt alpha_ (rd r 3 % 4 * 8 + rd r 4 / 32))
      rw [← EC.out] at HP
      go_still_tail 17, (by kernel_rfl)
      change wpList _ _ _ _ _ w1.drew
      go_wp2_with ((with_reducible refine gate_store (t := 5) (p := 40) rfl ?_); refine store_event (t := 5) (p := 40) (v := ?vo_2) (w1 := (w1.drew.setCell ⟨g, o' + 6, none⟩ (.int .u8 (bt alpha_ (Go.bits .or .u8 (rd r 4 / 32) (Go.bits .and .u8 (IntKind.u8.wrap (rd r 3 * 8)) 31)))))) ?hg ?ho ?hn ?hr ?_; (case ho => rfl); (case hg => rfl); (case hn => rfl); (case hr => first | (go_simp; done) | (go_simp; rfl)); intro w2 hw; rw [← hw, EC.out] at HP; clear HE; have HE := Aside0.mk HP; clear HP hw)
      clear e0 s3 s4 EC pa pb pc pd hx hf
      have e0 := HE.out.enc.c0
      have s3 : w2.cell? ⟨bb, bk + 3, none⟩ = some (.int .u8 (rd r 3)) := HE.out.src HL.out 3 H3.out
      have EC := Aside0.mk (d5 (HBY.out 3))
      have pa : (0 ≤ Go.bits .and .u8 (rd r 3 / 4) 31) = True := eq_true (by rw [EC.out]; have := And.intro (HBY.out 3) (And.intro (HBY.out 3) (HBY.out 3)); omega)
      have pb : (Go.bits .and .u8 (rd r 3 / 4) 31 < (alpha_.size : Int)) = True := eq_true (by rw [EC.out, alpha_size]; have := And.intro (HBY.out 3) (And.intro (HBY.out 3) (HBY.out 3)); omega)
      have pc := bt_at alpha_ (Go.bits .and .u8 (rd r 3 / 4) 31)
      have pd : ((5 : Int) < (n' : Int)) = True := eq_true (by have := N5.out; omega)
      obtain ⟨hx, hf⟩ := HE.out.cell (o' + 5) (by (try simp only [List.length_set]); have := HX.out; have := N5.out; omega)
      have HP := HE.out.drew.put (o' + 5) (by (try simp only [List.length_set]); have := HX.out; have := N5.out; omega) (bt alpha_ (rd r 3 / 4 % 32))
      rw [← EC.out] at HP
      go_still_tail 12, (by kernel_rfl)
      change wpList _ _ _ _ _ w2.drew
      go_wp2_with ((with_reducible refine gate_store (t := 5) (p := 52) rfl ?_); refine store_event (t := 5) (p := 52) (v := ?vo_3) (w1 := (w2.drew.setCell ⟨g, o' + 5, none⟩ (.int .u8 (bt alpha_ (Go.bits .and .u8 (rd r 3 / 4) 31))))) ?hg ?ho ?hn ?hr ?_; (case ho => rfl); (case hg => rfl); (case hn => rfl); (case hr => first | (go_simp; done) | (go_simp; rfl)); intro w3 hw; rw [← hw, EC.out] at HP; clear HE; have HE := Aside0.mk HP; clear HP hw)
      clear e0 s3 EC pa pb pc pd hx hf
      have e0 := HE.out.enc.c0
      have s2 : w3.cell? ⟨bb, bk + 2, none⟩ = some (.int .u8 (rd r 2)) := HE.out.src HL.out 2 H2.out
      have s3 : w3.cell? ⟨bb, bk + 3, none⟩ = some (.int .u8 (rd r 3)) := HE.out.src HL.out 3 H3.out
      have EC := Aside0.mk (d4 (HBY.out 2) (HBY.out 3))
      have pa : (0 ≤ Go.bits .or .u8 (rd r 3 / 128) (Go.bits .and .u8 (IntKind.u8.wrap (rd r 2 * 2)) 31)) = True := eq_true (by rw [EC.out]; have := And.intro (HBY.out 2) (And.intro (HBY.out 3) (HBY.out 2)); omega)
      have pb : (Go.bits .or .u8 (rd r 3 / 128) (Go.bits .and .u8 (IntKind.u8.wrap (rd r 2 * 2)) 31) < (alpha_.size : Int)) = True := eq_true (by rw [EC.out, alpha_size]; have := And.intro (HBY.out 2) (And.intro (HBY.out 3) (HBY.out 2)); omega)
      have pc := bt_at alpha_ (Go.bits .or .u8 (rd r 3 / 128) (Go.bits .and .u8 (IntKind.u8.wrap (rd r 2 * 2)) 31))
      have pd : ((4 : Int) < (n' : Int)) = True := eq_true (by have := N4.out; omega)
      obtain ⟨hx, hf⟩ := HE.out.cell (o' + 4) (by (try simp only [List.length_set]); have := HX.out; have := N4.out; omega)
      have HP := HE.out.drew.put (o' + 4) (by (try simp only [List.length_set]); have := HX.out; have := N4.out; omega) (bt alpha_ (rd r 2 % 16 * 2 + rd r 3 / 128))
      rw [← EC.out] at HP
      go_still_tail 17, (by kernel_rfl)
      change wpList _ _ _ _ _ w3.drew
      go_wp2_with ((with_reducible refine gate_store (t := 5) (p := 69) rfl ?_); refine store_event (t := 5) (p := 69) (v := ?vo_4) (w1 := (w3.drew.setCell ⟨g, o' + 4, none⟩ (.int .u8 (bt alpha_ (Go.bits .or .u8 (rd r 3 / 128) (Go.bits .and .u8 (IntKind.u8.wrap (rd r 2 * 2)) 31)))))) ?hg ?ho ?hn ?hr ?_; (case ho => rfl); (case hg => rfl); (case hn => rfl); (case hr => first | (go_simp; done) | (go_simp; rfl)); intro w4 hw; rw [← hw, EC.out] at HP; clear HE; have HE := Aside0.mk HP; clear HP hw)
      clear e0 s2 s3 EC pa pb pc pd hx hf
      have e0 := HE.out.enc.c0
      have s1 : w4.cell? ⟨bb, bk + 1, none⟩ = some (.int .u8 (rd r 1)) := HE.out.src HL.out 1 H1.out
      have s2 : w4.cell? ⟨bb, bk + 2, none⟩ = some (.int .u8 (rd r 2)) := HE.out.src HL.out 2 H2.out
      have EC := Aside0.mk (d3 (HBY.out 1) (HBY.out 2))
      have pa : (0 ≤ Go.bits .and .u8 (Go.bits .or .u8 (rd r 2 / 16) (IntKind.u8.wrap (rd r 1 * 16))) 31) = True := eq_true (by rw [EC.out]; have := And.intro (HBY.out 1) (And.intro (HBY.out 2) (HBY.out 1)); omega)
      have pb : (Go.bits .and .u8 (Go.bits .or .u8 (rd r 2 / 16) (IntKind.u8.wrap (rd r 1 * 16))) 31 < (alpha_.size : Int)) = True := eq_true (by rw [EC.out, alpha_size]; have := And.intro (HBY.out 1) (And.intro (HBY.out 2) (HBY.out 1)); omega)
      have pc := bt_at alpha_ (Go.bits .and .u8 (Go.bits .or .u8 (rd r 2 / 16) (IntKind.u8.wrap (rd r 1 * 16))) 31)
      have pd : ((3 : Int) < (n' : Int)) = True := eq_true (by have := N3.out; omega)
      obtain ⟨hx, hf⟩ := HE.out.cell (o' + 3) (by (try simp only [List.length_set]); have := HX.out; have := N3.out; omega)
      have HP := HE.out.drew.put (o' + 3) (by (try simp only [List.length_set]); have := HX.out; have := N3.out; omega) (bt alpha_ (rd r 1 % 2 * 16 + rd r 2 / 16))
      rw [← EC.out] at HP
      go_still_tail 17, (by kernel_rfl)
      change wpList _ _ _ _ _ w4.drew
      go_wp2_with ((with_reducible refine gate_store (t := 5) (p := 86) rfl ?_); refine store_event (t := 5) (p := 86) (v := ?vo_5) (w1 := (w4.drew.setCell ⟨g, o' + 3, none⟩ (.int .u8 (bt alpha_ (Go.bits .and .u8 (Go.bits .or .u8 (rd r 2 / 16) (IntKind.u8.wrap (rd r 1 * 16))) 31))))) ?hg ?ho ?hn ?hr ?_; (case ho => rfl); (case hg => rfl); (case hn => rfl); (case hr => first | (go_simp; done) | (go_simp; rfl)); intro w5 hw; rw [← hw, EC.out] at HP; clear HE; have HE := Aside0.mk HP; clear HP hw)
      clear e0 s1 s2 EC pa pb pc pd hx hf
      have e0 := HE.out.enc.c0
      have s1 : w5.cell? ⟨bb, bk + 1, none⟩ = some (.int .u8 (rd r 1)) := HE.out.src HL.out 1 H1.out
      have EC := Aside0.mk (d2 (HBY.out 1))
      have pa : (0 ≤ Go.bits .and .u8 (rd r 1 / 2) 31) = True := eq_true (by rw [EC.out]; have := And.intro (HBY.out 1) (And.intro (HBY.out 1) (HBY.out 1)); omega)
      have pb : (Go.bits .and .u8 (rd r 1 / 2) 31 < (alpha_.size : Int)) = True := eq_true (by rw [EC.out, alpha_size]; have := And.intro (HBY.out 1) (And.intro (HBY.out 1) (HBY.out 1)); omega)
      have pc := bt_at alpha_ (Go.bits .and .u8 (rd r 1 / 2) 31)
      have pd : ((2 : Int) < (n' : Int)) = True := eq_true (by have := N2.out; omega)
      obtain ⟨hx, hf⟩ := HE.out.cell (o' + 2) (by (try simp only [List.length_set]); have := HX.out; have := N2.out; omega)
      have HP := HE.out.drew.put (o' + 2) (by (try simp only [List.length_set]); have := HX.out; have := N2.out; omega) (bt alpha_ (rd r 1 / 2 % 32))
      rw [← EC.out] at HP
      go_still_tail 12, (by kernel_rfl)
      change wpList _ _ _ _ _ w5.drew
      go_wp2_with ((with_reducible refine gate_store (t := 5) (p := 98) rfl ?_); refine store_event (t := 5) (p := 98) (v := ?vo_6) (w1 := (w5.drew.setCell ⟨g, o' + 2, none⟩ (.int .u8 (bt alpha_ (Go.bits .and .u8 (rd r 1 / 2) 31))))) ?hg ?ho ?hn ?hr ?_; (case ho => rfl); (case hg => rfl); (case hn => rfl); (case hr => first | (go_simp; done) | (go_simp; rfl)); intro w6 hw; rw [← hw, EC.out] at HP; clear HE; have HE := Aside0.mk HP; clear HP hw)
      clear e0 s1 EC pa pb pc pd hx hf
      have e0 := HE.out.enc.c0
      have s0 : w6.cell? ⟨bb, bk, none⟩ = some (.int .u8 (rd r 0)) := HE.out.src HL.out 0 H0.out
      have s1 : w6.cell? ⟨bb, bk + 1, none⟩ = some (.int .u8 (rd r 1)) := HE.out.src HL.out 1 H1.out
      have EC := Aside0.mk (d1 (HBY.out 0) (HBY.out 1))
      have pa : (0 ≤ Go.bits .and .u8 (Go.bits .or .u8 (rd r 1 / 64) (IntKind.u8.wrap (rd r 0 * 4))) 31) = True := eq_true (by rw [EC.out]; have := And.intro (HBY.out 0) (And.intro (HBY.out 1) (HBY.out 0)); omega)
      have pb : (Go.bits .and .u8 (Go.bits .or .u8 (rd r 1 / 64) (IntKind.u8.wrap (rd r 0 * 4))) 31 < (alpha_.size : Int)) = True := eq_true (by rw [EC.out, alpha_size]; have := And.intro (HBY.out 0) (And.intro (HBY.out 1) (HBY.out 0)); omega)
      have pc := bt_at alpha_ (Go.bits .and .u8 (Go.bits .or .u8 (rd r 1 / 64) (IntKind.u8.wrap (rd r 0 * 4))) 31)
      have pd : ((1 : Int) < (n' : Int)) = True := eq_true (by have := N1.out; omega)
      obtain ⟨hx, hf⟩ := HE.out.cell (o' + 1) (by (try simp only [List.length_set]); have := HX.out; have := N1.out; omega)
      have HP := HE.out.drew.put (o' + 1) (by (try simp only [List.length_set]); have := HX.out; have := N1.out; omega) (bt alpha_ (rd r 0 % 8 * 4 + rd r 1 / 64))
      rw [← EC.out] at HP
      go_still_tail 17, (by kernel_rfl)
      change wpList _ _ _ _ _ w6.drew
      go_wp2_with ((with_reducible refine gate_store (t := 5) (p := 115) rfl ?_); refine store_event (t := 5) (p := 115) (v := ?vo_7) (w1 := (w6.drew.setCell ⟨g, o' + 1, none⟩ (.int .u8 (bt alpha_ (Go.bits .and .u8 (Go.bits .or .u8 (rd r 1 / 64) (IntKind.u8.wrap (rd r 0 * 4))) 31))))) ?hg ?ho ?hn ?hr ?_; (case ho => rfl); (case hg => rfl); (case hn => rfl); (case hr => first | (go_simp; done) | (go_simp; rfl)); intro w7 hw; rw [← hw, EC.out] at HP; clear HE; have HE := Aside0.mk HP; clear HP hw)
      clear e0 s0 s1 EC pa pb pc pd hx hf
      have e0 := HE.out.enc.c0
      have s0 : w7.cell? ⟨bb, bk, none⟩ = some (.int .u8 (rd r 0)) := HE.out.src HL.out 0 H0.out
      have EC := Aside0.mk (d0 (HBY.out 0))
      have pa : (0 ≤ rd r 0 / 8) = True := eq_true (by rw [EC.out]; have := And.intro (HBY.out 0) (And.intro (HBY.out 0) (HBY.out 0)); omega)
      have pb : (rd r 0 / 8 < (alpha_.size : Int)) = True := eq_true (by rw [EC.out, alpha_size]; have := And.intro (HBY.out 0) (And.intro (HBY.out 0) (HBY.out 0)); omega)
      have pc := bt_at alpha_ (rd r 0 / 8)
      have pd : ((0 : Int) < (n' : Int)) = True := eq_true (by have := N0.out; omega)
      obtain ⟨hx, hf⟩ := HE.out.cell (o' + 0) (by (try simp only [List.length_set]); have := HX.out; have := N0.out; omega)
      have HP := HE.out.drew.put (o' + 0) (by (try simp only [List.length_set]); have := HX.out; have := N0.out; omega) (bt alpha_ (rd r 0 / 8))
      have pd2 : (0 < n') = True := eq_true N0.out
      simp only [Nat.add_zero] at hx hf HP
      rw [← EC.out] at HP
      go_still_tail 11, (by kernel_rfl)
      change wpList _ _ _ _ _ w7.drew
      go_wp2_with ((with_reducible refine gate_store (t := 5) (p := 126) rfl ?_); refine store_event (t := 5) (p := 126) (v := ?vo_8) (w1 := (w7.drew.setCell ⟨g, o', none⟩ (.int .u8 (bt alpha_ (rd r 0 / 8))))) ?hg ?ho ?hn ?hr ?_; (case ho => rfl); (case hg => rfl); (case hn => rfl); (case hr => first | (go_simp; done) | (go_simp; rfl)); intro w8 hw; rw [← hw, EC.out] at HP; clear HE; have HE := Aside0.mk HP; clear HP hw)
      clear e0 s0 EC pa pb pc pd hx hf pd2
      go_roundg (r.length - 5)
      case measure => have := HK.out; have := H4.out; omega
      case rel =>
        refine ⟨DD, n' - 8, cap' - 8, BB, r.drop 5, c' - 5, o' + 8, putAt xs' o' (encB r), rfl, by rw [List.length_drop], ⟨by rw [List.length_drop]; omega⟩, ⟨by rw [List.length_drop]; have := HC.out; omega⟩, ⟨?_⟩, ⟨?_⟩, ⟨fun h => ?_⟩, ⟨?_⟩, ⟨by have := HN.out; omega⟩, ⟨by rw [List.length_drop]; have := HF.out; have := H4.out; omega⟩, ⟨fun i => ?_⟩, ⟨?_⟩⟩
        · rw [← HBB.out]
          exact Kd.C_drop HL.out (by have := H4.out; omega) HC.out
        · have e : putAt xs' o' (encB r) = ((((((((xs'.set (o' + 7) (bt alpha_ (rd r 4 % 32))).set (o' + 6) (bt alpha_ (rd r 3 % 4 * 8 + rd r 4 / 32))).set (o' + 5) (bt alpha_ (rd r 3 / 4 % 32))).set (o' + 4) (bt alpha_ (rd r 2 % 16 * 2 + rd r 3 / 128))).set (o' + 3) (bt alpha_ (rd r 1 % 2 * 16 + rd r 2 / 16))).set (o' + 2) (bt alpha_ (rd r 1 / 2 % 32))).set (o' + 1) (bt alpha_ (rd r 0 % 8 * 4 + rd r 1 / 64))).set o' (bt alpha_ (rd r 0 / 8))) := by
            have := HX.out
            have := N7.out
            unfold encB
            repeat rw [putAt_cons _ _ _ _ (by simp only [List.length_cons, List.length_nil]; omega)]
            rw [putAt_nil]
          rw [e]
          exact HE.out
        · rw [← HDD.out, if_neg (by have := HN.out; omega)]
          rfl
        · rw [putAt_len _ _ _ (by rw [encB_len]; have := HX.out; have := N7.out; omega)]
          have := HX.out
          have := N7.out
          omega
        · have e : rd (r.drop 5) i = rd r ((i.toNat + 5 : Nat) : Int) := by unfold rd; rw [List.getD_eq_getElem?_getD, List.getD_eq_getElem?_getD, List.getElem?_drop, Int.toNat_natCast, Nat.add_comm]
          rw [e]
          exact HBY.out _
        · have hq := HQ.out
          rw [enc32_more H4.out, ← putAt_app _ _ _ _ (by rw [enc32_len _ _ (Nat.le_refl _), encB_len, List.length_drop]; have := HX.out; have := HF.out; have := H4.out; omega), encB_len] at hq
          exact hq
    · have q4 : decide ((4 : Int) < (r.length : Int)) = false := decide_eq_false (by omega)
      have hq := HQ.out
      rw [enc32_tail h4] at hq
      have HQ2 := Aside0.mk hq
      clear HQ hq
      have hm : r.length = 0 ∨ r.length = 1 ∨ r.length = 2 ∨ r.length = 3 ∨ r.length = 4 := by omega
      clear h4
      rcases hm with hm | hm | hm | hm | hm
      · have qq0 : ((r.length : Int) == 0) = true := by rw [hm]; rfl
        have qq1 : ((r.length : Int) == 1) = false := by rw [hm]; rfl
        have qq2 : ((r.length : Int) == 2) = false := by rw [hm]; rfl
        have qq3 : ((r.length : Int) == 3) = false := by rw [hm]; rfl
        have qq4 : ((r.length : Int) == 4) = false := by rw [hm]; rfl
        have HM := Aside0.mk hm
        clear hm
        go_wp2
        refine bodyPost_ret (results_none rfl _ _ _) rfl ?_
        have e : encT r = [] := by unfold encT; rw [if_neg (by rw [HM.out]; decide), if_neg (by rw [HM.out]; decide), if_neg (by rw [HM.out]; decide), if_neg (by rw [HM.out]; decide)]
        have hq := HQ2.out
        rw [e, putAt_nil] at hq
        first | exact ⟨_, rfl, hq ▸ HE.out⟩ | exact ⟨⟨_, rfl⟩, hq ▸ HE.out⟩
      · have qq0 : ((r.length : Int) == 0) = false := by rw [hm]; rfl
        have qq1 : ((r.length : Int) == 1) = true := by rw [hm]; rfl
        have qq2 : ((r.length : Int) == 2) = false := by rw [hm]; rfl
        have qq3 : ((r.length : Int) == 3) = false := by rw [hm]; rfl
        have qq4 : ((r.length : Int) == 4) = false := by rw [hm]; rfl
        obtain rfl := HD.out (by have := HF.out; omega)
        obtain ⟨bb, bk, rfl⟩ := reads_spot HL.out (by omega)
        have p0 : ((0 : Int) < (r.length : Int)) = True := eq_true (by omega)
        have H0 := Aside0.mk (show 0 < r.length by omega)
        have p0a : (0 < r.length) = True := eq_true (by omega)
        have p0b : (r = []) = False := eq_false (fun e => by rw [e] at hm; simp at hm)
        have N0 := Aside0.mk (show 0 < n' by have := HF.out; omega)
        have N1 := Aside0.mk (show 1 < n' by have := HF.out; omega)
        have HM := Aside0.mk hm
        clear hm
        go_wp2
        have e0 := HE.out.enc.c0
        have s0 : wr.cell? ⟨bb, bk, none⟩ = some (.int .u8 (rd r 0)) := HE.out.src HL.out 0 H0.out
        have EC := Aside0.mk (d1z (HBY.out 0))
        have pa : (0 ≤ Go.bits .or .u8 0 (Go.bits .and .u8 (IntKind.u8.wrap (rd r 0 * 4)) 31)) = True := eq_true (by rw [EC.out]; have := And.intro (HBY.out 0) (And.intro (HBY.out 0) (HBY.out 0)); omega)
        have pb : (Go.bits .or .u8 0 (Go.bits .and .u8 (IntKind.u8.wrap (rd r 0 * 4)) 31) < (alpha_.size : Int)) = True := eq_true (by rw [EC.out, alpha_size]; have := And.intro (HBY.out 0) (And.intro (HBY.out 0) (HBY.out 0)); omega)
        have pc := bt_at alpha_ (Go.bits .or .u8 0 (Go.bits .and .u8 (IntKind.u8.wrap (rd r 0 * 4)) 31))
        have pd : ((1 : Int) < (n' : Int)) = True := eq_true (by have := N1.out; omega)
        obtain ⟨hx, hf⟩ := HE.out.cell (o' + 1) (by (try simp only [List.length_set]); have := HX.out; have := N1.out; omega)
        have HP := HE.out.drew.put (o' + 1) (by (try simp only [List.length_set]); have := HX.out; have := N1.out; omega) (bt alpha_ (rd r 0 % 8 * 4))
        rw [← EC.out] at HP
        go_still_tail 14, (by kernel_rfl)
        change wpList _ _ _ _ _ wr.drew
        go_wp2_with ((with_reducible refine gate_store (t := 5) (p := 234) rfl ?_); refine store_event (t := 5) (p := 234) (v := ?vo_9) (w1 := (wr.drew.setCell ⟨g, o' + 1, none⟩ (.int .u8 (bt alpha_ (Go.bits .or .u8 0 (Go.bits .and .u8 (IntKind.u8.wrap (rd r 0 * 4)) 31)))))) ?hg ?ho ?hn ?hr ?_; (case ho => rfl); (case hg => rfl); (case hn => rfl); (case hr => first | (go_simp; done) | (go_simp; rfl)); intro w1 hw; rw [← hw, EC.out] at HP; clear HE; have HE := Aside0.mk HP; clear HP hw)
        clear e0 s0 EC pa pb pc pd hx hf
        have e0 := HE.out.enc.c0
        have s0 : w1.cell? ⟨bb, bk, none⟩ = some (.int .u8 (rd r 0)) := HE.out.src HL.out 0 H0.out
        have EC := Aside0.mk (d0 (HBY.out 0))
        have pa : (0 ≤ rd r 0 / 8) = True := eq_true (by rw [EC.out]; have := And.intro (HBY.out 0) (And.intro (HBY.out 0) (HBY.out 0)); omega)
        have pb : (rd r 0 / 8 < (alpha_.size : Int)) = True := eq_true (by rw [EC.out, alpha_size]; have := And.intro (HBY.out 0) (And.intro (HBY.out 0) (HBY.out 0)); omega)
        have pc := bt_at alpha_ (rd r 0 / 8)
        have pd : ((0 : Int) < (n' : Int)) = True := eq_true (by have := N0.out; omega)
        obtain ⟨hx, hf⟩ := HE.out.cell (o' + 0) (by (try simp only [List.length_set]); have := HX.out; have := N0.out; omega)
        have HP := HE.out.drew.put (o' + 0) (by (try simp only [List.length_set]); have := HX.out; have := N0.out; omega) (bt alpha_ (rd r 0 / 8))
        have pd2 : (0 < n') = True := eq_true N0.out
        simp only [Nat.add_zero] at hx hf HP
        rw [← EC.out] at HP
        go_still_tail 11, (by kernel_rfl)
        change wpList _ _ _ _ _ w1.drew
        go_wp2_with ((with_reducible refine gate_store (t := 5) (p := 245) rfl ?_); refine store_event (t := 5) (p := 245) (v := ?vo_10) (w1 := (w1.drew.setCell ⟨g, o', none⟩ (.int .u8 (bt alpha_ (rd r 0 / 8))))) ?hg ?ho ?hn ?hr ?_; (case ho => rfl); (case hg => rfl); (case hn => rfl); (case hr => first | (go_simp; done) | (go_simp; rfl)); intro w2 hw; rw [← hw, EC.out] at HP; clear HE; have HE := Aside0.mk HP; clear HP hw; have te := HE.out.enc.c1)
        clear e0 s0 EC pa pb pc pd hx hf pd2
        refine bodyPost_end (results_none rfl _ _ _) rfl ?_
        have e : encT r = [bt alpha_ (rd r 0 / 8), bt alpha_ (rd r 0 % 8 * 4)] := by unfold encT; rw [if_neg (by rw [HM.out]; decide)]; rw [if_neg (by rw [HM.out]; decide)]; rw [if_neg (by rw [HM.out]; decide)]; rw [if_pos HM.out]
        have hq := HQ2.out
        rw [e] at hq
        have e2 : putAt xs' o' [bt alpha_ (rd r 0 / 8), bt alpha_ (rd r 0 % 8 * 4)] = ((xs'.set (o' + 1) (bt alpha_ (rd r 0 % 8 * 4))).set (o') (bt alpha_ (rd r 0 / 8))) := by
          have := HX.out
          have := N1.out
          repeat rw [putAt_cons _ _ _ _ (by simp only [List.length_cons, List.length_nil]; omega)]
          rw [putAt_nil]
        rw [e2] at hq
        first | exact ⟨_, rfl, hq ▸ HE.out⟩ | exact ⟨⟨_, rfl⟩, hq ▸ HE.out⟩
      · have qq0 : ((r.length : Int) == 0) = false := by rw [hm]; rfl
        have qq1 : ((r.length : Int) == 1) = false := by rw [hm]; rfl
        have qq2 : ((r.length : Int) == 2) = true := by rw [hm]; rfl
        have qq3 : ((r.length : Int) == 3) = false := by rw [hm]; rfl
        have qq4 : ((r.length : Int) == 4) = false := by rw [hm]; rfl
        obtain rfl := HD.out (by have := HF.out; omega)
        obtain ⟨bb, bk, rfl⟩ := reads_spot HL.out (by omega)
        have p0 : ((0 : Int) < (r.length : Int)) = True := eq_true (by omega)
        have H0 := Aside0.mk (show 0 < r.length by omega)
        have p1 : ((1 : Int) < (r.length : Int)) = True := eq_true (by omega)
        have H1 := Aside0.mk (show 1 < r.length by omega)
        have p0a : (0 < r.length) = True := eq_true (by omega)
        have p0b : (r = []) = False := eq_false (fun e => by rw [e] at hm; simp at hm)
        have N0 := Aside0.mk (show 0 < n' by have := HF.out; omega)
        have N1 := Aside0.mk (show 1 < n' by have := HF.out; omega)
        have N2 := Aside0.mk (show 2 < n' by have := HF.out; omega)
        have N3 := Aside0.mk (show 3 < n' by have := HF.out; omega)
        have HM := Aside0.mk hm
        clear hm
        go_wp2
        have e0 := HE.out.enc.c0
        have s1 : wr.cell? ⟨bb, bk + 1, none⟩ = some (.int .u8 (rd r 1)) := HE.out.src HL.out 1 H1.out
        have EC := Aside0.mk (d3z (HBY.out 1))
        have pa : (0 ≤ Go.bits .or .u8 0 (Go.bits .and .u8 (IntKind.u8.wrap (rd r 1 * 16)) 31)) = True := eq_true (by rw [EC.out]; have := And.intro (HBY.out 1) (And.intro (HBY.out 1) (HBY.out 1)); omega)
        have pb : (Go.bits .or .u8 0 (Go.bits .and .u8 (IntKind.u8.wrap (rd r 1 * 16)) 31) < (alpha_.size : Int)) = True := eq_true (by rw [EC.out, alpha_size]; have := And.intro (HBY.out 1) (And.intro (HBY.out 1) (HBY.out 1)); omega)
        have pc := bt_at alpha_ (Go.bits .or .u8 0 (Go.bits .and .u8 (IntKind.u8.wrap (rd r 1 * 16)) 31))
        have pd : ((3 : Int) < (n' : Int)) = True := eq_true (by have := N3.out; omega)
        obtain ⟨hx, hf⟩ := HE.out.cell (o' + 3) (by (try simp only [List.length_set]); have := HX.out; have := N3.out; omega)
        have HP := HE.out.drew.put (o' + 3) (by (try simp only [List.length_set]); have := HX.out; have := N3.out; omega) (bt alpha_ (rd r 1 % 2 * 16))
        rw [← EC.out] at HP
        go_still_tail 14, (by kernel_rfl)
        change wpList _ _ _ _ _ wr.drew
        go_wp2_with ((with_reducible refine gate_store (t := 5) (p := 203) rfl ?_); refine store_event (t := 5) (p := 203) (v := ?vo_11) (w1 := (wr.drew.setCell ⟨g, o' + 3, none⟩ (.int .u8 (bt alpha_ (Go.bits .or .u8 0 (Go.bits .and .u8 (IntKind.u8.wrap (rd r 1 * 16)) 31)))))) ?hg ?ho ?hn ?hr ?_; (case ho => rfl); (case hg => rfl); (case hn => rfl); (case hr => first | (go_simp; done) | (go_simp; rfl)); intro w1 hw; rw [← hw, EC.out] at HP; clear HE; have HE := Aside0.mk HP; clear HP hw)
        clear e0 s1 EC pa pb pc pd hx hf
        have e0 := HE.out.enc.c0
        have s1 : w1.cell? ⟨bb, bk + 1, none⟩ = some (.int .u8 (rd r 1)) := HE.out.src HL.out 1 H1.out
        have EC := Aside0.mk (d2 (HBY.out 1))
        have pa : (0 ≤ Go.bits .and .u8 (rd r 1 / 2) 31) = True := eq_true (by rw [EC.out]; have := And.intro (HBY.out 1) (And.intro (HBY.out 1) (HBY.out 1)); omega)
        have pb : (Go.bits .and .u8 (rd r 1 / 2) 31 < (alpha_.size : Int)) = True := eq_true (by rw [EC.out, alpha_size]; have := And.intro (HBY.out 1) (And.intro (HBY.out 1) (HBY.out 1)); omega)
        have pc := bt_at alpha_ (Go.bits .and .u8 (rd r 1 / 2) 31)
        have pd : ((2 : Int) < (n' : Int)) = True := eq_true (by have := N2.out; omega)
        obtain ⟨hx, hf⟩ := HE.out.cell (o' + 2) (by (try simp only [List.length_set]); have := HX.out; have := N2.out; omega)
        have HP := HE.out.drew.put (o' + 2) (by (try simp only [List.length_set]); have := HX.out; have := N2.out; omega) (bt alpha_ (rd r 1 / 2 % 32))
        rw [← EC.out] at HP
        go_still_tail 12, (by kernel_rfl)
        change wpList _ _ _ _ _ w1.drew
        go_wp2_with ((with_reducible refine gate_store (t := 5) (p := 215) rfl ?_); refine store_event (t := 5) (p := 215) (v := ?vo_12) (w1 := (w1.drew.setCell ⟨g, o' + 2, none⟩ (.int .u8 (bt alpha_ (Go.bits .and .u8 (rd r 1 / 2) 31))))) ?hg ?ho ?hn ?hr ?_; (case ho => rfl); (case hg => rfl); (case hn => rfl); (case hr => first | (go_simp; done) | (go_simp; rfl)); intro w2 hw; rw [← hw, EC.out] at HP; clear HE; have HE := Aside0.mk HP; clear HP hw; have t1 : w2.cell? ⟨bb, bk + 1, none⟩ = some (.int .u8 (rd r 1)) := HE.out.src HL.out 1 H1.out)
        clear e0 s1 EC pa pb pc pd hx hf t1
        have e0 := HE.out.enc.c0
        have s0 : w2.cell? ⟨bb, bk, none⟩ = some (.int .u8 (rd r 0)) := HE.out.src HL.out 0 H0.out
        have EC := Aside0.mk (d1t (HBY.out 0) (HBY.out 1))
        have pa : (0 ≤ Go.bits .or .u8 (Go.bits .and .u8 (rd r 1 / 64) 31) (Go.bits .and .u8 (IntKind.u8.wrap (rd r 0 * 4)) 31)) = True := eq_true (by rw [EC.out]; have := And.intro (HBY.out 0) (And.intro (HBY.out 1) (HBY.out 0)); omega)
        have pb : (Go.bits .or .u8 (Go.bits .and .u8 (rd r 1 / 64) 31) (Go.bits .and .u8 (IntKind.u8.wrap (rd r 0 * 4)) 31) < (alpha_.size : Int)) = True := eq_true (by rw [EC.out, alpha_size]; have := And.intro (HBY.out 0) (And.intro (HBY.out 1) (HBY.out 0)); omega)
        have pc := bt_at alpha_ (Go.bits .or .u8 (Go.bits .and .u8 (rd r 1 / 64) 31) (Go.bits .and .u8 (IntKind.u8.wrap (rd r 0 * 4)) 31))
        have pd : ((1 : Int) < (n' : Int)) = True := eq_true (by have := N1.out; omega)
        obtain ⟨hx, hf⟩ := HE.out.cell (o' + 1) (by (try simp only [List.length_set]); have := HX.out; have := N1.out; omega)
        have HP := HE.out.drew.put (o' + 1) (by (try simp only [List.length_set]); have := HX.out; have := N1.out; omega) (bt alpha_ (rd r 0 % 8 * 4 + rd r 1 / 64))
        rw [← EC.out] at HP
        go_still_tail 14, (by kernel_rfl)
        change wpList _ _ _ _ _ w2.drew
        go_wp2_with ((with_reducible refine gate_store (t := 5) (p := 234) rfl ?_); refine store_event (t := 5) (p := 234) (v := ?vo_13) (w1 := (w2.drew.setCell ⟨g, o' + 1, none⟩ (.int .u8 (bt alpha_ (Go.bits .or .u8 (Go.bits .and .u8 (rd r 1 / 64) 31) (Go.bits .and .u8 (IntKind.u8.wrap (rd r 0 * 4)) 31)))))) ?hg ?ho ?hn ?hr ?_; (case ho => rfl); (case hg => rfl); (case hn => rfl); (case hr => first | (go_simp; done) | (go_simp; rfl)); intro w3 hw; rw [← hw, EC.out] at HP; clear HE; have HE := Aside0.mk HP; clear HP hw)
        clear e0 s0 EC pa pb pc pd hx hf
        have e0 := HE.out.enc.c0
        have s0 : w3.cell? ⟨bb, bk, none⟩ = some (.int .u8 (rd r 0)) := HE.out.src HL.out 0 H0.out
        have EC := Aside0.mk (d0 (HBY.out 0))
        have pa : (0 ≤ rd r 0 / 8) = True := eq_true (by rw [EC.out]; have := And.intro (HBY.out 0) (And.intro (HBY.out 0) (HBY.out 0)); omega)
        have pb : (rd r 0 / 8 < (alpha_.size : Int)) = True := eq_true (by rw [EC.out, alpha_size]; have := And.intro (HBY.out 0) (And.intro (HBY.out 0) (HBY.out 0)); omega)
        have pc := bt_at alpha_ (rd r 0 / 8)
        have pd : ((0 : Int) < (n' : Int)) = True := eq_true (by have := N0.out; omega)
        obtain ⟨hx, hf⟩ := HE.out.cell (o' + 0) (by (try simp only [List.length_set]); have := HX.out; have := N0.out; omega)
        have HP := HE.out.drew.put (o' + 0) (by (try simp only [List.length_set]); have := HX.out; have := N0.out; omega) (bt alpha_ (rd r 0 / 8))
        have pd2 : (0 < n') = True := eq_true N0.out
        simp only [Nat.add_zero] at hx hf HP
        rw [← EC.out] at HP
        go_still_tail 11, (by kernel_rfl)
        change wpList _ _ _ _ _ w3.drew
        go_wp2_with ((with_reducible refine gate_store (t := 5) (p := 245) rfl ?_); refine store_event (t := 5) (p := 245) (v := ?vo_14) (w1 := (w3.drew.setCell ⟨g, o', none⟩ (.int .u8 (bt alpha_ (rd r 0 / 8))))) ?hg ?ho ?hn ?hr ?_; (case ho => rfl); (case hg => rfl); (case hn => rfl); (case hr => first | (go_simp; done) | (go_simp; rfl)); intro w4 hw; rw [← hw, EC.out] at HP; clear HE; have HE := Aside0.mk HP; clear HP hw; have te := HE.out.enc.c1)
        clear e0 s0 EC pa pb pc pd hx hf pd2
        refine bodyPost_end (results_none rfl _ _ _) rfl ?_
        have e : encT r = [bt alpha_ (rd r 0 / 8), bt alpha_ (rd r 0 % 8 * 4 + rd r 1 / 64), bt alpha_ (rd r 1 / 2 % 32), bt alpha_ (rd r 1 % 2 * 16)] := by unfold encT; rw [if_neg (by rw [HM.out]; decide)]; rw [if_neg (by rw [HM.out]; decide)]; rw [if_pos HM.out]
        have hq := HQ2.out
        rw [e] at hq
        have e2 : putAt xs' o' [bt alpha_ (rd r 0 / 8), bt alpha_ (rd r 0 % 8 * 4 + rd r 1 / 64), bt alpha_ (rd r 1 / 2 % 32), bt alpha_ (rd r 1 % 2 * 16)] = ((((xs'.set (o' + 3) (bt alpha_ (rd r 1 % 2 * 16))).set (o' + 2) (bt alpha_ (rd r 1 / 2 % 32))).set (o' + 1) (bt alpha_ (rd r 0 % 8 * 4 + rd r 1 / 64))).set (o') (bt alpha_ (rd r 0 / 8))) := by
          have := HX.out
          have := N3.out
          repeat rw [putAt_cons _ _ _ _ (by simp only [List.length_cons, List.length_nil]; omega)]
          rw [putAt_nil]
        rw [e2] at hq
        first | exact ⟨_, rfl, hq ▸ HE.out⟩ | exact ⟨⟨_, rfl⟩, hq ▸ HE.out⟩
      · have qq0 : ((r.length : Int) == 0) = false := by rw [hm]; rfl
        have qq1 : ((r.length : Int) == 1) = false := by rw [hm]; rfl
        have qq2 : ((r.length : Int) == 2) = false := by rw [hm]; rfl
        have qq3 : ((r.length : Int) == 3) = true := by rw [hm]; rfl
        have qq4 : ((r.length : Int) == 4) = false := by rw [hm]; rfl
        obtain rfl := HD.out (by have := HF.out; omega)
        obtain ⟨bb, bk, rfl⟩ := reads_spot HL.out (by omega)
        have p0 : ((0 : Int) < (r.length : Int)) = True := eq_true (by omega)
        have H0 := Aside0.mk (show 0 < r.length by omega)
        have p1 : ((1 : Int) < (r.length : Int)) = True := eq_true (by omega)
        have H1 := Aside0.mk (show 1 < r.length by omega)
        have p2 : ((2 : Int) < (r.length : Int)) = True := eq_true (by omega)
        have H2 := Aside0.mk (show 2 < r.length by omega)
        have p0a : (0 < r.length) = True := eq_true (by omega)
        have p0b : (r = []) = False := eq_false (fun e => by rw [e] at hm; simp at hm)
        have N0 := Aside0.mk (show 0 < n' by have := HF.out; omega)
        have N1 := Aside0.mk (show 1 < n' by have := HF.out; omega)
        have N2 := Aside0.mk (show 2 < n' by have := HF.out; omega)
        have N3 := Aside0.mk (show 3 < n' by have := HF.out; omega)
        have N4 := Aside0.mk (show 4 < n' by have := HF.out; omega)
        have HM := Aside0.mk hm
        clear hm
        go_wp2
        have e0 := HE.out.enc.c0
        have s2 : wr.cell? ⟨bb, bk + 2, none⟩ = some (.int .u8 (rd r 2)) := HE.out.src HL.out 2 H2.out
        have EC := Aside0.mk (d4z (HBY.out 2))
        have pa : (0 ≤ Go.bits .or .u8 0 (Go.bits .and .u8 (IntKind.u8.wrap (rd r 2 * 2)) 31)) = True := eq_true (by rw [EC.out]; have := And.intro (HBY.out 2) (And.intro (HBY.out 2) (HBY.out 2)); omega)
        have pb : (Go.bits .or .u8 0 (Go.bits .and .u8 (IntKind.u8.wrap (rd r 2 * 2)) 31) < (alpha_.size : Int)) = True := eq_true (by rw [EC.out, alpha_size]; have := And.intro (HBY.out 2) (And.intro (HBY.out 2) (HBY.out 2)); omega)
        have pc := bt_at alpha_ (Go.bits .or .u8 0 (Go.bits .and .u8 (IntKind.u8.wrap (rd r 2 * 2)) 31))
        have pd : ((4 : Int) < (n' : Int)) = True := eq_true (by have := N4.out; omega)
        obtain ⟨hx, hf⟩ := HE.out.cell (o' + 4) (by (try simp only [List.length_set]); have := HX.out; have := N4.out; omega)
        have HP := HE.out.drew.put (o' + 4) (by (try simp only [List.length_set]); have := HX.out; have := N4.out; omega) (bt alpha_ (rd r 2 % 16 * 2))
        rw [← EC.out] at HP
        go_still_tail 14, (by kernel_rfl)
        change wpList _ _ _ _ _ wr.drew
        go_wp2_with ((with_reducible refine gate_store (t := 5) (p := 184) rfl ?_); refine store_event (t := 5) (p := 184) (v := ?vo_15) (w1 := (wr.drew.setCell ⟨g, o' + 4, none⟩ (.int .u8 (bt alpha_ (Go.bits .or .u8 0 (Go.bits .and .u8 (IntKind.u8.wrap (rd r 2 * 2)) 31)))))) ?hg ?ho ?hn ?hr ?_; (case ho => rfl); (case hg => rfl); (case hn => rfl); (case hr => first | (go_simp; done) | (go_simp; rfl)); intro w1 hw; rw [← hw, EC.out] at HP; clear HE; have HE := Aside0.mk HP; clear HP hw; have t2 : w1.cell? ⟨bb, bk + 2, none⟩ = some (.int .u8 (rd r 2)) := HE.out.src HL.out 2 H2.out)
        clear e0 s2 EC pa pb pc pd hx hf t2
        have e0 := HE.out.enc.c0
        have s1 : w1.cell? ⟨bb, bk + 1, none⟩ = some (.int .u8 (rd r 1)) := HE.out.src HL.out 1 H1.out
        have EC := Aside0.mk (d3t (HBY.out 1) (HBY.out 2))
        have pa : (0 ≤ Go.bits .or .u8 (Go.bits .and .u8 (rd r 2 / 16) 31) (Go.bits .and .u8 (IntKind.u8.wrap (rd r 1 * 16)) 31)) = True := eq_true (by rw [EC.out]; have := And.intro (HBY.out 1) (And.intro (HBY.out 2) (HBY.out 1)); omega)
        have pb : (Go.bits .or .u8 (Go.bits .and .u8 (rd r 2 / 16) 31) (Go.bits .and .u8 (IntKind.u8.wrap (rd r 1 * 16)) 31) < (alpha_.size : Int)) = True := eq_true (by rw [EC.out, alpha_size]; have := And.intro (HBY.out 1) (And.intro (HBY.out 2) (HBY.out 1)); omega)
        have pc := bt_at alpha_ (Go.bits .or .u8 (Go.bits .and .u8 (rd r 2 / 16) 31) (Go.bits .and .u8 (IntKind.u8.wrap (rd r 1 * 16)) 31))
        have pd : ((3 : Int) < (n' : Int)) = True := eq_true (by have := N3.out; omega)
        obtain ⟨hx, hf⟩ := HE.out.cell (o' + 3) (by (try simp only [List.length_set]); have := HX.out; have := N3.out; omega)
        have HP := HE.out.drew.put (o' + 3) (by (try simp only [List.length_set]); have := HX.out; have := N3.out; omega) (bt alpha_ (rd r 1 % 2 * 16 + rd r 2 / 16))
        rw [← EC.out] at HP
        go_still_tail 14, (by kernel_rfl)
        change wpList _ _ _ _ _ w1.drew
        go_wp2_with ((with_reducible refine gate_store (t := 5) (p := 203) rfl ?_); refine store_event (t := 5) (p := 203) (v := ?vo_16) (w1 := (w1.drew.setCell ⟨g, o' + 3, none⟩ (.int .u8 (bt alpha_ (Go.bits .or .u8 (Go.bits .and .u8 (rd r 2 / 16) 31) (Go.bits .and .u8 (IntKind.u8.wrap (rd r 1 * 16)) 31)))))) ?hg ?ho ?hn ?hr ?_; (case ho => rfl); (case hg => rfl); (case hn => rfl); (case hr => first | (go_simp; done) | (go_simp; rfl)); intro w2 hw; rw [← hw, EC.out] at HP; clear HE; have HE := Aside0.mk HP; clear HP hw)
        clear e0 s1 EC pa pb pc pd hx hf
        have e0 := HE.out.enc.c0
        have s1 : w2.cell? ⟨bb, bk + 1, none⟩ = some (.int .u8 (rd r 1)) := HE.out.src HL.out 1 H1.out
        have EC := Aside0.mk (d2 (HBY.out 1))
        have pa : (0 ≤ Go.bits .and .u8 (rd r 1 / 2) 31) = True := eq_true (by rw [EC.out]; have := And.intro (HBY.out 1) (And.intro (HBY.out 1) (HBY.out 1)); omega)
        have pb : (Go.bits .and .u8 (rd r 1 / 2) 31 < (alpha_.size : Int)) = True := eq_true (by rw [EC.out, alpha_size]; have := And.intro (HBY.out 1) (And.intro (HBY.out 1) (HBY.out 1)); omega)
        have pc := bt_at alpha_ (Go.bits .and .u8 (rd r 1 / 2) 31)
        have pd : ((2 : Int) < (n' : Int)) = True := eq_true (by have := N2.out; omega)
        obtain ⟨hx, hf⟩ := HE.out.cell (o' + 2) (by (try simp only [List.length_set]); have := HX.out; have := N2.out; omega)
        have HP := HE.out.drew.put (o' + 2) (by (try simp only [List.length_set]); have := HX.out; have := N2.out; omega) (bt alpha_ (rd r 1 / 2 % 32))
        rw [← EC.out] at HP
        go_still_tail 12, (by kernel_rfl)
        change wpList _ _ _ _ _ w2.drew
        go_wp2_with ((with_reducible refine gate_store (t := 5) (p := 215) rfl ?_); refine store_event (t := 5) (p := 215) (v := ?vo_17) (w1 := (w2.drew.setCell ⟨g, o' + 2, none⟩ (.int .u8 (bt alpha_ (Go.bits .and .u8 (rd r 1 / 2) 31))))) ?hg ?ho ?hn ?hr ?_; (case ho => rfl); (case hg => rfl); (case hn => rfl); (case hr => first | (go_simp; done) | (go_simp; rfl)); intro w3 hw; rw [← hw, EC.out] at HP; clear HE; have HE := Aside0.mk HP; clear HP hw; have t1 : w3.cell? ⟨bb, bk + 1, none⟩ = some (.int .u8 (rd r 1)) := HE.out.src HL.out 1 H1.out)
        clear e0 s1 EC pa pb pc pd hx hf t1
        have e0 := HE.out.enc.c0
        have s0 : w3.cell? ⟨bb, bk, none⟩ = some (.int .u8 (rd r 0)) := HE.out.src HL.out 0 H0.out
        have EC := Aside0.mk (d1t (HBY.out 0) (HBY.out 1))
        have pa : (0 ≤ Go.bits .or .u8 (Go.bits .and .u8 (rd r 1 / 64) 31) (Go.bits .and .u8 (IntKind.u8.wrap (rd r 0 * 4)) 31)) = True := eq_true (by rw [EC.out]; have := And.intro (HBY.out 0) (And.intro (HBY.out 1) (HBY.out 0)); omega)
        have pb : (Go.bits .or .u8 (Go.bits .and .u8 (rd r 1 / 64) 31) (Go.bits .and .u8 (IntKind.u8.wrap (rd r 0 * 4)) 31) < (alpha_.size : Int)) = True := eq_true (by rw [EC.out, alpha_size]; have := And.intro (HBY.out 0) (And.intro (HBY.out 1) (HBY.out 0)); omega)
        have pc := bt_at alpha_ (Go.bits .or .u8 (Go.bits .and .u8 (rd r 1 / 64) 31) (Go.bits .and .u8 (IntKind.u8.wrap (rd r 0 * 4)) 31))
        have pd : ((1 : Int) < (n' : Int)) = True := eq_true (by have := N1.out; omega)
        obtain ⟨hx, hf⟩ := HE.out.cell (o' + 1) (by (try simp only [List.length_set]); have := HX.out; have := N1.out; omega)
        have HP := HE.out.drew.put (o' + 1) (by (try simp only [List.length_set]); have := HX.out; have := N1.out; omega) (bt alpha_ (rd r 0 % 8 * 4 + rd r 1 / 64))
        rw [← EC.out] at HP
        go_still_tail 14, (by kernel_rfl)
        change wpList _ _ _ _ _ w3.drew
        go_wp2_with ((with_reducible refine gate_store (t := 5) (p := 234) rfl ?_); refine store_event (t := 5) (p := 234) (v := ?vo_18) (w1 := (w3.drew.setCell ⟨g, o' + 1, none⟩ (.int .u8 (bt alpha_ (Go.bits .or .u8 (Go.bits .and .u8 (rd r 1 / 64) 31) (Go.bits .and .u8 (IntKind.u8.wrap (rd r 0 * 4)) 31)))))) ?hg ?ho ?hn ?hr ?_; (case ho => rfl); (case hg => rfl); (case hn => rfl); (case hr => first | (go_simp; done) | (go_simp; rfl)); intro w4 hw; rw [← hw, EC.out] at HP; clear HE; have HE := Aside0.mk HP; clear HP hw)
        clear e0 s0 EC pa pb pc pd hx hf
        have e0 := HE.out.enc.c0
        have s0 : w4.cell? ⟨bb, bk, none⟩ = some (.int .u8 (rd r 0)) := HE.out.src HL.out 0 H0.out
        have EC := Aside0.mk (d0 (HBY.out 0))
        have pa : (0 ≤ rd r 0 / 8) = True := eq_true (by rw [EC.out]; have := And.intro (HBY.out 0) (And.intro (HBY.out 0) (HBY.out 0)); omega)
        have pb : (rd r 0 / 8 < (alpha_.size : Int)) = True := eq_true (by rw [EC.out, alpha_size]; have := And.intro (HBY.out 0) (And.intro (HBY.out 0) (HBY.out 0)); omega)
        have pc := bt_at alpha_ (rd r 0 / 8)
        have pd : ((0 : Int) < (n' : Int)) = True := eq_true (by have := N0.out; omega)
        obtain ⟨hx, hf⟩ := HE.out.cell (o' + 0) (by (try simp only [List.length_set]); have := HX.out; have := N0.out; omega)
        have HP := HE.out.drew.put (o' + 0) (by (try simp only [List.length_set]); have := HX.out; have := N0.out; omega) (bt alpha_ (rd r 0 / 8))
        have pd2 : (0 < n') = True := eq_true N0.out
        simp only [Nat.add_zero] at hx hf HP
        rw [← EC.out] at HP
        go_still_tail 11, (by kernel_rfl)
        change wpList _ _ _ _ _ w4.drew
        go_wp2_with ((with_reducible refine gate_store (t := 5) (p := 245) rfl ?_); refine store_event (t := 5) (p := 245) (v := ?vo_19) (w1 := (w4.drew.setCell ⟨g, o', none⟩ (.int .u8 (bt alpha_ (rd r 0 / 8))))) ?hg ?ho ?hn ?hr ?_; (case ho => rfl); (case hg => rfl); (case hn => rfl); (case hr => first | (go_simp; done) | (go_simp; rfl)); intro w5 hw; rw [← hw, EC.out] at HP; clear HE; have HE := Aside0.mk HP; clear HP hw; have te := HE.out.enc.c1)
        clear e0 s0 EC pa pb pc pd hx hf pd2
        refine bodyPost_end (results_none rfl _ _ _) rfl ?_
        have e : encT r = [bt alpha_ (rd r 0 / 8), bt alpha_ (rd r 0 % 8 * 4 + rd r 1 / 64), bt alpha_ (rd r 1 / 2 % 32), bt alpha_ (rd r 1 % 2 * 16 + rd r 2 / 16), bt alpha_ (rd r 2 % 16 * 2)] := by unfold encT; rw [if_neg (by rw [HM.out]; decide)]; rw [if_pos HM.out]
        have hq := HQ2.out
        rw [e] at hq
        have e2 : putAt xs' o' [bt alpha_ (rd r 0 / 8), bt alpha_ (rd r 0 % 8 * 4 + rd r 1 / 64), bt alpha_ (rd r 1 / 2 % 32), bt alpha_ (rd r 1 % 2 * 16 + rd r 2 / 16), bt alpha_ (rd r 2 % 16 * 2)] = (((((xs'.set (o' + 4) (bt alpha_ (rd r 2 % 16 * 2))).set (o' + 3) (bt alpha_ (rd r 1 % 2 * 16 + rd r 2 / 16))).set (o' + 2) (bt alpha_ (rd r 1 / 2 % 32))).set (o' + 1) (bt alpha_ (rd r 0 % 8 * 4 + rd r 1 / 64))).set (o') (bt alpha_ (rd r 0 / 8))) := by
          have := HX.out
          have := N4.out
          repeat rw [putAt_cons _ _ _ _ (by simp only [List.length_cons, List.length_nil]; omega)]
          rw [putAt_nil]
        rw [e2] at hq
        first | exact ⟨_, rfl, hq ▸ HE.out⟩ | exact ⟨⟨_, rfl⟩, hq ▸ HE.out⟩
      · have qq0 : ((r.length : Int) == 0) = false := by rw [hm]; rfl
        have qq1 : ((r.length : Int) == 1) = false := by rw [hm]; rfl
        have qq2 : ((r.length : Int) == 2) = false := by rw [hm]; rfl
        have qq3 : ((r.length : Int) == 3) = false := by rw [hm]; rfl
        have qq4 : ((r.length : Int) == 4) = true := by rw [hm]; rfl
        obtain rfl := HD.out (by have := HF.out; omega)
        obtain ⟨bb, bk, rfl⟩ := reads_spot HL.out (by omega)
        have p0 : ((0 : Int) < (r.length : Int)) = True := eq_true (by omega)
        have H0 := Aside0.mk (show 0 < r.length by omega)
        have p1 : ((1 : Int) < (r.length : Int)) = True := eq_true (by omega)
        have H1 := Aside0.mk (show 1 < r.length by omega)
        have p2 : ((2 : Int) < (r.length : Int)) = True := eq_true (by omega)
        have H2 := Aside0.mk (show 2 < r.length by omega)
        have p3 : ((3 : Int) < (r.length : Int)) = True := eq_true (by omega)
        have H3 := Aside0.mk (show 3 < r.length by omega)
        have p0a : (0 < r.length) = True := eq_true (by omega)
        have p0b : (r = []) = False := eq_false (fun e => by rw [e] at hm; simp at hm)
        have N0 := Aside0.mk (show 0 < n' by have := HF.out; omega)
        have N1 := Aside0.mk (show 1 < n' by have := HF.out; omega)
        have N2 := Aside0.mk (show 2 < n' by have := HF.out; omega)
        have N3 := Aside0.mk (show 3 < n' by have := HF.out; omega)
        have N4 := Aside0.mk (show 4 < n' by have := HF.out; omega)
        have N5 := Aside0.mk (show 5 < n' by have := HF.out; omega)
        have N6 := Aside0.mk (show 6 < n' by have := HF.out; omega)
        have HM := Aside0.mk hm
        clear hm
        go_wp2
        have e0 := HE.out.enc.c0
        have s3 : wr.cell? ⟨bb, bk + 3, none⟩ = some (.int .u8 (rd r 3)) := HE.out.src HL.out 3 H3.out
        have EC := Aside0.mk (d6z (HBY.out 3))
        have pa : (0 ≤ Go.bits .and .u8 (IntKind.u8.wrap (rd r 3 * 8)) 31) = True := eq_true (by rw [EC.out]; have := And.intro (HBY.out 3) (And.intro (HBY.out 3) (HBY.out 3)); omega)
        have pb : (Go.bits .and .u8 (IntKind.u8.wrap (rd r 3 * 8)) 31 < (alpha_.size : Int)) = True := eq_true (by rw [EC.out, alpha_size]; have := And.intro (HBY.out 3) (And.intro (HBY.out 3) (HBY.out 3)); omega)
        have pc := bt_at alpha_ (Go.bits .and .u8 (IntKind.u8.wrap (rd r 3 * 8)) 31)
        have pd : ((6 : Int) < (n' : Int)) = True := eq_true (by have := N6.out; omega)
        obtain ⟨hx, hf⟩ := HE.out.cell (o' + 6) (by (try simp only [List.length_set]); have := HX.out; have := N6.out; omega)
        have HP := HE.out.drew.put (o' + 6) (by (try simp only [List.length_set]); have := HX.out; have := N6.out; omega) (bt alpha_ (rd r 3 % 4 * 8))
        rw [← EC.out] at HP
        go_still_tail 12, (by kernel_rfl)
        change wpList _ _ _ _ _ wr.drew
        go_wp2_with ((with_reducible refine gate_store (t := 5) (p := 154) rfl ?_); refine store_event (t := 5) (p := 154) (v := ?vo_20) (w1 := (wr.drew.setCell ⟨g, o' + 6, none⟩ (.int .u8 (bt alpha_ (Go.bits .and .u8 (IntKind.u8.wrap (rd r 3 * 8)) 31))))) ?hg ?ho ?hn ?hr ?_; (case ho => rfl); (case hg => rfl); (case hn => rfl); (case hr => first | (go_simp; done) | (go_simp; rfl)); intro w1 hw; rw [← hw, EC.out] at HP; clear HE; have HE := Aside0.mk HP; clear HP hw)
        clear e0 s3 EC pa pb pc pd hx hf
        have e0 := HE.out.enc.c0
        have s3 : w1.cell? ⟨bb, bk + 3, none⟩ = some (.int .u8 (rd r 3)) := HE.out.src HL.out 3 H3.out
        have EC := Aside0.mk (d5 (HBY.out 3))
        have pa : (0 ≤ Go.bits .and .u8 (rd r 3 / 4) 31) = True := eq_true (by rw [EC.out]; have := And.intro (HBY.out 3) (And.intro (HBY.out 3) (HBY.out 3)); omega)
        have pb : (Go.bits .and .u8 (rd r 3 / 4) 31 < (alpha_.size : Int)) = True := eq_true (by rw [EC.out, alpha_size]; have := And.intro (HBY.out 3) (And.intro (HBY.out 3) (HBY.out 3)); omega)
        have pc := bt_at alpha_ (Go.bits .and .u8 (rd r 3 / 4) 31)
        have pd : ((5 : Int) < (n' : Int)) = True := eq_true (by have := N5.out; omega)
        obtain ⟨hx, hf⟩ := HE.out.cell (o' + 5) (by (try simp only [List.length_set]); have := HX.out; have := N5.out; omega)
        have HP := HE.out.drew.put (o' + 5) (by (try simp only [List.length_set]); have := HX.out; have := N5.out; omega) (bt alpha_ (rd r 3 / 4 % 32))
        rw [← EC.out] at HP
        go_still_tail 12, (by kernel_rfl)
        change wpList _ _ _ _ _ w1.drew
        go_wp2_with ((with_reducible refine gate_store (t := 5) (p := 166) rfl ?_); refine store_event (t := 5) (p := 166) (v := ?vo_21) (w1 := (w1.drew.setCell ⟨g, o' + 5, none⟩ (.int .u8 (bt alpha_ (Go.bits .and .u8 (rd r 3 / 4) 31))))) ?hg ?ho ?hn ?hr ?_; (case ho => rfl); (case hg => rfl); (case hn => rfl); (case hr => first | (go_simp; done) | (go_simp; rfl)); intro w2 hw; rw [← hw, EC.out] at HP; clear HE; have HE := Aside0.mk HP; clear HP hw; have t3 : w2.cell? ⟨bb, bk + 3, none⟩ = some (.int .u8 (rd r 3)) := HE.out.src HL.out 3 H3.out)
        clear e0 s3 EC pa pb pc pd hx hf t3
        have e0 := HE.out.enc.c0
        have s2 : w2.cell? ⟨bb, bk + 2, none⟩ = some (.int .u8 (rd r 2)) := HE.out.src HL.out 2 H2.out
        have EC := Aside0.mk (d4 (HBY.out 2) (HBY.out 3))
        have pa : (0 ≤ Go.bits .or .u8 (rd r 3 / 128) (Go.bits .and .u8 (IntKind.u8.wrap (rd r 2 * 2)) 31)) = True := eq_true (by rw [EC.out]; have := And.intro (HBY.out 2) (And.intro (HBY.out 3) (HBY.out 2)); omega)
        have pb : (Go.bits .or .u8 (rd r 3 / 128) (Go.bits .and .u8 (IntKind.u8.wrap (rd r 2 * 2)) 31) < (alpha_.size : Int)) = True := eq_true (by rw [EC.out, alpha_size]; have := And.intro (HBY.out 2) (And.intro (HBY.out 3) (HBY.out 2)); omega)
        have pc := bt_at alpha_ (Go.bits .or .u8 (rd r 3 / 128) (Go.bits .and .u8 (IntKind.u8.wrap (rd r 2 * 2)) 31))
        have pd : ((4 : Int) < (n' : Int)) = True := eq_true (by have := N4.out; omega)
        obtain ⟨hx, hf⟩ := HE.out.cell (o' + 4) (by (try simp only [List.length_set]); have := HX.out; have := N4.out; omega)
        have HP := HE.out.drew.put (o' + 4) (by (try simp only [List.length_set]); have := HX.out; have := N4.out; omega) (bt alpha_ (rd r 2 % 16 * 2 + rd r 3 / 128))
        rw [← EC.out] at HP
        go_still_tail 14, (by kernel_rfl)
        change wpList _ _ _ _ _ w2.drew
        go_wp2_with ((with_reducible refine gate_store (t := 5) (p := 184) rfl ?_); refine store_event (t := 5) (p := 184) (v := ?vo_22) (w1 := (w2.drew.setCell ⟨g, o' + 4, none⟩ (.int .u8 (bt alpha_ (Go.bits .or .u8 (rd r 3 / 128) (Go.bits .and .u8 (IntKind.u8.wrap (rd r 2 * 2)) 31)))))) ?hg ?ho ?hn ?hr ?_; (case ho => rfl); (case hg => rfl); (case hn => rfl); (case hr => first | (go_simp; done) | (go_simp; rfl)); intro w3 hw; rw [← hw, EC.out] at HP; clear HE; have HE := Aside0.mk HP; clear HP hw; have t2 : w3.cell? ⟨bb, bk + 2, none⟩ = some (.int .u8 (rd r 2)) := HE.out.src HL.out 2 H2.out)
        clear e0 s2 EC pa pb pc pd hx hf t2
        have e0 := HE.out.enc.c0
        have s1 : w3.cell? ⟨bb, bk + 1, none⟩ = some (.int .u8 (rd r 1)) := HE.out.src HL.out 1 H1.out
        have EC := Aside0.mk (d3t (HBY.out 1) (HBY.out 2))
        have pa : (0 ≤ Go.bits .or .u8 (Go.bits .and .u8 (rd r 2 / 16) 31) (Go.bits .and .u8 (IntKind.u8.wrap (rd r 1 * 16)) 31)) = True := eq_true (by rw [EC.out]; have := And.intro (HBY.out 1) (And.intro (HBY.out 2) (HBY.out 1)); omega)
        have pb : (Go.bits .or .u8 (Go.bits .and .u8 (rd r 2 / 16) 31) (Go.bits .and .u8 (IntKind.u8.wrap (rd r 1 * 16)) 31) < (alpha_.size : Int)) = True := eq_true (by rw [EC.out, alpha_size]; have := And.intro (HBY.out 1) (And.intro (HBY.out 2) (HBY.out 1)); omega)
        have pc := bt_at alpha_ (Go.bits .or .u8 (Go.bits .and .u8 (rd r 2 / 16) 31) (Go.bits .and .u8 (IntKind.u8.wrap (rd r 1 * 16)) 31))
        have pd : ((3 : Int) < (n' : Int)) = True := eq_true (by have := N3.out; omega)
        obtain ⟨hx, hf⟩ := HE.out.cell (o' + 3) (by (try simp only [List.length_set]); have := HX.out; have := N3.out; omega)
        have HP := HE.out.drew.put (o' + 3) (by (try simp only [List.length_set]); have := HX.out; have := N3.out; omega) (bt alpha_ (rd r 1 % 2 * 16 + rd r 2 / 16))
        rw [← EC.out] at HP
        go_still_tail 14, (by kernel_rfl)
        change wpList _ _ _ _ _ w3.drew
        go_wp2_with ((with_reducible refine gate_store (t := 5) (p := 203) rfl ?_); refine store_event (t := 5) (p := 203) (v := ?vo_23) (w1 := (w3.drew.setCell ⟨g, o' + 3, none⟩ (.int .u8 (bt alpha_ (Go.bits .or .u8 (Go.bits .and .u8 (rd r 2 / 16) 31) (Go.bits .and .u8 (IntKind.u8.wrap (rd r 1 * 16)) 31)))))) ?hg ?ho ?hn ?hr ?_; (case ho => rfl); (case hg => rfl); (case hn => rfl); (case hr => first | (go_simp; done) | (go_simp; rfl)); intro w4 hw; rw [← hw, EC.out] at HP; clear HE; have HE := Aside0.mk HP; clear HP hw)
        clear e0 s1 EC pa pb pc pd hx hf
        have e0 := HE.out.enc.c0
        have s1 : w4.cell? ⟨bb, bk + 1, none⟩ = some (.int .u8 (rd r 1)) := HE.out.src HL.out 1 H1.out
        have EC := Aside0.mk (d2 (HBY.out 1))
        have pa : (0 ≤ Go.bits .and .u8 (rd r 1 / 2) 31) = True := eq_true (by rw [EC.out]; have := And.intro (HBY.out 1) (And.intro (HBY.out 1) (HBY.out 1)); omega)
        have pb : (Go.bits .and .u8 (rd r 1 / 2) 31 < (alpha_.size : Int)) = True := eq_true (by rw [EC.out, alpha_size]; have := And.intro (HBY.out 1) (And.intro (HBY.out 1) (HBY.out 1)); omega)
        have pc := bt_at alpha_ (Go.bits .and .u8 (rd r 1 / 2) 31)
        have pd : ((2 : Int) < (n' : Int)) = True := eq_true (by have := N2.out; omega)
        obtain ⟨hx, hf⟩ := HE.out.cell (o' + 2) (by (try simp only [List.length_set]); have := HX.out; have := N2.out; omega)
        have HP := HE.out.drew.put (o' + 2) (by (try simp only [List.length_set]); have := HX.out; have := N2.out; omega) (bt alpha_ (rd r 1 / 2 % 32))
        rw [← EC.out] at HP
        go_still_tail 12, (by kernel_rfl)
        change wpList _ _ _ _ _ w4.drew
        go_wp2_with ((with_reducible refine gate_store (t := 5) (p := 215) rfl ?_); refine store_event (t := 5) (p := 215) (v := ?vo_24) (w1 := (w4.drew.setCell ⟨g, o' + 2, none⟩ (.int .u8 (bt alpha_ (Go.bits .and .u8 (rd r 1 / 2) 31))))) ?hg ?ho ?hn ?hr ?_; (case ho => rfl); (case hg => rfl); (case hn => rfl); (case hr => first | (go_simp; done) | (go_simp; rfl)); intro w5 hw; rw [← hw, EC.out] at HP; clear HE; have HE := Aside0.mk HP; clear HP hw; have t1 : w5.cell? ⟨bb, bk + 1, none⟩ = some (.int .u8 (rd r 1)) := HE.out.src HL.out 1 H1.out)
        clear e0 s1 EC pa pb pc pd hx hf t1
        have e0 := HE.out.enc.c0
        have s0 : w5.cell? ⟨bb, bk, none⟩ = some (.int .u8 (rd r 0)) := HE.out.src HL.out 0 H0.out
        have EC := Aside0.mk (d1t (HBY.out 0) (HBY.out 1))
        have pa : (0 ≤ Go.bits .or .u8 (Go.bits .and .u8 (rd r 1 / 64) 31) (Go.bits .and .u8 (IntKind.u8.wrap (rd r 0 * 4)) 31)) = True := eq_true (by rw [EC.out]; have := And.intro (HBY.out 0) (And.intro (HBY.out 1) (HBY.out 0)); omega)
        have pb : (Go.bits .or .u8 (Go.bits .and .u8 (rd r 1 / 64) 31) (Go.bits .and .u8 (IntKind.u8.wrap (rd r 0 * 4)) 31) < (alpha_.size : Int)) = True := eq_true (by rw [EC.out, alpha_size]; have := And.intro (HBY.out 0) (And.intro (HBY.out 1) (HBY.out 0)); omega)
        have pc := bt_at alpha_ (Go.bits .or .u8 (Go.bits .and .u8 (rd r 1 / 64) 31) (Go.bits .and .u8 (IntKind.u8.wrap (rd r 0 * 4)) 31))
        have pd : ((1 : Int) < (n' : Int)) = True := eq_true (by have := N1.out; omega)
        obtain ⟨hx, hf⟩ := HE.out.cell (o' + 1) (by (try simp only [List.length_set]); have := HX.out; have := N1.out; omega)
        have HP := HE.out.drew.put (o' + 1) (by (try simp only [List.length_set]); have := HX.out; have := N1.out; omega) (bt alpha_ (rd r 0 % 8 * 4 + rd r 1 / 64))
        rw [← EC.out] at HP
        go_still_tail 14, (by kernel_rfl)
        change wpList _ _ _ _ _ w5.drew
        go_wp2_with ((with_reducible refine gate_store (t := 5) (p := 234) rfl ?_); refine store_event (t := 5) (p := 234) (v := ?vo_25) (w1 := (w5.drew.setCell ⟨g, o' + 1, none⟩ (.int .u8 (bt alpha_ (Go.bits .or .u8 (Go.bits .and .u8 (rd r 1 / 64) 31) (Go.bits .and .u8 (IntKind.u8.wrap (rd r 0 * 4)) 31)))))) ?hg ?ho ?hn ?hr ?_; (case ho => rfl); (case hg => rfl); (case hn => rfl); (case hr => first | (go_simp; done) | (go_simp; rfl)); intro w6 hw; rw [← hw, EC.out] at HP; clear HE; have HE := Aside0.mk HP; clear HP hw)
        clear e0 s0 EC pa pb pc pd hx hf
        have e0 := HE.out.enc.c0
        have s0 : w6.cell? ⟨bb, bk, none⟩ = some (.int .u8 (rd r 0)) := HE.out.src HL.out 0 H0.out
        have EC := Aside0.mk (d0 (HBY.out 0))
        have pa : (0 ≤ rd r 0 / 8) = True := eq_true (by rw [EC.out]; have := And.intro (HBY.out 0) (And.intro (HBY.out 0) (HBY.out 0)); omega)
        have pb : (rd r 0 / 8 < (alpha_.size : Int)) = True := eq_true (by rw [EC.out, alpha_size]; have := And.intro (HBY.out 0) (And.intro (HBY.out 0) (HBY.out 0)); omega)
        have pc := bt_at alpha_ (rd r 0 / 8)
        have pd : ((0 : Int) < (n' : Int)) = True := eq_true (by have := N0.out; omega)
        obtain ⟨hx, hf⟩ := HE.out.cell (o' + 0) (by (try simp only [List.length_set]); have := HX.out; have := N0.out; omega)
        have HP := HE.out.drew.put (o' + 0) (by (try simp only [List.length_set]); have := HX.out; have := N0.out; omega) (bt alpha_ (rd r 0 / 8))
        have pd2 : (0 < n') = True := eq_true N0.out
        simp only [Nat.add_zero] at hx hf HP
        rw [← EC.out] at HP
        go_still_tail 11, (by kernel_rfl)
        change wpList _ _ _ _ _ w6.drew
        go_wp2_with ((with_reducible refine gate_store (t := 5) (p := 245) rfl ?_); refine store_event (t := 5) (p := 245) (v := ?vo_26) (w1 := (w6.drew.setCell ⟨g, o', none⟩ (.int .u8 (bt alpha_ (rd r 0 / 8))))) ?hg ?ho ?hn ?hr ?_; (case ho => rfl); (case hg => rfl); (case hn => rfl); (case hr => first | (go_simp; done) | (go_simp; rfl)); intro w7 hw; rw [← hw, EC.out] at HP; clear HE; have HE := Aside0.mk HP; clear HP hw; have te := HE.out.enc.c1)
        clear e0 s0 EC pa pb pc pd hx hf pd2
        refine bodyPost_end (results_none rfl _ _ _) rfl ?_
        have e : encT r = [bt alpha_ (rd r 0 / 8), bt alpha_ (rd r 0 % 8 * 4 + rd r 1 / 64), bt alpha_ (rd r 1 / 2 % 32), bt alpha_ (rd r 1 % 2 * 16 + rd r 2 / 16), bt alpha_ (rd r 2 % 16 * 2 + rd r 3 / 128), bt alpha_ (rd r 3 / 4 % 32), bt alpha_ (rd r 3 % 4 * 8)] := by unfold encT; rw [if_pos HM.out]
        have hq := HQ2.out
        rw [e] at hq
        have e2 : putAt xs' o' [bt alpha_ (rd r 0 / 8), bt alpha_ (rd r 0 % 8 * 4 + rd r 1 / 64), bt alpha_ (rd r 1 / 2 % 32), bt alpha_ (rd r 1 % 2 * 16 + rd r 2 / 16), bt alpha_ (rd r 2 % 16 * 2 + rd r 3 / 128), bt alpha_ (rd r 3 / 4 % 32), bt alpha_ (rd r 3 % 4 * 8)] = (((((((xs'.set (o' + 6) (bt alpha_ (rd r 3 % 4 * 8))).set (o' + 5) (bt alpha_ (rd r 3 / 4 % 32))).set (o' + 4) (bt alpha_ (rd r 2 % 16 * 2 + rd r 3 / 128))).set (o' + 3) (bt alpha_ (rd r 1 % 2 * 16 + rd r 2 / 16))).set (o' + 2) (bt alpha_ (rd r 1 / 2 % 32))).set (o' + 1) (bt alpha_ (rd r 0 % 8 * 4 + rd r 1 / 64))).set (o') (bt alpha_ (rd r 0 / 8))) := by
          have := HX.out
          have := N6.out
          repeat rw [putAt_cons _ _ _ _ (by simp only [List.length_cons, List.length_nil]; omega)]
          rw [putAt_nil]
        rw [e2] at hq
        first | exact ⟨_, rfl, hq ▸ HE.out⟩ | exact ⟨⟨_, rfl⟩, hq ▸ HE.out⟩
end Go.Proofs.YtbmeegkgcipmoaaL
