/- What laws.changes makes of numbers. -/
import Derived.Test.YtnhnlodmkbiiiaaDoorD1
namespace Go.Proofs.YtnhnlodmkbiiiaaDoor.HandDif
open Go Go.RowKit Go.Proofs.YtnhnlodmkbiiiaaDoorL Go.Proofs.YtnhnlodmkbiiiaaDoorW.PrintWords Go.Proofs.YtnhnlodmkbiiiaaDoorW.PrintLast Go.Proofs.YtnhnlodmkbiiiaaDoorW.PrintMore Go.Proofs.YtnhnlodmkbiiiaaDoor.PDif
attribute [local go_sem] max2_int min2_int max_two min_two max_three min_three max_four min_four
set_option linter.unusedVariables false
set_option linter.unusedSimpArgs false
theorem info78 : (Tryd.prog.info? 78).map (fun i => (i.zero, i.size, i.bytes)) = some (some (.agg #[.int .i64 0, .string ⟨#[]⟩, .slice none 0 0, .slice none 0 0]), 4, 72) := by kernel_rfl
theorem chg_elem {w W W1 : World} {v2 v3 : Value} {x : S78} (h2 : Kd.R (Kd.int .u8) 5 W W1.heap.size (fun _ => True) v2 x.f2) (h3 : Kd.R (Kd.int .u8) 5 W W1.heap.size (fun _ => True) v3 x.f3) (hw : w.heap.size ≤ W1.heap.size) : k78.M W w.heap.size (fun k => W1.heap.size ≤ k) x [.int .i64 x.f0, .string x.f1, v2, v3] :=
  k78_mkM _ _ _ x (Kd.R_lower (Kd.R_mono (Kd.R_bound h2) (fun k hk => hk.2.1)) hw) (Kd.R_lower (Kd.R_mono (Kd.R_bound h3) (fun k hk => hk.2.1)) hw)
/-- Changes, by numbers. -/
def chgs (l : List Int) : List S78 := l.map fun x => chg x.toNat
theorem chgs_next (l : List Int) (j : Nat) (hj : j < l.length) : chgs (l.take (j + 1)) = chgs (l.take j) ++ [chg (rd l (j : Int)).toNat] := by
  unfold chgs
  rw [List.take_succ_eq_append_getElem hj, List.map_append]
  unfold rd
  rw [Int.toNat_natCast, List.getD_eq_getElem?_getD, List.getElem?_eq_getElem hj]
  rfl
set_option maxHeartbeats 16000000 in
set_option maxRecDepth 100000 in
theorem changes_calls (w : World) (A : Option Addr) (c : Nat) (l : List Int) (hC : Kd.C (Kd.int .u16) w A l.length l) (hl : l.length ≤ 1000000) (hb : ∀ x ∈ l, 0 ≤ x ∧ x < 65536) :
    Calls Tryd.prog 39 #[.slice A l.length c] w fun e w' => ∃ v, e = .returned v ∧ Kd.R k78 78 w' w.heap.size (fun _ => True) v (chgs l) ∧ Below w.heap.size w w' := by
  have HC := Aside0.mk hC
  have HL := Aside0.mk hl
  have HBD := Aside0.mk hb
  have I78 := Aside0.mk info78
  clear hC hl hb
  go_enter Tryd.func39, Tryd.ntmps39
  go_wp2_with fail
  go_loopg [3, 8] l.length (fun kq v3 v8 w' => ∃ i : Int, v8 = .int .i64 i ∧ Aside0 (∃ j : Nat, i = (j : Int) ∧ j + kq = l.length ∧ Below w.heap.size w w' ∧ Kd.R k78 78 w' w.heap.size (fun _ => True) v3 (chgs (l.take j))))
  case atStart => exact ⟨0, rfl, ⟨0, rfl, by omega, Below.refl _ _, Kd.R_nil _ _ _ _ _⟩⟩
  case round =>
    obtain ⟨i, rfl, HJ⟩ := hrel
    by_cases hi : i < (l.length : Int)
    · have q0 : decide (i < (l.length : Int)) = true := decide_eq_true hi
      obtain ⟨j, hij, hjk, hB, hR⟩ := HJ.out
      have hjl : j < l.length := by omega
      obtain ⟨ad, eA, hx⟩ := Kd.at_int (Kd.C_below HC.out hB) i (by omega) hi
      subst eA
      obtain ⟨x, hxx⟩ : ∃ x, x = rd l i := ⟨_, rfl⟩
      rw [← hxx] at hx
      have hxm : x ∈ l := by rw [hxx, hij]; unfold rd; rw [Int.toNat_natCast, List.getD_eq_getElem?_getD, List.getElem?_eq_getElem hjl]; exact List.getElem_mem _
      obtain ⟨n, hn⟩ : ∃ n : Nat, x = (n : Int) := ⟨x.toNat, by have := HBD.out x hxm; omega⟩
      have hxb := HBD.out x hxm
      subst hn
      have HNB := Aside0.mk (show n < 65536 by omega)
      have HNX := Aside0.mk (show chgs (l.take (j + 1)) = chgs (l.take j) ++ [chg n] by rw [chgs_next l j hjl, ← hij, ← hxx]; rfl)
      obtain ⟨A3, c3, e3⟩ := Kd.R_slice hR
      obtain ⟨ls, hls⟩ : ∃ ls, ls = chgs (l.take j) := ⟨_, rfl⟩
      rw [← hls] at hR e3 HNX
      have HLS := Aside0.mk (show ls.length ≤ 1000000 by rw [hls]; unfold chgs; rw [List.length_map, List.length_take]; have := HL.out; omega)
      subst e3
      have HB := Aside0.mk hB
      have HR := Aside0.mk hR
      have hi0 : ((0 : Int) ≤ i) = True := eq_true (by omega)
      have hi1 : (i < (l.length : Int)) = True := eq_true hi
      obtain ⟨i1, hi1e⟩ : ∃ y : Int, wrap64 (i + 1) = y := ⟨_, rfl⟩
      have hi1w : IntKind.i64.wrap (i + 1) = i1 := (i64_w _).trans hi1e
      have HI1 := Aside0.mk (show i1 = ((j + 1 : Nat) : Int) by have := HL.out; rw [← hi1e]; unfold wrap64; omega)
      have HJ2 := Aside0.mk (show j + gk = l.length ∧ j < l.length from ⟨hjk, hjl⟩)
      clear hij hjk hjl hi HJ hB hR hxm hxb hls hxx
      go_wp2_with (first
        | (go_at_call 79; refine (change_calls n HNB.out _).mono ?_; rintro e w2 ⟨v2, v3, rfl, h2, h3, hb⟩; obtain ⟨A2, k2, rfl⟩ := Kd.R_slice h2; obtain ⟨A9, k9, rfl⟩ := Kd.R_slice h3; have HR2 := Aside0.mk h2; have HR3 := Aside0.mk h3; have HB2 := Aside0.mk (below_step HB.out hb); have HRS := Aside0.mk (Kd.R_below HR.out hb); have HWR := Aside0.mk HB.out.size; have HLT := Aside0.mk (Kd.R_lt HR.out); clear h2 h3 hb)
        | (at_builtin; refine Kd.R_append k78 (w0 := w) w.heap.size rfl (.tmp 12) (.tmp 15) 71 78 (.agg #[.int .i64 0, .string ⟨#[]⟩, .slice none 0 0, .slice none 0 0]) 72 rfl Tryd.underlying71 I78.out rfl (by decide) (by decide) (.slice A3 ls.length c3) ls (chg n) [.int .i64 (chg n).f0, .string (chg n).f1, .slice A2 (chg n).f2.length k2, .slice A9 (chg n).f3.length k9] (fun _ => True) (fun k => wr.heap.size ≤ k) rfl rfl (chg_elem HR2.out HR3.out HWR.out) (fun k hk => ⟨trivial, fun e => by have := HLT.out k e.symm; omega⟩) (fun _ _ => trivial) HRS.out HB2.out HB2.out.size (by have := HLS.out; omega) ?_; intro v1 wz hR hb hg hat; have HFR := Aside0.mk hR; have HFB := Aside0.mk hb; clear hR hb hg hat))
      go_roundg (gk - 1)
      case measure => have := HJ2.out; omega
      case rel =>
        refine ⟨i1, rfl, ⟨j + 1, HI1.out, by have := HJ2.out; omega, HFB.out, ?_⟩⟩
        rw [HNX.out]
        exact HFR.out
    · have q0 : decide (i < (l.length : Int)) = false := decide_eq_false hi
      obtain ⟨j, hij, hjk, hB, hR⟩ := HJ.out
      have hje : j = l.length := by omega
      rw [hje, List.take_length] at hR
      have HR := Aside0.mk hR
      have HB := Aside0.mk hB
      clear hij hjk hje hB hR HJ hi
      go_wp2_with fail
      go_ret
      exact ⟨_, rfl, HR.out, HB.out⟩
end Go.Proofs.YtnhnlodmkbiiiaaDoor.HandDif
