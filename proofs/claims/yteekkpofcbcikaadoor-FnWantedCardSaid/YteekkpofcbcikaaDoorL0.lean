/- impl.Wanted. -/
import Derived.Test.YteekkpofcbcikaaDoorK3
namespace Go.Proofs.YteekkpofcbcikaaDoor.HandWan
open Go Go.RowKit Go.Proofs.YteekkpofcbcikaaDoorL Go.Proofs.YteekkpofcbcikaaDoorW.PrintWords Go.Proofs.YteekkpofcbcikaaDoorW.PrintLast Go.Proofs.YteekkpofcbcikaaDoorW.PrintMore Go.Proofs.YteekkpofcbcikaaDoor.PWan
attribute [local go_sem] max2_int min2_int max_two min_two max_three min_three max_four min_four
set_option linter.unusedVariables false
set_option linter.unusedSimpArgs false
theorem rd31_eq (l : List S31) (j : Nat) (hj : j < l.length) : rd_T31 l (j : Int) = l[j] := by
  unfold rd_T31
  rw [Int.toNat_natCast, List.getD_eq_getElem?_getD, List.getElem?_eq_getElem hj]
  rfl
theorem rdS_eq (l : List ByteArray) (j : Nat) (hj : j < l.length) : rdOf ByteArray.empty l (j : Int) = l[j] := by
  unfold rdOf
  rw [Int.toNat_natCast, List.getD_eq_getElem?_getD, List.getElem?_eq_getElem hj]
  rfl
theorem foldl_take_ {α β : Type} (f : β → α → β) (b : β) (l : List α) (j : Nat) (hj : j < l.length) : (l.take (j + 1)).foldl f b = f ((l.take j).foldl f b) l[j] := by
  rw [List.take_succ_eq_append_getElem hj, List.foldl_append]
  rfl
theorem info9s : (Tryd.prog.info? 9).map (fun i => (i.zero, i.size, i.bytes)) = some (some (.string ⟨#[]⟩), 1, 16) := by kernel_rfl
set_option maxHeartbeats 32000000 in
set_option maxRecDepth 100000 in
theorem wanted_calls (w : World) (A : Option Addr) (c : Nat) (l : List S31) (hC : Kd.C k31 w A l.length l) (hl : l.length ≤ 200) (hx : ∀ x ∈ l, OkW x) :
    Calls Tryd.prog 10 #[.slice A l.length c] w fun e w' => ∃ v, e = .returned v ∧ Kd.R k36 36 w' w.heap.size (fun _ => True) v (wRun (sortN (ded l)) st0 l) ∧ Below w.heap.size w w' := by
  have HC := Aside0.mk hC
  have HL := Aside0.mk hl
  have HX := Aside0.mk hx
  clear hC hl hx
  go_enter Tryd.func10, Tryd.ntmps10
  go_wp2_with (go_at_call 32; refine (new_calls w).mono ?_; rintro e w1 ⟨rfl, hw, hb⟩; have HW1 := Aside0.mk hw; have HB1 := Aside0.mk hb; clear hw hb)
  obtain ⟨g, hg⟩ : ∃ g, g = w.heap.size + 1 := ⟨_, rfl⟩
  obtain ⟨b, hb⟩ : ∃ b, b = w.heap.size := ⟨_, rfl⟩
  have HGB : Aside0 (w.heap.size ≤ g ∧ w.heap.size ≤ b) := ⟨by omega⟩
  rw [← hg, ← hb] at HW1
  rw [← hg]
  clear hg hb
  go_loopg [25, 4] l.length (fun kq v25 v4 w' => ∃ i : Int, v25 = .int .i64 i ∧ Aside0 (∃ j : Nat, i = (j : Int) ∧ j + kq = l.length ∧ Below w1.heap.size w1 w' ∧ Kd.R Kd.string 9 w' w1.heap.size (fun _ => True) v4 (ded (l.take j))))
  case atStart => exact ⟨0, rfl, ⟨0, rfl, by omega, Below.refl _ _, Kd.R_nil _ _ _ _ _⟩⟩
  case round =>
    obtain ⟨i, rfl, HJ⟩ := hrel
    by_cases hi : i < (l.length : Int)
    · have q0 : decide (i < (l.length : Int)) = true := decide_eq_true hi
      obtain ⟨j, hij, hjk, hB, hR⟩ := HJ.out
      have hjl : j < l.length := by omega
      have hi0 : ((0 : Int) ≤ i) = True := eq_true (by omega)
      have hi1 : (i < (l.length : Int)) = True := eq_true (by omega)
      obtain ⟨ad, A1, c1, eA, hx0, hx1, hx2, hx3, hl1, hr1⟩ := at_T31 (Kd.C_below HC.out (below_step HB1.out hB)) i (by omega) (by omega)
      subst eA
      rw [show rd_T31 l i = l[j] by rw [hij, rd31_eq l j hjl]] at hx0 hx1 hx2 hx3 hl1 hr1
      obtain ⟨x, hxx⟩ : ∃ x, x = l[j] := ⟨_, rfl⟩
      rw [← hxx] at hx0 hx1 hx2 hx3 hl1 hr1
      have HNX : Aside0 (ded (l.take (j + 1)) = insN (ded (l.take j)) x) := ⟨by unfold ded; rw [foldl_take_ _ _ _ _ hjl, ← hxx]⟩
      obtain ⟨ns, hns⟩ : ∃ ns, ns = ded (l.take j) := ⟨_, rfl⟩
      have HPL := Aside0.mk (show ns.length ≤ 200 by rw [hns]; have h1 := ded_len (l.take j) []; have := HL.out; unfold ded; rw [List.length_take] at h1; simp only [List.length_nil] at h1; omega)
      rw [← hns] at hR HNX
      obtain ⟨A4, c4, e4⟩ := Kd.R_slice hR
      subst e4
      have HB := Aside0.mk hB
      have HR := Aside0.mk hR
      have HL1 := Aside0.mk hl1
      have HR1 := Aside0.mk hr1
      obtain ⟨i1, hi1e⟩ : ∃ y : Int, wrap64 (i + 1) = y := ⟨_, rfl⟩
      have hi1w : IntKind.i64.wrap (i + 1) = i1 := (i64_w _).trans hi1e
      have HI1 := Aside0.mk (show i1 = ((j + 1 : Nat) : Int) by have := HL.out; rw [← hi1e]; unfold wrap64; omega)
      have HJ2 := Aside0.mk (show j + gk = l.length ∧ j < l.length from ⟨hjk, hjl⟩)
      clear hij hjk hjl hi HJ hB hR hxx hns hl1 hr1
      go_upto_region 6 with fail
      obtain ⟨wx, hwx⟩ : ∃ wx, wx = wr.alloc (.cells #[.int .i64 x.f0, .slice A1 x.f1.f0.length c1, .int .i32 x.f1.f1, .bool x.f1.f2] 31) := ⟨_, rfl⟩
      rw [← hwx]
      obtain ⟨gx, hgx⟩ : ∃ gx, gx = wr.heap.size := ⟨_, rfl⟩
      rw [← hgx]
      have HBX : Aside0 (Below wr.heap.size wr wx) := ⟨by rw [hwx]; exact below_alloc (Below.refl _ _) _⟩
      have hbx : wx.heap[gx]? = some (.cells #[.int .i64 x.f0, .slice A1 x.f1.f0.length c1, .int .i32 x.f1.f1, .bool x.f1.f2] 31 (0, 0)) := by rw [hgx, hwx]; exact blk_new wr _
      have hy1 : wx.cell? ⟨gx, 1, none⟩ = some (.slice A1 x.f1.f0.length c1) := (blk_cell hbx 1).trans rfl
      have hconv : (convert 24 9 (.slice A1 x.f1.f0.length c1)).run Tryd.prog wx = .ok (.string (nm x)) wx := Kd.C_string Tryd.underlying24 Tryd.underlying5 Tryd.underlying9 (Kd.C_below HR1.out HBX.out)
      have HBWX := Aside0.mk (below_step HB.out HBX.out)
      have HRX := Aside0.mk (Kd.R_below HR.out HBX.out)
      by_cases hm : nm x ∈ ns
      · have HF : Aside0 (slices_Contains_string_string.f (ns.length + 1) ns (nm x) = some true) := ⟨by rw [contains_f ns (nm x) (by have := HPL.out; omega), decide_eq_true hm]⟩
        have HIN : Aside0 (insN ns x = ns) := ⟨by unfold insN; rw [if_pos hm]⟩
        clear hwx hgx hbx hx0 hx1 hx2 hx3 hm
        go_wp2_with (go_at_call 33; refine (slices_Contains_string_string.calls (ns.length + 1) A4 c4 ns (nm x) true wx (Kd.R_reads' HRX.out).2.2 (Kd.R_reads' HRX.out).2.1 HF.out).mono ?_; rintro e w4 ⟨rfl, hd⟩; have HBX4 := Aside0.mk hd.below; clear hd)
        go_roundg (gk - 1)
        case measure => have := HJ2.out; omega
        case rel =>
          refine ⟨i1, rfl, ⟨j + 1, HI1.out, by have := HJ2.out; omega, below_step HBWX.out HBX4.out, ?_⟩⟩
          rw [HNX.out, HIN.out]
          exact Kd.R_below HRX.out HBX4.out
      · have HF : Aside0 (slices_Contains_string_string.f (ns.length + 1) ns (nm x) = some false) := ⟨by rw [contains_f ns (nm x) (by have := HPL.out; omega), decide_eq_false hm]⟩
        have HIN : Aside0 (insN ns x = ns ++ [nm x]) := ⟨by unfold insN; rw [if_neg hm]⟩
        clear hwx hgx hbx hx0 hx1 hx2 hx3 hm
        go_wp2_with (first
          | (at_builtin; refine Kd.R_append Kd.string (w0 := w1) w1.heap.size rfl (.tmp 37) (.tmp 39) 77 9 (.string ⟨#[]⟩) 16 rfl Tryd.underlying77 info9s rfl (by decide) (by decide) (.slice A4 ns.length c4) ns (nm x) [.string (nm x)] (fun _ => True) (fun _ => False) rfl rfl rfl (fun _ hk => hk.elim) (fun _ _ => trivial) (Kd.R_below HRX.out HBX4.out) (below_step HBWX.out HBX4.out) (below_step HBWX.out HBX4.out).size (by have := HPL.out; omega) ?_; intro v1 wz hR hb hg hat; have HFR := Aside0.mk hR; have HFB := Aside0.mk hb; clear hR hb hg hat)
          | (go_at_call 33; refine (slices_Contains_string_string.calls (ns.length + 1) A4 c4 ns (nm x) false wx (Kd.R_reads' HRX.out).2.2 (Kd.R_reads' HRX.out).2.1 HF.out).mono ?_; rintro e w4 ⟨rfl, hd⟩; have HBX4 := Aside0.mk hd.below; clear hd))
        go_roundg (gk - 1)
        case measure => have := HJ2.out; omega
        case rel =>
          refine ⟨i1, rfl, ⟨j + 1, HI1.out, by have := HJ2.out; omega, HFB.out, ?_⟩⟩
          rw [HNX.out, HIN.out]
          exact HFR.out
    · have q0 : decide (i < (l.length : Int)) = false := decide_eq_false hi
      obtain ⟨j, hij, hjk, hB, hR⟩ := HJ.out
      have hje : j = l.length := by omega
      rw [hje, List.take_length] at hR
      obtain ⟨wk, hwk⟩ : ∃ wk, wk = wr := ⟨_, rfl⟩
      rw [← hwk] at hB hR ⊢
      obtain ⟨ns0, hns0⟩ : ∃ ns, ns = ded l := ⟨_, rfl⟩
      rw [← hns0] at hR
      have HPL := Aside0.mk (show ns0.length ≤ 200 by rw [hns0]; have h1 := ded_len l []; have := HL.out; unfold ded; simp only [List.length_nil] at h1; omega)
      have HNM := Aside0.mk (show ∀ s ∈ ns0, ∃ x ∈ l, s = nm x by rw [hns0]; intro s hs; exact (ded_mem l [] s hs).elim (fun h => by cases h) id)
      obtain ⟨A4, c4, e4⟩ := Kd.R_slice hR
      subst e4
      have HBk := Aside0.mk hB
      have HRk := Aside0.mk hR
      have HNS0 := Aside0.mk hns0
      clear hij hjk hje hB hR HJ hi hwk hns0
      go_upto_region 11 with (go_at_call 34; refine (sort_calls wk w1.heap.size (.slice A4 ns0.length c4) ns0 HRk.out (by have := HPL.out; omega)).mono ?_; rintro e w5 ⟨rfl, hR, hgr⟩; have HR5 := Aside0.mk hR; have HB15 := Aside0.mk (Below.grown HBk.out hgr HBk.out.size (Kd.R_base HRk.out)); clear hR hgr)
      obtain ⟨ns, hns⟩ : ∃ ns, ns = sortN ns0 := ⟨_, rfl⟩
      have hnl : ns.length = ns0.length := by rw [hns, sortN_len]
      have HNL := Aside0.mk (show ns.length ≤ 200 by have := HPL.out; omega)
      have HNS := Aside0.mk (show ns = sortN (ded l) by rw [hns, HNS0.out])
      have HNM2 := Aside0.mk (show ∀ s ∈ ns, ∃ x ∈ l, s = nm x by rw [hns]; intro s hs; exact HNM.out s ((sortN_mem ns0 s).1 hs))
      rw [← hns, ← hnl] at HR5
      rw [← hnl]
      have HW5 := Aside0.mk (HW1.out.below HB15.out)
      have HB5 := Aside0.mk (below_step HB1.out HB15.out)
      clear q0 hns hnl HRk HBk HPL HNM HNS0 HW1 HB1 HB15
      go_wp2_with fail
      go_loopg [46, 8] l.length (fun kq v46 v8 w' => ∃ i : Int, v46 = .int .i64 i ∧ Aside0 (∃ j : Nat, i = (j : Int) ∧ j + kq = l.length ∧ Frm w5 w' g b ∧ WL w' g b j ((l.take j).foldl wS st0).f ((l.take j).foldl wS st0).c ∧ Kd.R k36 36 w' w5.heap.size (fun _ => True) v8 (wRun ns st0 (l.take j))))
      case atStart => exact ⟨0, rfl, ⟨0, rfl, by omega, Frm.refl _ _ _, HW5.out, Kd.R_nil _ _ _ _ _⟩⟩
      case round =>
        obtain ⟨i, rfl, HJ⟩ := hrel
        by_cases hi : i < (l.length : Int)
        · have q0 : decide (i < (l.length : Int)) = true := decide_eq_true hi
          obtain ⟨j, hij, hjk, hF, hW, hR⟩ := HJ.out
          have hjl : j < l.length := by omega
          have hi0 : ((0 : Int) ≤ i) = True := eq_true (by omega)
          have hi1 : (i < (l.length : Int)) = True := eq_true (by omega)
          have hBr : Below w.heap.size w wr := HB5.out.trans (hF.below (B := w.heap.size) HGB.out.1 HGB.out.2 HB5.out.size)
          obtain ⟨ad, A1, c1, eA, hx0, hx1, hx2, hx3, hl1, hr1⟩ := at_T31 (Kd.C_below HC.out hBr) i (by omega) (by omega)
          subst eA
          rw [show rd_T31 l i = l[j] by rw [hij, rd31_eq l j hjl]] at hx0 hx1 hx2 hx3 hl1 hr1
          obtain ⟨x, hxx⟩ : ∃ x, x = l[j] := ⟨_, rfl⟩
          rw [← hxx] at hx0 hx1 hx2 hx3 hl1 hr1
          have HOK := Aside0.mk (HX.out x (by rw [hxx]; exact List.getElem_mem hjl))
          obtain ⟨st, hst⟩ : ∃ st, st = (l.take j).foldl wS st0 := ⟨_, rfl⟩
          have HST := Aside0.mk (show (l.take (j + 1)).foldl wS st0 = wS st x by rw [foldl_take_ _ _ _ _ hjl, ← hxx, ← hst])
          have HRN := Aside0.mk (show wRun ns st0 (l.take (j + 1)) = wRun ns st0 (l.take j) ++ [wTold ns st x] by rw [List.take_succ_eq_append_getElem hjl, wRun_snoc, ← hst, ← hxx])
          rw [← hst] at hW
          obtain ⟨out, hout⟩ : ∃ out, out = wRun ns st0 (l.take j) := ⟨_, rfl⟩
          have HOL := Aside0.mk (show out.length ≤ 200 by rw [hout, wRun_len, List.length_take]; have := HL.out; omega)
          rw [← hout] at hR HRN
          obtain ⟨A8, c8, e8⟩ := Kd.R_slice hR
          subst e8
          have HF := Aside0.mk hF
          have HW := Aside0.mk hW
          have HR := Aside0.mk hR
          have HL1 := Aside0.mk hl1
          have HR1 := Aside0.mk hr1
          have HSZ := Aside0.mk (show (nm x).size ≤ maxLen by rw [HOK.out.size]; have := HOK.out.len; simp only [maxLen]; omega)
          have HJM := Aside0.mk (show j < maxLen by have := HL.out; simp only [maxLen]; omega)
          have HWT : Aside0 (impl_wantType.f x.f1.f2 = some (ht x.f1.f2)) := ⟨by unfold impl_wantType.f ht; cases x.f1.f2 <;> rfl⟩
          have HCL : Aside0 (bytes_Clone.f x.f1.f0 = some x.f1.f0) := ⟨by unfold bytes_Clone.f; rw [if_pos (by have := HOK.out.len; omega)]⟩
          have HCA : Aside0 (gocid_Cast.f 100 x.f1.f0 = some (nm x, none)) := ⟨HOK.out.cast⟩
          obtain ⟨i1, hi1e⟩ : ∃ y : Int, wrap64 (i + 1) = y := ⟨_, rfl⟩
          have hi1w : IntKind.i64.wrap (i + 1) = i1 := (i64_w _).trans hi1e
          have HI1 := Aside0.mk (show i1 = ((j + 1 : Nat) : Int) by have := HL.out; rw [← hi1e]; unfold wrap64; omega)
          have HJ2 := Aside0.mk (show j + gk = l.length ∧ j < l.length from ⟨hjk, hjl⟩)
          clear hij hjk hjl hi HJ hF hW hR hxx hst hout hl1 hr1 hBr
          go_upto_region 16 with fail
          obtain ⟨wa, hwa⟩ : ∃ wa, wa = (wr.alloc (.cells #[.int .i64 x.f0, .slice A1 x.f1.f0.length c1, .int .i32 x.f1.f1, .bool x.f1.f2] 31)).alloc (.cells #[.bool false, .slice none 0 0, .int .i32 0, .bool false, .int .i64 0, .slice none 0 0] 36) := ⟨_, rfl⟩
          rw [← hwa]
          have HBa : Aside0 (Below wr.heap.size wr wa) := ⟨by rw [hwa]; exact below_alloc (below_alloc (Below.refl _ _) _) _⟩
          have hbx : wa.heap[wr.heap.size]? = some (.cells #[.int .i64 x.f0, .slice A1 x.f1.f0.length c1, .int .i32 x.f1.f1, .bool x.f1.f2] 31 (0, 0)) := by rw [hwa]; exact blk_alloc (blk_new wr _) _
          have hbt : wa.heap[wr.heap.size + 1]? = some (.cells TT0 36 (0, 0)) := by
            have := blk_new (wr.alloc (.cells #[.int .i64 x.f0, .slice A1 x.f1.f0.length c1, .int .i32 x.f1.f1, .bool x.f1.f2] 31)) (.cells TT0 36)
            rw [hwa]
            rwa [show (wr.alloc (.cells #[.int .i64 x.f0, .slice A1 x.f1.f0.length c1, .int .i32 x.f1.f1, .bool x.f1.f2] 31)).heap.size = wr.heap.size + 1 from Array.size_push ..] at this
          have hy1 : wa.cell? ⟨wr.heap.size, 1, none⟩ = some (.slice A1 x.f1.f0.length c1) := (blk_cell hbx 1).trans rfl
          obtain ⟨gx, hgx⟩ : ∃ gx, gx = wr.heap.size := ⟨_, rfl⟩
          obtain ⟨gt, hgt⟩ : ∃ gt, gt = wr.heap.size + 1 := ⟨_, rfl⟩
          have HG := Aside0.mk (And.intro hgx hgt)
          rw [← hgt] at hbt
          rw [← hgx] at hbx hy1
          rw [← hgt, ← hgx]
          have HBX := Aside0.mk hbx
          have HBT := Aside0.mk hbt
          clear hwa hgx hgt hbx hbt hx0 hx1 hx2 hx3
          go_upto_if 59 with (first
            | (go_at_call 35; refine (gocid_Cast.calls 100 Aa ca x.f1.f0 (nm x) none _ (Kd.R_reads' HRa.out).2.2 (Kd.R_reads' HRa.out).2.1 HCA.out).mono ?_; rintro e wc ⟨eT, eX, rfl, hb⟩; have HBc := Aside0.mk (below_step HBb.out hb); have HBX3 := Aside0.mk ((hb.block _ (blk_lt HBX2.out)).trans HBX2.out); have HBT3 := Aside0.mk ((hb.block _ (blk_lt HBT2.out)).trans HBT2.out); clear hb; simp only [errV_none])
            | (go_at_call 23; refine (bytes_Clone.calls A1 c1 x.f1.f0 x.f1.f0 wa (Kd.C_below HR1.out HBa.out) HL1.out HCL.out).mono ?_; rintro e wb ⟨va, rfl, hR, hb⟩; obtain ⟨Aa, ca, rfl⟩ := Kd.R_slice hR; have HRa := Aside0.mk hR; have HBb := Aside0.mk (below_step HBa.out hb); have HBX2 := Aside0.mk ((hb.block _ (blk_lt HBX.out)).trans HBX.out); have HBT2 := Aside0.mk ((hb.block _ (blk_lt HBT.out)).trans HBT.out); clear hR hb))
          obtain ⟨wd, hwd⟩ : ∃ wd, wd = wc.alloc (.cells #[.string (nm x)] 81) := ⟨_, rfl⟩
          obtain ⟨gc, hgc⟩ : ∃ gc, gc = wc.heap.size := ⟨_, rfl⟩
          rw [← hwd, ← hgc]
          have HBd : Aside0 (Below wr.heap.size wr wd) := ⟨by rw [hwd]; exact below_alloc HBc.out _⟩
          have HTB : Aside0 (TB wr wd g b j st.f st.c gx gt gc x A1 c1 TT0) := ⟨⟨HW.out.below HBd.out, Frm.of_below HBd.out g b, by rw [hwd]; exact blk_alloc HBX3.out _, by rw [hwd]; exact blk_alloc HBT3.out _, by rw [hwd, hgc]; exact blk_new wc _, by
            have h1 := blk_lt HW.out.blk
            have h2 := HW.out.map.lt
            have h3 := HG.out
            have h4 := HBc.out.size
            have h5 := blk_lt HBX3.out
            have h6 := blk_lt HBT3.out
            refine ⟨⟨?_, ?_, ?_⟩, ⟨?_, ?_, ?_⟩, ?_, ?_, ?_⟩ <;> omega⟩⟩
          clear hwd hgc hy1 HBa HBX HBT HBX2 HBT2 HBX3 HBT3 HBb HBc HRa HG
          go_cut [3] (fun v3 we => v3 = .pointer (some ⟨g, 0, none⟩) ∧ Aside0 (∃ Ae ce, TB wr we g b (j + 1) (wS st x).f (wS st x).c gx gt gc x A1 c1 (TT (wB st x) (.slice Ae (wE st x).f0.length ce) (wE st x).f1 (wE st x).f2 0 (.slice none 0 0)) ∧ Kd.R (Kd.int .u8) 5 we wr.heap.size (fun _ => True) (.slice Ae (wE st x).f0.length ce) (wE st x).f0))
          case first =>
            have hb0 := (blk_cell HTB.out.bx 0).trans rfl
            by_cases hk : x.f0 = 0
            · have eB : wB st x = addB st.f (nm x) (ht x.f1.f2) := by unfold wB; rw [if_pos hk]
              have eS : wS st x = ⟨addF st.f (nm x) x.f1.f1 (ht x.f1.f2), addC st.f (nm x) (ht x.f1.f2) st.c⟩ := by unfold wS; rw [if_pos hk]
              have eE : wE st x = z27 := by unfold wE; rw [if_neg (by omega)]
              have HEB := Aside0.mk (And.intro eB (And.intro eS eE))
              have k0 : (x.f0 == 0) = true := beq_iff_eq.mpr hk
              clear eB eS eE hk
              go_upto_region 20 with fail
              have HTBd : Aside0 (TB wr wd.drew g b j st.f st.c gx gt gc x A1 c1 TT0) := ⟨HTB.out.below (below_drew (Below.refl _ _))⟩
              have hs0 : wd.drew.cell? ⟨gc, 0, none⟩ = some (.string (nm x)) := (blk_cell HTBd.out.bc 0).trans rfl
              have hs1 : wd.drew.cell? ⟨gx, 2, none⟩ = some (.int .i32 x.f1.f1) := (blk_cell HTBd.out.bx 2).trans rfl
              have hs2 : wd.drew.cell? ⟨gx, 3, none⟩ = some (.bool x.f1.f2) := (blk_cell HTBd.out.bx 3).trans rfl
              refine start_ (n := 12) (S := fun w' => w'.cell? ⟨gc, 0, none⟩ = some (.string (nm x)) ∧ w'.cell? ⟨gx, 2, none⟩ = some (.int .i32 x.f1.f1) ∧ w'.cell? ⟨gx, 3, none⟩ = some (.bool x.f1.f2)) (ds := [11]) #[false, false, false, false, false, false, false, false, false, false, false, false] (by kernel_rfl) rfl rfl ⟨hs0, hs1, hs2⟩ (fun hHeld => ?_)
              refine pure_ (i := 0) (N := some 64) (v := ?_) (a' := ?_) #[true, false, false, false, false, false, false, false, false, false, false, false] rfl rfl (by kernel_rfl) (fun _ _ _ h => h) (Or.inl ⟨by rfl, ?_⟩) ?_ ?_
              rotate_left
              · intro w'
                go_simp
                with_reducible rfl
              rotate_left
              · simp only [Act.put, List.setIfInBounds_toArray, List.set_cons_zero, List.set_cons_succ, i64_w, i32_w]
                rfl
              refine pure_ (i := 2) (N := some 66) (v := ?_) (a' := ?_) #[true, false, true, false, false, false, false, false, false, false, false, false] rfl rfl (by kernel_rfl) (fun _ _ _ h => h) (Or.inl ⟨by rfl, ?_⟩) ?_ ?_
              rotate_left
              · intro w'
                go_simp
                with_reducible rfl
              rotate_left
              · simp only [Act.put, List.setIfInBounds_toArray, List.set_cons_zero, List.set_cons_succ, i64_w, i32_w]
                rfl
              refine pure_ (i := 3) (N := some 67) (v := ?_) (a' := ?_) #[true, false, true, true, false, false, false, false, false, false, false, false] rfl rfl (by kernel_rfl) (fun _ _ _ h => h) (Or.inl ⟨by rfl, ?_⟩) ?_ ?_
              rotate_left
              · intro w'
                go_simp
                with_reducible rfl
              rotate_left
              · simp only [Act.put, List.setIfInBounds_toArray, List.set_cons_zero, List.set_cons_succ, i64_w, i32_w]
                rfl
              refine pure_ (i := 5) (N := some 69) (v := ?_) (a' := ?_) #[true, false, true, true, false, true, false, false, false, false, false, false] rfl rfl (by kernel_rfl) (fun _ _ _ h => h) (Or.inl ⟨by rfl, ?_⟩) ?_ ?_
              rotate_left
              · intro w'
                go_simp
                with_reducible rfl
              rotate_left
              · simp only [Act.put, List.setIfInBounds_toArray, List.set_cons_zero, List.set_cons_succ, i64_w, i32_w]
                rfl
              refine pure_ (i := 6) (N := some 70) (v := ?_) (a' := ?_) #[true, false, true, true, false, true, true, false, false, false, false, false] rfl rfl (by kernel_rfl) (fun _ _ _ h => h) (Or.inl ⟨by rfl, ?_⟩) ?_ ?_
              rotate_left
              · intro w'
                go_simp
                with_reducible rfl
              rotate_left
              · simp only [Act.put, List.setIfInBounds_toArray, List.set_cons_zero, List.set_cons_succ, i64_w, i32_w]
                rfl
              refine take_ (i := 1) (N := some 65) (v := ?_) (a' := ?_) #[true, true, true, true, false, true, true, false, false, false, false, false] rfl rfl (by kernel_rfl) (fun _ _ _ h => h) (Or.inl ⟨by rfl, ?_⟩) hHeld ?_ ?_
              rotate_left
              · rintro w' ⟨s0, s1, s2⟩
                go_simp
                with_reducible rfl
              rotate_left
              · simp only [Act.put, List.setIfInBounds_toArray, List.set_cons_zero, List.set_cons_succ, i64_w, i32_w]
                rfl
              refine take_ (i := 4) (N := some 68) (v := ?_) (a' := ?_) #[true, true, true, true, true, true, true, false, false, false, false, false] rfl rfl (by kernel_rfl) (fun _ _ _ h => h) (Or.inl ⟨by rfl, ?_⟩) hHeld ?_ ?_
              rotate_left
              · rintro w' ⟨s0, s1, s2⟩
                go_simp
                with_reducible rfl
              rotate_left
              · simp only [Act.put, List.setIfInBounds_toArray, List.set_cons_zero, List.set_cons_succ, i64_w, i32_w]
                rfl
              refine take_ (i := 7) (N := some 71) (v := ?_) (a' := ?_) #[true, true, true, true, true, true, true, true, false, false, false, false] rfl rfl (by kernel_rfl) (fun _ _ _ h => h) (Or.inl ⟨by rfl, ?_⟩) hHeld ?_ ?_
              rotate_left
              · rintro w' ⟨s0, s1, s2⟩
                go_simp
                with_reducible rfl
              rotate_left
              · simp only [Act.put, List.setIfInBounds_toArray, List.set_cons_zero, List.set_cons_succ, i64_w, i32_w]
                rfl
              refine one_ (i := 8) (N := some 72) #[true, true, true, true, true, true, true, true, true, false, false, false] rfl rfl (by kernel_rfl) (by decide) (fun K hK => ?_)
              refine goes_ Tryd.func37 (by kernel_rfl) rfl #[.bool x.f1.f2] (by rfl) rfl rfl (by simp only [List.map_toArray, List.map_cons, List.map_nil]; rfl) ?_
              with_reducible refine (impl_wantType.calls x.f1.f2 (ht x.f1.f2) wd.drew HWT.out).mono ?_
              rintro e w2 ⟨rfl, hd⟩
              have HTB2 := Aside0.mk (HTBd.out.below hd.below)
              clear hd
              refine ⟨_, rfl, ?_⟩
              refine hK.out _ _ ⟨(blk_cell HTB2.out.bc 0).trans rfl, (blk_cell HTB2.out.bx 2).trans rfl, (blk_cell HTB2.out.bx 3).trans rfl⟩ (fun hHeld => ?_)
              clear hK K
              refine norm_ (a' := ?_) ?_ ?_
              rotate_left
              · show Act.put _ (some 72) _ = _
                simp only [Act.put, List.setIfInBounds_toArray, List.set_cons_zero, List.set_cons_succ, i64_w, i32_w]
                rfl
              refine one_ (i := 9) (N := some 73) #[true, true, true, true, true, true, true, true, true, true, false, false] rfl rfl (by kernel_rfl) (by decide) (fun K hK => ?_)
              refine goes_ Tryd.func36 (by kernel_rfl) rfl #[.pointer (some ⟨g, 0, none⟩), .agg #[.string (nm x)], .int .i32 x.f1.f1, .int .i32 (ht x.f1.f2)] (by rfl) rfl rfl (by simp only [List.map_toArray, List.map_cons, List.map_nil]; rfl) ?_
              with_reducible refine (add_calls w2 g b j st.c st.f HTB2.out.wl HJM.out (nm x) HSZ.out x.f1.f1 (ht x.f1.f2)).mono ?_
              rintro e w3 ⟨rfl, hw, hf⟩
              have HTB3 := Aside0.mk (HTB2.out.call hw hf)
              have ht0 := (blk_cell HTB3.out.bt 0).trans rfl
              have htf := blk_frozen HTB3.out.bt 0
              clear hw hf
              refine ⟨_, rfl, ?_⟩
              refine hK.out _ _ ⟨(blk_cell HTB3.out.bc 0).trans rfl, (blk_cell HTB3.out.bx 2).trans rfl, (blk_cell HTB3.out.bx 3).trans rfl⟩ (fun hHeld => ?_)
              clear hK K
              refine norm_ (a' := ?_) ?_ ?_
              rotate_left
              · show Act.put _ (some 73) _ = _
                simp only [Act.put, List.setIfInBounds_toArray, List.set_cons_zero, List.set_cons_succ, i64_w, i32_w]
                rfl
              refine pure_ (i := 10) (N := some 74) (v := ?_) (a' := ?_) #[true, true, true, true, true, true, true, true, true, true, true, false] rfl rfl (by kernel_rfl) (fun _ _ _ h => h) (Or.inl ⟨by rfl, ?_⟩) ?_ ?_
              rotate_left
              · intro w'
                go_simp
                with_reducible rfl
              rotate_left
              · simp only [Act.put, List.setIfInBounds_toArray, List.set_cons_zero, List.set_cons_succ, i64_w, i32_w]
                rfl
              refine last_ (i := 11) (N := none) #[true, true, true, true, true, true, true, true, true, true, true, true] rfl rfl (by kernel_rfl) (by decide) (fun K hK => ?_)
              refine skip_ (w1 := ?_) (by rfl) rfl ?_ ?_
              rotate_left
              · go_simp
                rfl
              refine hK.out _ _ ?_
              clear hK K
              refine done_ (by kernel_rfl) ?_
              go_wp2_with fail
              go_meet
              case rel =>
                refine ⟨rfl, ⟨none, 0, ?_, ?_⟩⟩
                · rw [HEB.out.1, HEB.out.2.1, HEB.out.2.2]
                  exact HTB3.out.put 0 _ rfl (blk_put HTB3.out.bt 0 _ rfl)
                · rw [HEB.out.2.2]
                  exact Kd.R_nil _ _ _ _ _
            · have hk0 := hk
              clear hk
              by_cases hk : x.f0 = 1
              · have eB : wB st x = (st.f (nm x)).isSome := by unfold wB; rw [if_neg hk0, if_pos hk]
                have eS : wS st x = ⟨fdel st.f (nm x), cdel st.f (nm x) st.c⟩ := by unfold wS; rw [if_neg hk0, if_pos hk]
                have eE : wE st x = z27 := by unfold wE; rw [if_neg (by omega)]
                have HEB := Aside0.mk (And.intro eB (And.intro eS eE))
                have k0 : (x.f0 == 0) = false := beq_eq_false_iff_ne.mpr (by omega)
                have k1 : (x.f0 == 1) = true := beq_iff_eq.mpr hk
                clear eB eS eE hk hk0
                have hs0 : wd.cell? ⟨gc, 0, none⟩ = some (.string (nm x)) := (blk_cell HTB.out.bc 0).trans rfl
                go_wp2_with (go_at_call 38; refine (remove_calls wd g b j st.c st.f HTB.out.wl (nm x) HSZ.out).mono ?_; rintro e w3 ⟨rfl, hw, hf⟩; have HTB3 := Aside0.mk ((HTB.out.call hw hf).mono (Nat.le_succ j)); have ht0 := (blk_cell HTB3.out.bt 0).trans rfl; have htf := blk_frozen HTB3.out.bt 0; clear hw hf)
                go_meet
                case rel =>
                  refine ⟨rfl, ⟨none, 0, ?_, ?_⟩⟩
                  · rw [HEB.out.1, HEB.out.2.1, HEB.out.2.2]
                    exact HTB3.out.put 0 _ rfl (blk_put HTB3.out.bt 0 _ rfl)
                  · rw [HEB.out.2.2]
                    exact Kd.R_nil _ _ _ _ _
              · have hk1 := hk
                clear hk
                by_cases hk : x.f0 = 2
                · have eB : wB st x = rtyB st.f (nm x) (ht x.f1.f2) := by unfold wB; rw [if_neg hk0, if_neg hk1, if_pos hk]
                  have eS : wS st x = ⟨rtyF st.f (nm x) (ht x.f1.f2), rtyC st.f (nm x) (ht x.f1.f2) st.c⟩ := by unfold wS; rw [if_neg hk0, if_neg hk1, if_pos hk]
                  have eE : wE st x = z27 := by unfold wE; rw [if_neg (by omega)]
                  have HEB := Aside0.mk (And.intro eB (And.intro eS eE))
                  have k0 : (x.f0 == 0) = false := beq_eq_false_iff_ne.mpr (by omega)
                  have k1 : (x.f0 == 1) = false := beq_eq_false_iff_ne.mpr (by omega)
                  have k2 : (x.f0 == 2) = true := beq_iff_eq.mpr hk
                  clear eB eS eE hk hk0 hk1
                  go_upto_region 24 with fail
                  have HTBd : Aside0 (TB wr wd.drew g b j st.f st.c gx gt gc x A1 c1 TT0) := ⟨HTB.out.below (below_drew (Below.refl _ _))⟩
                  have hs0 : wd.drew.cell? ⟨gc, 0, none⟩ = some (.string (nm x)) := (blk_cell HTBd.out.bc 0).trans rfl
                  have hs1 : wd.drew.cell? ⟨gx, 2, none⟩ = some (.int .i32 x.f1.f1) := (blk_cell HTBd.out.bx 2).trans rfl
                  have hs2 : wd.drew.cell? ⟨gx, 3, none⟩ = some (.bool x.f1.f2) := (blk_cell HTBd.out.bx 3).trans rfl
                  refine start_ (n := 9) (S := fun w' => w'.cell? ⟨gc, 0, none⟩ = some (.string (nm x)) ∧ w'.cell? ⟨gx, 3, none⟩ = some (.bool x.f1.f2)) (ds := [8]) #[false, false, false, false, false, false, false, false, false] (by kernel_rfl) rfl rfl ⟨hs0, hs2⟩ (fun hHeld => ?_)
                  refine pure_ (i := 0) (N := some 83) (v := ?_) (a' := ?_) #[true, false, false, false, false, false, false, false, false] rfl rfl (by kernel_rfl) (fun _ _ _ h => h) (Or.inl ⟨by rfl, ?_⟩) ?_ ?_
                  rotate_left
                  · intro w'
                    go_simp
                    with_reducible rfl
                  rotate_left
                  · simp only [Act.put, List.setIfInBounds_toArray, List.set_cons_zero, List.set_cons_succ, i64_w, i32_w]
                    rfl
                  refine pure_ (i := 2) (N := some 85) (v := ?_) (a' := ?_) #[true, false, true, false, false, false, false, false, false] rfl rfl (by kernel_rfl) (fun _ _ _ h => h) (Or.inl ⟨by rfl, ?_⟩) ?_ ?_
                  rotate_left
                  · intro w'
                    go_simp
                    with_reducible rfl
                  rotate_left
                  · simp only [Act.put, List.setIfInBounds_toArray, List.set_cons_zero, List.set_cons_succ, i64_w, i32_w]
                    rfl
                  refine pure_ (i := 3) (N := some 86) (v := ?_) (a' := ?_) #[true, false, true, true, false, false, false, false, false] rfl rfl (by kernel_rfl) (fun _ _ _ h => h) (Or.inl ⟨by rfl, ?_⟩) ?_ ?_
                  rotate_left
                  · intro w'
                    go_simp
                    with_reducible rfl
                  rotate_left
                  · simp only [Act.put, List.setIfInBounds_toArray, List.set_cons_zero, List.set_cons_succ, i64_w, i32_w]
                    rfl
                  refine take_ (i := 1) (N := some 84) (v := ?_) (a' := ?_) #[true, true, true, true, false, false, false, false, false] rfl rfl (by kernel_rfl) (fun _ _ _ h => h) (Or.inl ⟨by rfl, ?_⟩) hHeld ?_ ?_
                  rotate_left
                  · rintro w' ⟨s0, s1⟩
                    go_simp
                    with_reducible rfl
                  rotate_left
                  · simp only [Act.put, List.setIfInBounds_toArray, List.set_cons_zero, List.set_cons_succ, i64_w, i32_w]
                    rfl
                  refine take_ (i := 4) (N := some 87) (v := ?_) (a' := ?_) #[true, true, true, true, true, false, false, false, false] rfl rfl (by kernel_rfl) (fun _ _ _ h => h) (Or.inl ⟨by rfl, ?_⟩) hHeld ?_ ?_
                  rotate_left
                  · rintro w' ⟨s0, s1⟩
                    go_simp
                    with_reducible rfl
                  rotate_left
                  · simp only [Act.put, List.setIfInBounds_toArray, List.set_cons_zero, List.set_cons_succ, i64_w, i32_w]
                    rfl
                  refine one_ (i := 5) (N := some 88) #[true, true, true, true, true, true, false, false, false] rfl rfl (by kernel_rfl) (by decide) (fun K hK => ?_)
                  refine goes_ Tryd.func37 (by kernel_rfl) rfl #[.bool x.f1.f2] (by rfl) rfl rfl (by simp only [List.map_toArray, List.map_cons, List.map_nil]; rfl) ?_
                  with_reducible refine (impl_wantType.calls x.f1.f2 (ht x.f1.f2) wd.drew HWT.out).mono ?_
                  rintro e w2 ⟨rfl, hd⟩
                  have HTB2 := Aside0.mk (HTBd.out.below hd.below)
                  clear hd
                  refine ⟨_, rfl, ?_⟩
                  refine hK.out _ _ ⟨(blk_cell HTB2.out.bc 0).trans rfl, (blk_cell HTB2.out.bx 3).trans rfl⟩ (fun hHeld => ?_)
                  clear hK K
                  refine norm_ (a' := ?_) ?_ ?_
                  rotate_left
                  · show Act.put _ (some 88) _ = _
                    simp only [Act.put, List.setIfInBounds_toArray, List.set_cons_zero, List.set_cons_succ, i64_w, i32_w]
                    rfl
                  refine one_ (i := 6) (N := some 89) #[true, true, true, true, true, true, true, false, false] rfl rfl (by kernel_rfl) (by decide) (fun K hK => ?_)
                  refine goes_ Tryd.func39 (by kernel_rfl) rfl #[.pointer (some ⟨g, 0, none⟩), .agg #[.string (nm x)], .int .i32 (ht x.f1.f2)] (by rfl) rfl rfl (by simp only [List.map_toArray, List.map_cons, List.map_nil]; rfl) ?_
                  with_reducible refine (rty_calls w2 g b j st.c st.f HTB2.out.wl (nm x) HSZ.out (ht x.f1.f2)).mono ?_
                  rintro e w3 ⟨rfl, hw, hf⟩
                  have HTB3 := Aside0.mk ((HTB2.out.call hw hf).mono (Nat.le_succ j))
                  have ht0 := (blk_cell HTB3.out.bt 0).trans rfl
                  have htf := blk_frozen HTB3.out.bt 0
                  clear hw hf
                  refine ⟨_, rfl, ?_⟩
                  refine hK.out _ _ ⟨(blk_cell HTB3.out.bc 0).trans rfl, (blk_cell HTB3.out.bx 3).trans rfl⟩ (fun hHeld => ?_)
                  clear hK K
                  refine norm_ (a' := ?_) ?_ ?_
                  rotate_left
                  · show Act.put _ (some 89) _ = _
                    simp only [Act.put, List.setIfInBounds_toArray, List.set_cons_zero, List.set_cons_succ, i64_w, i32_w]
                    rfl
                  refine pure_ (i := 7) (N := some 90) (v := ?_) (a' := ?_) #[true, true, true, true, true, true, true, true, false] rfl rfl (by kernel_rfl) (fun _ _ _ h => h) (Or.inl ⟨by rfl, ?_⟩) ?_ ?_
                  rotate_left
                  · intro w'
                    go_simp
                    with_reducible rfl
                  rotate_left
                  · simp only [Act.put, List.setIfInBounds_toArray, List.set_cons_zero, List.set_cons_succ, i64_w, i32_w]
                    rfl
                  refine last_ (i := 8) (N := none) #[true, true, true, true, true, true, true, true, true] rfl rfl (by kernel_rfl) (by decide) (fun K hK => ?_)
                  refine skip_ (w1 := ?_) (by rfl) rfl ?_ ?_
                  rotate_left
                  · go_simp
                    rfl
                  refine hK.out _ _ ?_
                  clear hK K
                  refine done_ (by kernel_rfl) ?_
                  go_wp2_with fail
                  go_meet
                  case rel =>
                    refine ⟨rfl, ⟨none, 0, ?_, ?_⟩⟩
                    · rw [HEB.out.1, HEB.out.2.1, HEB.out.2.2]
                      exact HTB3.out.put 0 _ rfl (blk_put HTB3.out.bt 0 _ rfl)
                    · rw [HEB.out.2.2]
                      exact Kd.R_nil _ _ _ _ _
                · have hk2 := hk
                  clear hk
                  by_cases hk : x.f0 = 3
                  · have eB : wB st x = (st.f (nm x)).isSome := by unfold wB; rw [if_neg hk0, if_neg hk1, if_neg hk2, if_pos hk]
                    have eS : wS st x = st := by unfold wS; rw [if_neg hk0, if_neg hk1, if_neg hk2]
                    have k0 : (x.f0 == 0) = false := beq_eq_false_iff_ne.mpr (by omega)
                    have k1 : (x.f0 == 1) = false := beq_eq_false_iff_ne.mpr (by omega)
                    have k2 : (x.f0 == 2) = false := beq_eq_false_iff_ne.mpr (by omega)
                    have k3 : (x.f0 == 3) = true := beq_iff_eq.mpr hk
                    have hs0 : wd.cell? ⟨gc, 0, none⟩ = some (.string (nm x)) := (blk_cell HTB.out.bc 0).trans rfl
                    cases hf : st.f (nm x) with
                    | none =>
                      have eE : wE st x = z27 := by unfold wE; rw [if_pos hk, hf]
                      rw [hf] at eB
                      have HEB := Aside0.mk (And.intro eB (And.intro eS eE))
                      have HFN := Aside0.mk hf
                      clear eB eS eE hk hk0 hk1 hk2 hf
                      go_wp2_with (go_at_call 40; refine (contains_miss wd g b j st.c st.f HTB.out.wl (nm x) HSZ.out HFN.out).mono ?_; rintro e w3 ⟨rfl, hw, hf⟩; have HTB3 := Aside0.mk (((HTB.out.call hw hf).mono (Nat.le_succ j)).below (below_alloc (Below.refl _ _) (.cells #[.string ⟨#[]⟩, .int .i32 0, .int .i32 0] 92))); clear hw hf)
                      go_meet
                      case rel =>
                        refine ⟨rfl, ⟨none, 0, ?_, ?_⟩⟩
                        · rw [HEB.out.1, HEB.out.2.1, HEB.out.2.2]
                          exact HTB3.out
                        · rw [HEB.out.2.2]
                          exact Kd.R_nil _ _ _ _ _
                    | some v =>
                      obtain ⟨p0, t0⟩ := v
                      have eE : wE st x = entS (nm x) (p0, t0) := by unfold wE; rw [if_pos hk, hf]
                      rw [hf] at eB
                      have HEB := Aside0.mk (And.intro eB (And.intro eS eE))
                      have HFN := Aside0.mk hf
                      clear eB eS eE hk hk0 hk1 hk2 hf
                      go_upto_region 28 with (go_at_call 40; refine (contains_hit wd g b j st.c st.f HTB.out.wl (nm x) HSZ.out p0 t0 HFN.out).mono ?_; rintro e w3 ⟨rfl, hw, hf⟩; have HTB3 := Aside0.mk (((HTB.out.call hw hf).mono (Nat.le_succ j)).below (below_alloc (Below.refl _ _) (.cells #[.string (nm x), .int .i32 p0, .int .i32 t0] 92))); clear hw hf)
                      obtain ⟨w4, hw4⟩ : ∃ w4, w4 = w3.alloc (.cells #[.string (nm x), .int .i32 p0, .int .i32 t0] 92) := ⟨_, rfl⟩
                      have hb4 : w4.heap[w3.heap.size]? = some (.cells #[.string (nm x), .int .i32 p0, .int .i32 t0] 92 (0, 0)) := by rw [hw4]; exact blk_new w3 _
                      rw [← hw4] at HTB3 ⊢
                      have hv0 := (blk_cell hb4 0).trans rfl
                      have hv1 := (blk_cell hb4 1).trans rfl
                      have hv2 := (blk_cell hb4 2).trans rfl
                      clear hw4 hb4
                      go_wp2_with (first
                        | ((with_reducible refine gate_store (t := 4) (p := 102) rfl ?_); refine store_event (t := 4) (p := 102) (v := ?vo_1) (w1 := (w5'.setCell ⟨gt, 0, none⟩ (.bool true))) ?hg ?ho ?hn ?hr ?_; (case ho => rfl); (case hg => rfl); (case hn => rfl); (case hr => first | (go_simp; done) | (go_simp; rfl)); intro w6 hw6; have HP0 : Aside0 (TB wr w6 g b (j + 1) st.f st.c gx gt gc x A1 c1 #[.bool true, .slice none 0 0, .int .i32 0, .bool false, .int .i64 0, .slice none 0 0]) := ⟨by rw [hw6]; exact HTB5.out.put 0 (.bool true) rfl (blk_put HTB5.out.bt 0 _ rfl)⟩; have HR6 : Aside0 (Kd.R (Kd.int .u8) 5 w6 wr.heap.size (fun _ => True) (.slice Ae (numsB (nm x)).length ce) (numsB (nm x))) := ⟨by rw [hw6]; exact HTB5.out.R HRe.out (by decide)⟩; have hz1 := (blk_cell HP0.out.bt 1).trans rfl; have hz2 := (blk_cell HP0.out.bt 2).trans rfl; have hz3 := (blk_cell HP0.out.bt 3).trans rfl; have hzf1 := blk_frozen HP0.out.bt 1; have hzf2 := blk_frozen HP0.out.bt 2; have hzf3 := blk_frozen HP0.out.bt 3; clear hw6 hz0 hzf0)
                        | (go_at_call 41; refine (plain_calls w4 (nm x) (by rw [HOK.out.size]; exact HOK.out.pos) (by rw [HOK.out.size]; have := HOK.out.len; omega) p0 t0).mono ?_; rintro e w5' ⟨ve, rfl, hR, hb⟩; obtain ⟨Ae, ce, rfl⟩ := Kd.R_slice hR; have HTB5 := Aside0.mk (HTB3.out.below hb); have HRe := Aside0.mk (Kd.R_lower hR HTB3.out.fr.size); have hz0 := (blk_cell HTB5.out.bt 0).trans rfl; have hzf0 := blk_frozen HTB5.out.bt 0; clear hR hb))
                      have HP1 := HP0.out.put 1 (.slice Ae (numsB (nm x)).length ce) rfl (blk_put HP0.out.bt 1 _ rfl)
                      have HP2 := HP1.put 2 (.int .i32 p0) rfl (blk_put HP1.bt 2 _ rfl)
                      have HP3 := HP2.put 3 (.bool (t0 == 1)) rfl (blk_put HP2.bt 3 _ rfl)
                      have HQ := HP2.R (j := 3) (u := .bool (t0 == 1)) (HP1.R (j := 2) (u := .int .i32 p0) (HP0.out.R (j := 1) (u := .slice Ae (numsB (nm x)).length ce) HR6.out (by decide)) (by decide)) (by decide)
                      go_meet
                      case rel =>
                        refine ⟨rfl, ⟨Ae, ce, ?_, ?_⟩⟩
                        · rw [HEB.out.1, HEB.out.2.1, HEB.out.2.2]
                          exact HP3
                        · rw [HEB.out.2.2]
                          exact HQ
                  · have hk3 := hk
                    clear hk
                    have eB : wB st x = false := by unfold wB; rw [if_neg hk0, if_neg hk1, if_neg hk2, if_neg hk3]
                    have eS : wS st x = st := by unfold wS; rw [if_neg hk0, if_neg hk1, if_neg hk2]
                    have eE : wE st x = z27 := by unfold wE; rw [if_neg hk3]
                    have HEB := Aside0.mk (And.intro eB (And.intro eS eE))
                    have k0 : (x.f0 == 0) = false := beq_eq_false_iff_ne.mpr hk0
                    have k1 : (x.f0 == 1) = false := beq_eq_false_iff_ne.mpr hk1
                    have k2 : (x.f0 == 2) = false := beq_eq_false_iff_ne.mpr hk2
                    have k3 : (x.f0 == 3) = false := beq_eq_false_iff_ne.mpr hk3
                    clear eB eS eE hk0 hk1 hk2 hk3
                    go_wp2_with fail
                    go_meet
                    case rel =>
                      refine ⟨rfl, ⟨none, 0, ?_, ?_⟩⟩
                      · rw [HEB.out.1, HEB.out.2.1, HEB.out.2.2]
                        exact HTB.out.mono (Nat.le_succ j)
                      · rw [HEB.out.2.2]
                        exact Kd.R_nil _ _ _ _ _
          case rest =>
            obtain ⟨rfl, HE⟩ := hcut
            obtain ⟨Ae, ce, hTB, hRe⟩ := HE.out
            obtain ⟨ok, hok⟩ : ∃ ok, ok = wB st x := ⟨_, rfl⟩
            obtain ⟨ent, hent⟩ : ∃ ent, ent = wE st x := ⟨_, rfl⟩
            obtain ⟨sf, hsf⟩ : ∃ sf, sf = wS st x := ⟨_, rfl⟩
            rw [← hok, ← hent, ← hsf] at hTB
            rw [← hent] at hRe
            have HTO := Aside0.mk (show wTold ns st x = ⟨ok, ent, (sf.c : Int), allF ns sf.f⟩ by unfold wTold; rw [← hok, ← hent, ← hsf])
            have HST2 := Aside0.mk (show (l.take (j + 1)).foldl wS st0 = sf by rw [HST.out, hsf])
            have ht4 := (blk_cell hTB.bt 4).trans rfl
            have htf4 := blk_frozen hTB.bt 4
            have HTB2 := Aside0.mk hTB
            have HRE := Aside0.mk hRe
            obtain ⟨wq, hwq⟩ : ∃ wq, wq = wc := ⟨_, rfl⟩
            rw [← hwq] at HTB2 HRE ht4 htf4 ⊢
            clear hwq HE hTB hRe hok hent hsf HTB HST HBd HWT HCL HCA
            go_upto_region 30 with (go_at_call 42; refine (len_calls wq g b (j + 1) sf.c sf.f HTB2.out.wl).mono ?_; rintro e w' ⟨rfl, hw'⟩; rw [hw']; clear hw')
            have hp := HTB2.out.put 4 (.int .i64 (sf.c : Int)) rfl (blk_put HTB2.out.bt 4 _ rfl)
            have hpr := HTB2.out.R (j := 4) (u := .int .i64 (sf.c : Int)) HRE.out (by decide)
            obtain ⟨wm, hwm⟩ : ∃ wm, wm = wq.setCell ⟨gt, 4, none⟩ (.int .i64 (sf.c : Int)) := ⟨_, rfl⟩
            rw [← hwm] at hp hpr ⊢
            have HTM : Aside0 (TB wr wm g b (j + 1) sf.f sf.c gx gt gc x A1 c1 (TT ok (.slice Ae ent.f0.length ce) ent.f1 ent.f2 (sf.c : Int) (.slice none 0 0))) := ⟨hp⟩
            have HREM := Aside0.mk hpr
            clear hwm hp hpr ht4 htf4 HTB2 HRE
            obtain ⟨wo, rfl⟩ : ∃ wo, wo = wr := ⟨_, rfl⟩
            obtain ⟨gko, rfl⟩ : ∃ gko, gko = gk := ⟨_, rfl⟩
            go_wp2_with fail
            go_loopg [109] ns.length (fun kq v109 w' => ∃ k : Int, v109 = .int .i64 k ∧ Aside0 (∃ m : Nat, k = (m : Int) ∧ m + kq = ns.length ∧ ∃ A5 c5, TB wo w' g b (j + 1) sf.f sf.c gx gt gc x A1 c1 (TT ok (.slice Ae ent.f0.length ce) ent.f1 ent.f2 (sf.c : Int) (.slice A5 (allF (ns.take m) sf.f).length c5)) ∧ Kd.R (Kd.int .u8) 5 w' wo.heap.size (fun _ => True) (.slice Ae ent.f0.length ce) ent.f0 ∧ Kd.R k27 27 w' wo.heap.size (fun _ => True) (.slice A5 (allF (ns.take m) sf.f).length c5) (allF (ns.take m) sf.f)))
            case atStart => exact ⟨0, rfl, ⟨0, rfl, by omega, none, 0, HTM.out, HREM.out, Kd.R_nil _ _ _ _ _⟩⟩
            case round =>
              clear q0
              obtain ⟨k, rfl, HJ⟩ := hrel
              by_cases hi : k < (ns.length : Int)
              · have q0 : decide (k < (ns.length : Int)) = true := decide_eq_true hi
                obtain ⟨m, hkm, hmk, A5, c5, hTB, hRe, hRa⟩ := HJ.out
                have hml : m < ns.length := by omega
                have hi0 : ((0 : Int) ≤ k) = True := eq_true (by omega)
                have hi1 : (k < (ns.length : Int)) = True := eq_true (by omega)
                have hNC := (Kd.R_reads' (Frm.R (HF.out.trans hTB.fr) HW5.out HR5.out (by decide))).2.2
                obtain ⟨an, eAn, hsn⟩ := at_str hNC k m hkm hml
                subst eAn
                obtain ⟨s, hs⟩ : ∃ s, s = ns[m] := ⟨_, rfl⟩
                rw [← hs] at hsn
                obtain ⟨y, hyl, hsy⟩ := HNM2.out s (by rw [hs]; exact List.getElem_mem hml)
                have hoy := HX.out y hyl
                have HS0 := Aside0.mk (show 0 < s.size ∧ s.size ≤ 1000000 by rw [hsy, hoy.size]; have := hoy.pos; have := hoy.len; omega)
                have HSM := Aside0.mk (show s.size ≤ maxLen by have := HS0.out.2; simp only [maxLen]; omega)
                have HCS : Aside0 (gocid_Cast.f 100 (numsB s) = some (s, none)) := ⟨by rw [hsy, hoy.nums]; exact hoy.cast⟩
                have HAN := Aside0.mk (allF_snoc ns sf.f m hml)
                rw [← hs] at HAN
                obtain ⟨al, hal⟩ : ∃ al, al = allF (ns.take m) sf.f := ⟨_, rfl⟩
                have HALL := Aside0.mk (show al.length ≤ 200 by rw [hal]; have h1 := allF_len (ns.take m) sf.f; have := HNL.out; rw [List.length_take] at h1; omega)
                rw [← hal] at hTB hRa HAN
                have HTB := Aside0.mk hTB
                have HRE := Aside0.mk hRe
                have HRA := Aside0.mk hRa
                obtain ⟨k1, hk1e⟩ : ∃ y : Int, wrap64 (k + 1) = y := ⟨_, rfl⟩
                have hk1w : IntKind.i64.wrap (k + 1) = k1 := (i64_w _).trans hk1e
                have HK1 := Aside0.mk (show k1 = ((m + 1 : Nat) : Int) by have := HNL.out; rw [← hk1e]; unfold wrap64; omega)
                have HM2 := Aside0.mk (show m + gk = ns.length ∧ m < ns.length from ⟨hmk, hml⟩)
                obtain ⟨wy, hwy⟩ : ∃ wy, wy = Lib.bytesWorld wr 5 s := ⟨_, rfl⟩
                obtain ⟨cy, hcy⟩ : ∃ cy, cy = grownCap wr s.size 0 5 := ⟨_, rfl⟩
                have hrun : (convert 9 24 (.string s)).run Tryd.prog wr = .ok (.slice (some ⟨wr.heap.size, 0, none⟩) (numsB s).length cy) wy := by rw [numsB_len, hcy, hwy]; exact conv_run wr s
                have HCB : Aside0 (Kd.C (Kd.int .u8) wy (some ⟨wr.heap.size, 0, none⟩) (numsB s).length (numsB s)) := ⟨by rw [hwy]; exact bytes_row wr s HSM.out⟩
                have HBB : Aside0 (Below wr.heap.size wr wy) := ⟨by rw [hwy]; exact bytes_below wr s⟩
                have HCY : Aside0 ((numsB s).length ≤ cy) := ⟨by rw [numsB_len, hcy]; exact grownCap_ge ..⟩
                clear hwy hcy
                clear hkm hmk hml hi HJ hTB hRe hRa hNC hs hsy hyl hoy hal
                go_upto_if 120 with (go_at_call 35; refine (gocid_Cast.calls 100 (some ⟨wr.heap.size, 0, none⟩) cy (numsB s) s none wy HCB.out HCY.out HCS.out).mono ?_; rintro e wb ⟨eT, eX, rfl, hb⟩; have HBb := Aside0.mk (below_step HBB.out hb); clear hb; simp only [errV_none])
                obtain ⟨wd, hwd⟩ : ∃ wd, wd = wb.alloc (.cells #[.string s] 81) := ⟨_, rfl⟩
                obtain ⟨gd, hgd⟩ : ∃ gd, gd = wb.heap.size := ⟨_, rfl⟩
                rw [← hwd, ← hgd]
                have hBd : Below wr.heap.size wr wd := by rw [hwd]; exact below_alloc HBb.out _
                have hs0 : wd.cell? ⟨gd, 0, none⟩ = some (.string s) := by rw [hwd, hgd]; exact (blk_cell (blk_new wb _) 0).trans rfl
                have HTD := Aside0.mk (HTB.out.below hBd)
                have HRED := Aside0.mk (Kd.R_below HRE.out hBd)
                have HRAD := Aside0.mk (Kd.R_below HRA.out hBd)
                clear hwd hgd hBd hrun hsn HTB HRE HRA HBb HCB HBB HCY
                cases hf : sf.f s with
                | none =>
                  have HAN2 : Aside0 (allF (ns.take (m + 1)) sf.f = al) := ⟨by rw [HAN.out, hf]; exact List.append_nil _⟩
                  have HFN := Aside0.mk hf
                  clear hf HAN
                  go_wp2_with (go_at_call 40; refine (contains_miss wd g b (j + 1) sf.c sf.f HTD.out.wl s HSM.out HFN.out).mono ?_; rintro e w3 ⟨rfl, hw, hf⟩; have HT3 := Aside0.mk ((HTD.out.call hw hf).below (below_alloc (Below.refl _ _) (.cells #[.string ⟨#[]⟩, .int .i32 0, .int .i32 0] 92))); have HRE3 := Aside0.mk (Kd.R_below (Frm.R hf HTD.out.wl HRED.out (by decide)) (below_alloc (Below.refl _ _) (.cells #[.string ⟨#[]⟩, .int .i32 0, .int .i32 0] 92))); have HRA3 := Aside0.mk (Kd.R_below (Frm.R hf HTD.out.wl HRAD.out (by decide)) (below_alloc (Below.refl _ _) (.cells #[.string ⟨#[]⟩, .int .i32 0, .int .i32 0] 92))); clear hw hf)
                  go_roundg (gk - 1)
                  case measure => have := HM2.out; omega
                  case rel =>
                    refine ⟨k1, rfl, ⟨m + 1, HK1.out, by have := HM2.out; omega, A5, c5, ?_⟩⟩
                    rw [HAN2.out]
                    exact ⟨HT3.out, HRE3.out, HRA3.out⟩
                | some v =>
                  obtain ⟨p0, t0⟩ := v
                  obtain ⟨al2, hal2⟩ : ∃ al2, al2 = al ++ [entS s (p0, t0)] := ⟨_, rfl⟩
                  have HAL2 := Aside0.mk hal2
                  have HAN2 : Aside0 (allF (ns.take (m + 1)) sf.f = al2) := ⟨by rw [HAN.out, hf, hal2]⟩
                  have HFN := Aside0.mk hf
                  clear hf HAN hal2
                  go_upto_region 37 with (go_at_call 40; refine (contains_hit wd g b (j + 1) sf.c sf.f HTD.out.wl s HSM.out p0 t0 HFN.out).mono ?_; rintro e w3 ⟨rfl, hw, hf⟩; have HT3 := Aside0.mk (HTD.out.call hw hf); have HRE3 := Aside0.mk (Frm.R hf HTD.out.wl HRED.out (by decide)); have HRA3 := Aside0.mk (Frm.R hf HTD.out.wl HRAD.out (by decide)); clear hw hf)
                  obtain ⟨we, hwe⟩ : ∃ we, we = w3.alloc (.cells #[.string s, .int .i32 p0, .int .i32 t0] 92) := ⟨_, rfl⟩
                  obtain ⟨ge, hge⟩ : ∃ ge, ge = w3.heap.size := ⟨_, rfl⟩
                  rw [← hwe, ← hge]
                  have hBe : Below w3.heap.size w3 we.drew := by rw [hwe]; exact below_drew (below_alloc (Below.refl _ _) _)
                  have hbe : we.drew.heap[ge]? = some (.cells #[.string s, .int .i32 p0, .int .i32 t0] 92 (0, 0)) := by rw [hwe, hge]; exact blk_drew (blk_new w3 _)
                  have HTd := Aside0.mk (HT3.out.below hBe)
                  have HRed := Aside0.mk (Kd.R_below HRE3.out hBe)
                  have HRad := Aside0.mk (Kd.R_below HRA3.out hBe)
                  have HWR := Aside0.mk HTd.out.fr.size
                  have HLT := Aside0.mk (Kd.R_lt HRad.out)
                  have hv0 := (blk_cell HTd.out.bt 5).trans rfl
                  have hv1 : we.drew.cell? ⟨ge, 0, none⟩ = some (.string s) := (blk_cell hbe 0).trans rfl
                  have hv2 : we.drew.cell? ⟨ge, 1, none⟩ = some (.int .i32 p0) := (blk_cell hbe 1).trans rfl
                  have hv3 : we.drew.cell? ⟨ge, 2, none⟩ = some (.int .i32 t0) := (blk_cell hbe 2).trans rfl
                  clear hwe hge hBe hbe hs0
                  refine start_ (n := 8) (S := fun w' => w'.cell? ⟨gt, 5, none⟩ = some (.slice A5 al.length c5) ∧ w'.cell? ⟨ge, 0, none⟩ = some (.string s) ∧ w'.cell? ⟨ge, 1, none⟩ = some (.int .i32 p0) ∧ w'.cell? ⟨ge, 2, none⟩ = some (.int .i32 t0)) (ds := [5, 7]) #[false, false, false, false, false, false, false, false] (by kernel_rfl) rfl rfl ⟨hv0, hv1, hv2, hv3⟩ (fun hHeld => ?_)
                  refine pure_ (i := 0) (N := some 128) (v := ?_) (a' := ?_) #[true, false, false, false, false, false, false, false] rfl rfl (by kernel_rfl) (fun _ _ _ h => h) (Or.inl ⟨by rfl, ?_⟩) ?_ ?_
                  rotate_left
                  · intro w'
                    go_simp
                    with_reducible rfl
                  rotate_left
                  · simp only [Act.put, List.setIfInBounds_toArray, List.set_cons_zero, List.set_cons_succ, i64_w, i32_w]
                    rfl
                  refine take_ (i := 1) (N := some 129) (v := ?_) (a' := ?_) #[true, true, false, false, false, false, false, false] rfl rfl (by kernel_rfl) (fun _ _ _ h => h) (Or.inl ⟨by rfl, ?_⟩) hHeld ?_ ?_
                  rotate_left
                  · rintro w' ⟨s0, s1, s2, s3⟩
                    go_simp
                    with_reducible rfl
                  rotate_left
                  · simp only [Act.put, List.setIfInBounds_toArray, List.set_cons_zero, List.set_cons_succ, i64_w, i32_w]
                    rfl
                  refine take_ (i := 2) (N := some 130) (v := ?_) (a' := ?_) #[true, true, true, false, false, false, false, false] rfl rfl (by kernel_rfl) (fun _ _ _ h => h) (Or.inl ⟨by rfl, ?_⟩) hHeld ?_ ?_
                  rotate_left
                  · rintro w' ⟨s0, s1, s2, s3⟩
                    go_simp
                    with_reducible rfl
                  rotate_left
                  · simp only [Act.put, List.setIfInBounds_toArray, List.set_cons_zero, List.set_cons_succ, i64_w, i32_w]
                    rfl
                  refine one_ (i := 3) (N := some 131) #[true, true, true, true, false, false, false, false] rfl rfl (by kernel_rfl) (by decide) (fun K hK => ?_)
                  refine goes_ Tryd.func41 (by kernel_rfl) rfl #[.agg #[.string s, .int .i32 p0, .int .i32 t0]] (by rfl) rfl rfl (by simp only [List.map_toArray, List.map_cons, List.map_nil]; rfl) ?_
                  with_reducible refine (plain_calls we.drew s HS0.out.1 HS0.out.2 p0 t0).mono ?_
                  rintro e w7 ⟨v7, rfl, hR, hb⟩
                  obtain ⟨A7, c7, rfl⟩ := Kd.R_slice hR
                  have HB7 := Aside0.mk hb
                  have HR7 := Aside0.mk hR
                  have HT7 := Aside0.mk (HTd.out.below hb)
                  have HRe7 := Aside0.mk (Kd.R_below HRed.out hb)
                  have HRa7 := Aside0.mk (Kd.R_below HRad.out hb)
                  have hy0 := (hb.cell (World.block_lt_of_cell? we.drew _ hv0)).trans hv0
                  have hy1 := (hb.cell (World.block_lt_of_cell? we.drew _ hv1)).trans hv1
                  have hy2 := (hb.cell (World.block_lt_of_cell? we.drew _ hv2)).trans hv2
                  have hy3 := (hb.cell (World.block_lt_of_cell? we.drew _ hv3)).trans hv3
                  have hya0 := ((below_alloc (Below.refl w7.heap.size w7) (.cells #[.slice A7 (numsB s).length c7, .int .i32 p0, .bool (t0 == 1)] 27)).cell (World.block_lt_of_cell? w7 _ hy0)).trans hy0
                  have hya1 := ((below_alloc (Below.refl w7.heap.size w7) (.cells #[.slice A7 (numsB s).length c7, .int .i32 p0, .bool (t0 == 1)] 27)).cell (World.block_lt_of_cell? w7 _ hy1)).trans hy1
                  have hya2 := ((below_alloc (Below.refl w7.heap.size w7) (.cells #[.slice A7 (numsB s).length c7, .int .i32 p0, .bool (t0 == 1)] 27)).cell (World.block_lt_of_cell? w7 _ hy2)).trans hy2
                  have hya3 := ((below_alloc (Below.refl w7.heap.size w7) (.cells #[.slice A7 (numsB s).length c7, .int .i32 p0, .bool (t0 == 1)] 27)).cell (World.block_lt_of_cell? w7 _ hy3)).trans hy3
                  clear hR hb
                  refine ⟨_, rfl, ?_⟩
                  refine hK.out _ _ ⟨hy0, hy1, hy2, hy3⟩ (fun hHeld => ?_)
                  clear hK K
                  refine norm_ (a' := ?_) ?_ ?_
                  rotate_left
                  · show Act.put _ (some 131) _ = _
                    simp only [Act.put, List.setIfInBounds_toArray, List.set_cons_zero, List.set_cons_succ, i64_w, i32_w]
                    rfl
                  refine one_ (i := 4) (N := some 132) #[true, true, true, true, true, false, false, false] rfl rfl (by kernel_rfl) (by decide) (fun K hK => ?_)
                  refine value_ (w1 := ?_) (v := ?_) (by rfl) rfl ?_ ?_
                  rotate_left 2
                  · go_simp
                    constructor
                    · rfl
                    · rfl
                  refine hK.out _ _ ⟨hya0, hya1, hya2, hya3⟩ (fun hHeld => ?_)
                  clear hK K
                  refine norm_ (a' := ?_) ?_ ?_
                  rotate_left
                  · show Act.put _ (some 132) _ = _
                    simp only [Act.put, List.setIfInBounds_toArray, List.set_cons_zero, List.set_cons_succ, i64_w, i32_w]
                    rfl
                  refine last_ (i := 5) (N := some 133) #[true, true, true, true, true, true, false, false] rfl rfl (by kernel_rfl) (by decide) (fun K hK => ?_)
                  refine Kd.R_append_step k27 (w0 := w7) wo.heap.size (by rfl) (.tmp 129) (.tmp 132) 34 27 (.agg #[.slice none 0 0, .int .i32 0, .bool false]) 32 rfl Tryd.underlying34 info27e rfl (by decide) (by decide) (.slice A5 al.length c5) al (entS s (p0, t0)) [.slice A7 (numsB s).length c7, .int .i32 p0, .bool (t0 == 1)] (fun _ => True) (fun k => we.drew.heap.size ≤ k) rfl rfl (k27_mkM _ _ _ (entS s (p0, t0)) (R_ge HR7.out HWR.out)) (fun k hk => ⟨trivial, fun e => by have := HLT.out k e.symm; omega⟩) (fun _ _ => trivial) HRa7.out (Below.refl _ _) HT7.out.fr.size (by have := HALL.out; omega) ?_
                  intro v8 w8 hR hb hg hat
                  rw [← HAL2.out] at hR
                  obtain ⟨A9, c9, rfl⟩ := Kd.R_slice hR
                  have HROW := Kd.R_typed HRa7.out
                  have HT8 := Aside0.mk (HT7.out.grow hg HROW (Kd.R_base HRa7.out) (by decide))
                  have HRe8 := Aside0.mk (R_row HRe7.out hg HROW (by decide))
                  have HRa8 := Aside0.mk hR
                  have ht5 := (blk_cell HT8.out.bt 5).trans rfl
                  have htf := blk_frozen HT8.out.bt 5
                  clear hR hb hg hat HROW
                  refine hK.out _ _ ?_
                  clear hK K
                  refine norm_ (a' := ?_) ?_ ?_
                  rotate_left
                  · show Act.put _ (some 133) _ = _
                    simp only [Act.put, List.setIfInBounds_toArray, List.set_cons_zero, List.set_cons_succ, i64_w, i32_w]
                    rfl
                  refine pure_ (i := 6) (N := some 134) (v := ?_) (a' := ?_) #[true, true, true, true, true, true, true, false] rfl rfl (by kernel_rfl) (fun _ _ _ h => h) (Or.inl ⟨by rfl, ?_⟩) ?_ ?_
                  rotate_left
                  · intro w'
                    go_simp
                    with_reducible rfl
                  rotate_left
                  · simp only [Act.put, List.setIfInBounds_toArray, List.set_cons_zero, List.set_cons_succ, i64_w, i32_w]
                    rfl
                  refine last_ (i := 7) (N := none) #[true, true, true, true, true, true, true, true] rfl rfl (by kernel_rfl) (by decide) (fun K hK => ?_)
                  refine skip_ (w1 := ?_) (by rfl) rfl ?_ ?_
                  rotate_left
                  · go_simp
                    rfl
                  refine hK.out _ _ ?_
                  clear hK K
                  refine done_ (by kernel_rfl) ?_
                  have HTN := Aside0.mk (HT8.out.put 5 (.slice A9 al2.length c9) rfl (blk_put HT8.out.bt 5 _ rfl))
                  have HREN := Aside0.mk (HT8.out.R (j := 5) (u := .slice A9 al2.length c9) HRe8.out (by decide))
                  have HRAN := Aside0.mk (HT8.out.R (j := 5) (u := .slice A9 al2.length c9) HRa8.out (by decide))
                  go_wp2_with fail
                  go_roundg (gk - 1)
                  case measure => have := HM2.out; omega
                  case rel =>
                    refine ⟨k1, rfl, ⟨m + 1, HK1.out, by have := HM2.out; omega, A9, c9, ?_⟩⟩
                    rw [HAN2.out]
                    exact ⟨HTN.out, HREN.out, HRAN.out⟩
              · have q0 : decide (k < (ns.length : Int)) = false := decide_eq_false hi
                obtain ⟨m, hkm, hmk, A5, c5, hTB, hRe, hRa⟩ := HJ.out
                have hme : m = ns.length := by omega
                rw [hme, List.take_length] at hTB hRa
                obtain ⟨wz, hwz⟩ : ∃ wz, wz = wr := ⟨_, rfl⟩
                rw [← hwz] at hTB hRe hRa ⊢
                obtain ⟨al, hal⟩ : ∃ al, al = allF ns sf.f := ⟨_, rfl⟩
                have HTO2 := Aside0.mk HTO.out
                rw [← hal] at hTB hRa HTO2
                have hu0 : wz.cell? ⟨gt, 0, none⟩ = some (.bool ok) := (blk_cell hTB.bt 0).trans rfl
                have hu1 : wz.cell? ⟨gt, 1, none⟩ = some (.slice Ae ent.f0.length ce) := (blk_cell hTB.bt 1).trans rfl
                have hu2 : wz.cell? ⟨gt, 2, none⟩ = some (.int .i32 ent.f1) := (blk_cell hTB.bt 2).trans rfl
                have hu3 : wz.cell? ⟨gt, 3, none⟩ = some (.bool ent.f2) := (blk_cell hTB.bt 3).trans rfl
                have hu4 : wz.cell? ⟨gt, 4, none⟩ = some (.int .i64 (sf.c : Int)) := (blk_cell hTB.bt 4).trans rfl
                have hu5 : wz.cell? ⟨gt, 5, none⟩ = some (.slice A5 al.length c5) := (blk_cell hTB.bt 5).trans rfl
                have HRO := Aside0.mk (Frm.R hTB.fr HW.out HR.out (by decide))
                have HLT := Aside0.mk (Kd.R_lt HR.out)
                have HM := Aside0.mk (k36_mkM wz w5.heap.size (fun k => wo.heap.size ≤ k) (⟨ok, ent, (sf.c : Int), al⟩ : S36) (R_ge hRe HF.out.size) (R_ge hRa HF.out.size))
                have HSZ5 := Aside0.mk (Nat.le_trans HF.out.size hTB.fr.size)
                have HFZ := Aside0.mk (HF.out.trans hTB.fr)
                have HWZ := Aside0.mk hTB.wl
                clear hkm hmk hme HJ hi hwz hal hTB hRe hRa
                go_wp2_with (at_builtin; refine Kd.R_append k36 (w0 := wz) w5.heap.size rfl (.tmp 136) (.tmp 138) 32 36 (.agg #[.bool false, .slice none 0 0, .int .i32 0, .bool false, .int .i64 0, .slice none 0 0]) 72 rfl Tryd.underlying32 info36e rfl (by decide) (by decide) (.slice A8 out.length c8) out (⟨ok, ent, (sf.c : Int), al⟩ : S36) [.bool ok, .slice Ae ent.f0.length ce, .int .i32 ent.f1, .bool ent.f2, .int .i64 (sf.c : Int), .slice A5 al.length c5] (fun _ => True) (fun k => wo.heap.size ≤ k) rfl rfl HM.out (fun k hk => ⟨trivial, fun e => by have := HLT.out k e.symm; omega⟩) (fun _ _ => trivial) HRO.out (Below.refl _ _) HSZ5.out (by have := HOL.out; omega) ?_; intro v1 wy hR hb hg hat; have HFR := Aside0.mk hR; have HFF := Aside0.mk (HFZ.out.then_below hb (Nat.le_refl _)); have HFW := Aside0.mk (HWZ.out.grown hg (Kd.R_typed HRO.out) (by decide)); clear hR hb hg hat)
                go_roundg (gko - 1)
                case measure => have := HJ2.out; omega
                case rel =>
                  refine ⟨i1, rfl, ⟨j + 1, HI1.out, by have := HJ2.out; omega, HFF.out, ?_, ?_⟩⟩
                  · rw [HST2.out]
                    exact HFW.out
                  · rw [HRN.out, HTO2.out]
                    exact HFR.out
        · have q0 : decide (i < (l.length : Int)) = false := decide_eq_false hi
          obtain ⟨j, hij, hjk, hF, hW, hR⟩ := HJ.out
          have hje : j = l.length := by omega
          rw [hje, List.take_length] at hR
          have HR := Aside0.mk (Kd.R_lower hR HB5.out.size)
          have HBe := Aside0.mk (HB5.out.trans (hF.below (B := w.heap.size) HGB.out.1 HGB.out.2 HB5.out.size))
          rw [HNS.out] at HR
          clear hij hjk hje hF hW hR HJ hi
          go_wp2_with fail
          go_ret
          exact ⟨_, rfl, HR.out, HBe.out⟩
end Go.Proofs.YteekkpofcbcikaaDoor.HandWan
