/- The law FnFieldsScript, walked: it tells true at any edits. -/
import Derived.Test.YtnhnlodmkbiiiaaDoorRS4
namespace Go.Proofs.YtnhnlodmkbiiiaaDoor.HandFields
open Go Go.RowKit Go.Proofs.YtnhnlodmkbiiiaaDoorL Go.Proofs.YtnhnlodmkbiiiaaDoorW.PrintWords Go.Proofs.YtnhnlodmkbiiiaaDoorW.PrintLast Go.Proofs.YtnhnlodmkbiiiaaDoorW.PrintMore Go.Proofs.YtnhnlodmkbiiiaaDoor.PFieldsBase Go.Proofs.YtnhnlodmkbiiiaaDoor.PScr
attribute [local go_sem] max2_int min2_int max_two min_two max_three min_three max_four min_four
set_option linter.unusedVariables false
set_option linter.unusedSimpArgs false
set_option maxHeartbeats 32000000 in
set_option maxRecDepth 100000 in
theorem script_calls (w : World) (kd : Int) (k : Nat) (hkd : 0 ≤ kd ∧ kd < 256) (hk : k = (kd % 6).toNat) (A : Option Addr) (c : Nat) (l : List S65) (hC : Kd.C k65 w A l.length l) (hc : l.length ≤ c) (hx : ∀ x ∈ l, (0 ≤ x.f2 ∧ x.f2 < 18446744073709551616) ∧ ∀ y ∈ x.f1, (0 : Int) ≤ y ∧ y ≤ 255) :
  Calls Tryd.prog 9 #[.int .u8 kd, .slice A l.length c] w fun e w' => e = .returned (.bool true) ∧ Below w.heap.size w w' := by
 have HC := Aside0.mk hC
 have HCC := Aside0.mk hc
 have HX := Aside0.mk hx
 have HKD := Aside0.mk hkd
 have HKK := Aside0.mk hk
 obtain ⟨kz, rz, hrz⟩ := fits1_told l (Kd.C_max hC)
 have HRZ := Aside0.mk hrz
 have I65 : Aside0 ((Tryd.prog.info? 65).map (fun i => (i.zero, i.size, i.bytes)) = some (some (.agg #[.int .i64 0, .slice none 0 0, .int .u64 0, .int .i64 0]), 4, 48)) := ⟨by kernel_rfl⟩
 clear hC hc hx hkd hk hrz
 cases rz with
 | false =>
  go_enter Tryd.func9, Tryd.ntmps9
  go_wp2_with (go_at_call 35; refine (laws_zzFits1.calls kz A c l false w HC.out HCC.out HRZ.out).mono ?_; rintro e w1 ⟨rfl, hB⟩; have HB1 := Aside0.mk hB; clear hB)
  go_ret
  exact ⟨rfl, HB1.out⟩
 | true =>
 by_cases h40 : (40 : Int) < (l.length : Int)
 ·have q40 : decide ((40 : Int) < (l.length : Int)) = true := decide_eq_true h40
  have q41 : decide (40 < l.length) = true := decide_eq_true (by omega)
  clear h40
  go_enter Tryd.func9, Tryd.ntmps9
  go_wp2_with (first
   | (go_at_call 35; refine (laws_zzFits1.calls kz A c l true w HC.out HCC.out HRZ.out).mono ?_; rintro e w1 ⟨rfl, hB⟩; have HB1 := Aside0.mk hB; clear hB)
   | (go_at_call 25; refine (laws_folderAwake.calls true _ rfl).mono ?_; rintro e w9 ⟨rfl, hB⟩; have HBQ := Aside0.mk hB; clear hB))
  go_ret
  exact ⟨rfl, below_step HB1.out HBQ.out⟩
 have q40 : decide ((40 : Int) < (l.length : Int)) = false := decide_eq_false h40
 have q41 : decide (40 < l.length) = false := decide_eq_false (by omega)
 have HL40 := Aside0.mk (show l.length ≤ 40 by omega)
 clear h40
 go_enter Tryd.func9, Tryd.ntmps9
 go_wp2_with (go_at_call 35; refine (laws_zzFits1.calls kz A c l true w HC.out HCC.out HRZ.out).mono ?_; rintro e w1 ⟨rfl, hB⟩; have HB1 := Aside0.mk hB; clear hB)
 have HL0 : Aside0 (LW w w1 (lrun (l.take 0)) (.slice none 0 0) (.slice none 0 0) (.slice none 0 0)) := ⟨⟨HB1.out, Kd.R_nil _ _ _ _ _, Sz.nil _ _, Kd.R_nil _ _ _ _ _⟩⟩
 go_loopg [5, 6, 7, 8, 9, 28] l.length (fun kq v5 v6 v7 v8 v9 v28 w' => ∃ i sm : Int, ∃ hs : Bool, v28 = .int .i64 i ∧ v8 = .int .u64 sm ∧ v9 = .bool hs ∧ Aside0 (∃ j : Nat, i = (j : Int) ∧ j + kq = l.length ∧ sm = ((lrun (l.take j)).sum : Int) ∧ hs = (lrun (l.take j)).has ∧ LW w w' (lrun (l.take j)) v5 v6 v7 ∧ LI k (lrun (l.take j)) j))
 case atStart => exact ⟨0, 0, false, rfl, rfl, rfl, ⟨0, rfl, by omega, rfl, rfl, HL0.out, LI.start k⟩⟩
 case round =>
  obtain ⟨i, sm, hs, rfl, rfl, rfl, HJ⟩ := hrel
  by_cases hi : i < (l.length : Int)
  ·have q0 : decide (i < (l.length : Int)) = true := decide_eq_true hi
   obtain ⟨j, hij, hjk, hsm, hhs, hL, hI⟩ := HJ.out
   have hjl : j < l.length := by omega
   have hst := lrun_next l j hjl
   have hxm : (0 ≤ (rd_T65 l (j : Int)).f2 ∧ (rd_T65 l (j : Int)).f2 < 18446744073709551616) ∧ ∀ y ∈ (rd_T65 l (j : Int)).f1, (0 : Int) ≤ y ∧ y ≤ 255 := by rw [rdT_eq l j hjl]; exact HX.out _ (List.getElem_mem _)
   obtain ⟨s, hsd⟩ : ∃ s, s = lrun (l.take j) := ⟨_, rfl⟩
   rw [← hsd] at hst hL hI hsm hhs
   obtain ⟨ad, A1, c1, eA, hx0, hx1, hx2, hx3, hlx, hrx⟩ := at_T65 (Kd.C_below HC.out hL.below) i (by omega) hi
   subst eA
   rw [← hij] at hst hxm
   obtain ⟨x, hxx⟩ : ∃ x, x = rd_T65 l i := ⟨_, rfl⟩
   rw [← hxx] at hx0 hx1 hx2 hx3 hlx hrx hst hxm
   clear hxx
   obtain ⟨a, xs, z, ix⟩ := x
   replace hx0 : _ = some (Value.int .i64 a) := hx0
   replace hx1 : _ = some (Value.slice A1 xs.length c1) := hx1
   replace hx2 : _ = some (Value.int .u64 z) := hx2
   replace hx3 : _ = some (Value.int .i64 ix) := hx3
   have HRX : Aside0 (Kd.C (Kd.int .u8) wr A1 xs.length xs) := ⟨hrx⟩
   have HXB : Aside0 ((0 ≤ z ∧ z < 18446744073709551616) ∧ ∀ y ∈ xs, (0 : Int) ≤ y ∧ y ≤ 255) := ⟨hxm⟩
   have HST := Aside0.mk hst
   have HLI := Aside0.mk hI
   have HWR := Aside0.mk hL.below.size
   obtain ⟨A5, c5, e5⟩ := Kd.R_slice hL.steps
   obtain ⟨A6, c6, e6, hl6, hC6⟩ := hL.sizes.slice
   obtain ⟨A7, c7, e7⟩ := Kd.R_slice hL.data
   subst e5 e6 e7
   subst hsm hhs
   have HLW := Aside0.mk hL
   have HAP := Aside0.mk hL.apart
   have hi0 : ((0 : Int) ≤ i) = True := eq_true (by omega)
   have hi1 : (i < (l.length : Int)) = True := eq_true hi
   obtain ⟨i1, hi1e⟩ : ∃ y : Int, wrap64 (i + 1) = y := ⟨_, rfl⟩
   have hi1w : IntKind.i64.wrap (i + 1) = i1 := (i64_w _).trans hi1e
   have HI1 := Aside0.mk (show i1 = ((j + 1 : Nat) : Int) by have := HL40.out; rw [← hi1e]; unfold wrap64; omega)
   have HJ2 := Aside0.mk (show j + gk = l.length ∧ j < l.length from ⟨hjk, hjl⟩)
   have HJJ := Aside0.mk (show j < 1000 by have := HL40.out; omega)
   have HSB : Aside0 (s.sum < 2305843009213693952) := ⟨by have h1 := hI.hi; have h2 : j * 1125899906842624 ≤ 1000 * 1125899906842624 := Nat.mul_le_mul_right _ (by have := HL40.out; omega); omega⟩
   clear hij hjk hjl hi HJ hst hxm hrx hlx hsd hL hI hl6 hC6
   go_upto_region 13 with ((with_reducible refine gate_dst (N := 11) rfl ?_); refine box_event ?hg (N := 11) ?hd (cs := #[.int .i64 0, .slice none 0 0, .int .u64 0, .int .i64 0]) (t := 65) ?hr ?_; (case hd => rfl); (case hg => rfl); (case hr => first | (go_simp; done) | (go_simp; rfl)); intro gb hgb w8 hbox hb; have BK := Aside0.mk hbox; have GE : Aside0 (wr.heap.size ≤ gb) := ⟨by rw [hgb]; exact Nat.le_refl _⟩; have HB8 := Aside0.mk hb; have hcz0 : w8.cell? ⟨gb, 0, none⟩ = some (.int .i64 0) := (blk_cell BK.out 0).trans rfl; have hfz0 := blk_frozen BK.out 0; have hcz1 : w8.cell? ⟨gb, 1, none⟩ = some (.slice none 0 0) := (blk_cell BK.out 1).trans rfl; have hfz1 := blk_frozen BK.out 1; have hcz2 : w8.cell? ⟨gb, 2, none⟩ = some (.int .u64 0) := (blk_cell BK.out 2).trans rfl; have hfz2 := blk_frozen BK.out 2; have hcz3 : w8.cell? ⟨gb, 3, none⟩ = some (.int .i64 0) := (blk_cell BK.out 3).trans rfl; have hfz3 := blk_frozen BK.out 3; clear hb hbox hgb)
   obtain ⟨W7, hW7⟩ : ∃ W7, W7 = ((((w8.setCell ⟨gb, 0, none⟩ (.int .i64 a)).setCell ⟨gb, 1, none⟩ (.slice A1 xs.length c1)).setCell ⟨gb, 2, none⟩ (.int .u64 z)).setCell ⟨gb, 3, none⟩ (.int .i64 ix)) := ⟨_, rfl⟩
   rw [← hW7]
   have HB7 : Aside0 (Below wr.heap.size wr W7) := ⟨by rw [hW7]; exact (by repeat (first | (with_reducible first | exact HB8.out | apply below_alloc | apply pw_below_drewN | apply below_drew1 | refine below_set ?_ GE.out) | exact HB8.out))⟩
   have HK7 : Aside0 (W7.heap[gb]? = some (.cells #[.int .i64 a, .slice A1 xs.length c1, .int .u64 z, .int .i64 ix] 65 (0, 0))) := ⟨by rw [hW7]; exact (blk_put (blk_put (blk_put (blk_put BK.out 0 _ rfl) 1 _ rfl) 2 _ rfl) 3 _ rfl)⟩
   have HR7 := Aside0.mk (Kd.C_below HRX.out HB7.out)
   have hq0 := (blk_cell HK7.out 0).trans rfl
   have hq1 := (blk_cell HK7.out 1).trans rfl
   have hq2 := (blk_cell HK7.out 2).trans rfl
   have hq3 := (blk_cell HK7.out 3).trans rfl
   clear hW7 hcz0 hcz1 hcz2 hcz3 hfz0 hfz1 hfz2 hfz3 hx0 hx1 hx2 hx3
   by_cases hlen : (100 : Int) < (xs.length : Int)
   ·have qa : decide ((100 : Int) < (xs.length : Int)) = true := decide_eq_true hlen
    have qb : decide (100 < xs.length) = true := decide_eq_true (by omega)
    clear hlen
    go_wp2_with (go_at_call 25; refine (laws_folderAwake.calls true _ rfl).mono ?_; rintro e w9 ⟨rfl, hB⟩; have HBQ := Aside0.mk hB; clear hB)
    go_ret
    exact ⟨rfl, below_step (below_step HLW.out.below HB7.out) HBQ.out⟩
   have qa : decide ((100 : Int) < (xs.length : Int)) = false := decide_eq_false hlen
   have qb : decide (100 < xs.length) = false := decide_eq_false (by omega)
   have HXL := Aside0.mk (show xs.length ≤ 100 by omega)
   clear hlen
   by_cases hbig : (1125899906842624 : Int) ≤ z
   ·have qc : decide ((1125899906842624 : Int) ≤ z) = true := decide_eq_true hbig
    clear hbig
    go_wp2_with (go_at_call 25; refine (laws_folderAwake.calls true _ rfl).mono ?_; rintro e w9 ⟨rfl, hB⟩; have HBQ := Aside0.mk hB; clear hB)
    go_ret
    exact ⟨rfl, below_step (below_step HLW.out.below HB7.out) HBQ.out⟩
   have qc : decide ((1125899906842624 : Int) ≤ z) = false := decide_eq_false hbig
   have HXO : Aside0 (OkL ⟨a, xs, z, ix⟩) := ⟨⟨HXL.out, HXB.out.1.1, by show z < _; omega, HXB.out.2⟩⟩
   have hbA : (W7.alloc (.cells #[] 5)).cell? ⟨gb, 1, none⟩ = some (.slice A1 xs.length c1) := (blk_cell (blk_alloc HK7.out (.cells #[] 5)) 1).trans rfl
   clear hbig
   go_upto_region 17 with (first | (at_builtin; refine Kd.R_append_rows (Kd.int .u8) (Rr := fun x cs => cs = [Value.int .u8 x]) (w0 := wr) wr.heap.size rfl (.tmp 42) (.tmp 44) 22 5 (.int .u8 0) 1 rfl Tryd.underlying22 infoE5 rfl (by decide) (by decide) (.slice (some ⟨W7.heap.size, 0, none⟩) ([] : List Int).length 0) [] xs A1 xs.length c1 (fun k => k ≠ gb) (fun _ => False) rfl rfl (Kd.R_of_own (xs := ([] : List Int)) (World.ownsRow_made W7 #[] 0 HB7.out.size (Nat.zero_le _) rfl) (fun k hk => by have h1 : W7.heap.size = k := (by simpa [Value.ownBlock] using hk); have h2 := blk_lt HK7.out; omega)) (Kd.C_alloc HR7.out _) (fun x cs hx => hx) (fun _ hk => hk.elim) (fun k hk => by have h2 := blk_lt HK7.out; simp at hk; omega) (below_alloc HB7.out _) (below_size (below_alloc HB7.out _)) (by have := HXL.out; simp only [List.length_nil]; omega) ?_; intro v1 wa hR hb hg hat; rw [List.nil_append] at hR; obtain ⟨A9, c9, rfl, hn1, _⟩ := made_some hR (by simp [Value.ownBlock]) (hat.imp_right (fun ⟨b, h1, h2⟩ => ⟨b, h1, Nat.le_trans (Nat.le_trans HB7.out.size (by simp)) h2⟩)); have HRa := Aside0.mk hR; have HBa := Aside0.mk hb; have hka := (grown_new hg rfl gb (blk_lt HK7.out)).trans HK7.out; have HKa := Aside0.mk hka; have hqa0 := (blk_cell hka 0).trans rfl; have hqa1 := (blk_cell hka 1).trans rfl; have hqa2 := (blk_cell hka 2).trans rfl; have hqa3 := (blk_cell hka 3).trans rfl; have hqaf := blk_frozen hka 1; clear hR hb hg hat hn1 hka))
   obtain ⟨W9, hW9⟩ : ∃ W9, W9 = wa.setCell ⟨gb, 1, none⟩ (.slice (some A9) xs.length c9) := ⟨_, rfl⟩
   rw [← hW9]
   have HBB9 : Aside0 (Below wr.heap.size wr W9) := ⟨by rw [hW9]; exact below_set HBa.out GE.out⟩
   have HB9 : Aside0 (BX wr W9 gb a (.slice (some A9) xs.length c9) xs z ix) := ⟨⟨GE.out, by rw [hW9]; exact blk_put HKa.out 1 _ rfl, by rw [hW9]; exact Kd.R_mono (Kd.R_far HRa.out (p := ⟨gb, 1, none⟩) (fun _ h => h) _) (fun _ _ => trivial)⟩⟩
   have HL9 := Aside0.mk (HLW.out.more HBB9.out)
   have hr0 := (blk_cell HB9.out.blk 0).trans rfl
   have hr1 := (blk_cell HB9.out.blk 1).trans rfl
   have hr2 := (blk_cell HB9.out.blk 2).trans rfl
   have hr3 := (blk_cell HB9.out.blk 3).trans rfl
   clear hW9 hqa0 hqa1 hqa2 hqa3 hqaf hq0 hq1 hq2 hq3 hbA
   by_cases h0 : a = 0
   ·subst h0
    have hq1 : IntKind.u64.wrap (xs.length : Int) = (xs.length : Int) := words_u64 _ (by omega) (by have := HXL.out; omega)
    have hq2 : IntKind.u64.wrap (s.da.length : Int) = (s.da.length : Int) := words_u64 _ (by omega) (by have := HLI.out.da; omega)
    obtain ⟨y, hy⟩ : ∃ y : Int, IntKind.u64.wrap ((xs.length : Int) - (s.da.length : Int)) = y := ⟨_, rfl⟩
    obtain ⟨y2, hy2⟩ : ∃ y2 : Int, IntKind.u64.wrap ((s.sum : Int) + y) = y2 := ⟨_, rfl⟩
    have HSM : Aside0 (y2 = ((s.sum + xs.length - s.da.length : Nat) : Int)) := ⟨by rw [← hy2, ← hy]; exact u64_sum _ _ _ (by have := HLI.out.lo; omega) HSB.out (by have := HXL.out; omega)⟩
    go_wp2_with (first
     | (at_builtin; refine Kd.R_append k65 (w0 := w) w.heap.size rfl (.tmp 118) (.tmp 120) 62 65 (.agg #[.int .i64 0, .slice none 0 0, .int .u64 0, .int .i64 0]) 48 rfl Tryd.underlying62 I65.out rfl (by decide) (by decide) (.slice A5 s.st.length c5) s.st ⟨0, xs, z, ix⟩ [.int .i64 0, .slice (some A9) xs.length c9, .int .u64 z, .int .i64 ix] (fun _ => True) (fun k => wr.heap.size ≤ k) rfl rfl (HB9.out.elem HWR.out) HAP.out (fun _ _ => trivial) (Aside0.mk (LW.setData HL9.out HB9.out.row HWR.out)).out.steps (Aside0.mk (LW.setData HL9.out HB9.out.row HWR.out)).out.below (Aside0.mk (LW.setData HL9.out HB9.out.row HWR.out)).out.below.size (by have := HLI.out.st; have := HJ2.out; have := HL40.out; omega) ?_; intro v1 wz hR hb hg hat; have HFIN := Aside0.mk ((Aside0.mk (LW.setData HL9.out HB9.out.row HWR.out)).out.push (Below.refl _ _) hR hb hg); clear hR hb hg hat))
    go_roundg (gk - 1)
    case measure => have := HJ2.out; omega
    case rel =>
     refine ⟨i1, _, _, rfl, rfl, rfl, ⟨j + 1, HI1.out, by have := HJ2.out; omega, ?_⟩⟩
     rw [HST.out]
     have hls := lstep_0 s xs z ix
     rw [hls]
     have hst := HLI.out.step HJJ.out HXO.out
     rw [hls] at hst
     exact ⟨HSM.out, rfl, ⟨HFIN.out.below, HFIN.out.steps, HFIN.out.sizes, HFIN.out.data⟩, hst⟩
   by_cases h1 : a = 1
   ·subst h1
    clear h0
    obtain ⟨y2, hy2⟩ : ∃ y2 : Int, IntKind.u64.wrap ((s.sum : Int) + z) = y2 := ⟨_, rfl⟩
    have HSM : Aside0 (y2 = ((s.sum + z.toNat : Nat) : Int)) := ⟨by rw [← hy2]; exact u64_add _ _ HXB.out.1.1 HXO.out.s1 HSB.out⟩
    go_wp2_with (first
     | (at_builtin; obtain ⟨v6n, wb, hrun, hS, hG, hat⟩ := Sz.append (W := W9.alloc (.cells #[.int .u64 z] 24)) (HL9.out.sizes.below (below_alloc (Below.refl _ _) _)) (Nat.le_trans HL9.out.below.size (Below.size (below_alloc (Below.refl _ _) _))) 50 (A := some ⟨W9.heap.size, 0, none⟩) (m := 1) (c := 1) (ys := [z]) (C_one W9 z) (by have := HLI.out.sz; have := HJJ.out; omega); refine append_wp rfl (.tmp 69) (.tmp 72) rfl rfl rfl hrun ?_; have HLA := Aside0.mk (HL9.out.setSizes (below_alloc (Below.refl _ _) _) hG hS); have HBA := Aside0.mk (HB9.out.grow (below_alloc (Below.refl _ _) _) hG (fun k hk => ((HL9.out.sizes.below (below_alloc (Below.refl _ _) _)).typed k hk).2)); have hs0 := (blk_cell HBA.out.blk 0).trans rfl; have hs1 := (blk_cell HBA.out.blk 1).trans rfl; have hs2 := (blk_cell HBA.out.blk 2).trans rfl; have hs3 := (blk_cell HBA.out.blk 3).trans rfl; clear hrun hS hG hat)
     | (at_builtin; refine Kd.R_append k65 (w0 := w) w.heap.size rfl (.tmp 118) (.tmp 120) 62 65 (.agg #[.int .i64 0, .slice none 0 0, .int .u64 0, .int .i64 0]) 48 rfl Tryd.underlying62 I65.out rfl (by decide) (by decide) (.slice A5 s.st.length c5) s.st ⟨1, xs, z, ix⟩ [.int .i64 1, .slice (some A9) xs.length c9, .int .u64 z, .int .i64 ix] (fun _ => True) (fun k => wr.heap.size ≤ k) rfl rfl (HBA.out.elem HWR.out) HAP.out (fun _ _ => trivial) HLA.out.steps HLA.out.below HLA.out.below.size (by have := HLI.out.st; have := HJ2.out; have := HL40.out; omega) ?_; intro v1 wz hR hb hg hat; have HFIN := Aside0.mk (HLA.out.push (Below.refl _ _) hR hb hg); clear hR hb hg hat))
    go_roundg (gk - 1)
    case measure => have := HJ2.out; omega
    case rel =>
     refine ⟨i1, _, _, rfl, rfl, rfl, ⟨j + 1, HI1.out, by have := HJ2.out; omega, ?_⟩⟩
     rw [HST.out]
     have hls := lstep_1 s xs z ix
     rw [hls]
     have hst := HLI.out.step HJJ.out HXO.out
     rw [hls] at hst
     exact ⟨HSM.out, rfl, ⟨HFIN.out.below, HFIN.out.steps, HFIN.out.sizes, HFIN.out.data⟩, hst⟩
   by_cases h2 : a = 2
   ·subst h2
    clear h0 h1
    by_cases hne : s.sz = []
    ·have hqz : ((s.sz.length : Int) == 0) = true := by rw [hne]; rfl
     have HNE := Aside0.mk (lstep_2e s xs z ix hne)
     clear hne
     go_wp2_with fail
     go_roundg (gk - 1)
     case measure => have := HJ2.out; omega
     case rel =>
      refine ⟨i1, _, _, rfl, rfl, rfl, ⟨j + 1, HI1.out, by have := HJ2.out; omega, ?_⟩⟩
      rw [HST.out]
      have hls := HNE.out
      rw [hls]
      have hst := HLI.out.step HJJ.out HXO.out
      rw [hls] at hst
      exact ⟨rfl, rfl, ⟨HL9.out.below, HL9.out.steps, HL9.out.sizes, HL9.out.data⟩, hst⟩
    have hnp : 0 < s.sz.length := List.length_pos_iff.2 hne
    have hqz : ((s.sz.length : Int) == 0) = false := beq_false_of_ne (by omega)
    have hnz : ((s.sz.length : Int) = 0) = False := eq_false (by omega)
    have hnz2 : (s.sz.length = 0) = False := eq_false (by omega)
    have hne2 := lstep_2 s xs z ix hne
    have hsz40 := HLI.out.sz
    have hj4 := HJJ.out
    have HWL : Aside0 (IntKind.u64.wrap (s.sz.length : Int) = (s.sz.length : Int)) := ⟨words_u64 _ (by omega) (by omega)⟩
    obtain ⟨un, HUN⟩ : ∃ un : Nat, Aside0 (IntKind.u64.wrap ix = (un : Int)) := ⟨(IntKind.u64.wrap ix).toNat, ⟨by have := (u64_ge ix).1; omega⟩⟩
    obtain ⟨m, hm⟩ : ∃ m, m = lix ix s.sz.length := ⟨_, rfl⟩
    have hml : m < s.sz.length := by rw [hm]; exact lix_lt _ _ hnp
    have hum : m = un % s.sz.length := by rw [hm]; unfold lix; rw [HUN.out, Int.toNat_natCast]
    have HTM : Aside0 (Int.tmod (un : Int) (s.sz.length : Int) = (m : Int)) := ⟨by rw [hum]; rfl⟩
    have HWM : Aside0 (wrap64 (m : Int) = (m : Int)) := ⟨by unfold wrap64; omega⟩
    rw [← hm] at hne2
    have HNE := Aside0.mk hne2
    obtain ⟨g6, c6', e6, hl6, hg6, hh6, hC6⟩ := HL9.out.sizes.form hnp
    injection e6 with e61 e62 e63
    subst e61 e63
    have hne6 : g6 ≠ gb := by rintro rfl; obtain ⟨cs, hc⟩ := hh6; rw [HB9.out.blk] at hc; injection hc with hc; injection hc with _ h2; cases h2
    obtain ⟨W10, hW10⟩ : ∃ W10, W10 = W9.setCell ⟨gb, 3, none⟩ (.int .i64 (m : Int)) := ⟨_, rfl⟩
    have HBB10 : Aside0 (Below wr.heap.size wr W10) := ⟨by rw [hW10]; exact below_set HBB9.out GE.out⟩
    have HB10 : Aside0 (BX wr W10 gb 2 (.slice (some A9) xs.length c9) xs z (m : Int)) := ⟨⟨GE.out, by rw [hW10]; exact blk_put HB9.out.blk 3 _ rfl, by rw [hW10]; exact Kd.R_mono (Kd.R_types HB9.out.row HB9.out.blk (by decide) |> fun h => Kd.R_far h (p := ⟨gb, 3, none⟩) (fun _ h => h.2) _) (fun _ _ => trivial)⟩⟩
    have HL10 := Aside0.mk (HLW.out.more HBB10.out)
    have hC10 : Kd.C (Kd.int .u64) W10 (some ⟨g6, 0, none⟩) s.sz.length s.sz := by obtain ⟨g7, c7', e7, _, _, _, hC7⟩ := HL10.out.sizes.form hnp; cases e7; exact hC7
    have hh10 : ∃ cs, W10.heap[g6]? = some (.cells cs 24 (0, 0)) := by obtain ⟨g7, c7', e7, _, _, h7, _⟩ := HL10.out.sizes.form hnp; cases e7; exact h7
    obtain ⟨ad6, eA6, hx6⟩ := Kd.at_int hC10 (m : Int) (by omega) (by omega)
    cases eA6
    obtain ⟨x, hxx⟩ : ∃ x, x = rd s.sz (m : Int) := ⟨_, rfl⟩
    rw [← hxx, Int.toNat_natCast, add0, hW10] at hx6
    have hxb := HLI.out.szb x (by rw [hxx]; exact rd_mem hml)
    have hxs : x.toNat ≤ s.sum := by have h1 := lsum_erase s.sz m hml; have h2 := HLI.out.lo; rw [← hxx] at h1; omega
    obtain ⟨y2, HY2⟩ : ∃ y2 : Int, Aside0 (IntKind.u64.wrap ((s.sum : Int) - x) = y2) := ⟨_, ⟨rfl⟩⟩
    have HSM : Aside0 (y2 = ((s.sum - (rd s.sz (m : Int)).toNat : Nat) : Int)) := ⟨by rw [← HY2.out, ← hxx]; have := HSB.out; rw [u64_mod]; omega⟩
    have hm0 : ((0 : Int) ≤ (m : Int)) = True := eq_true (by omega)
    have hm1 : ((m : Int) < (s.sz.length : Int)) = True := eq_true (by omega)
    have hm2 : (m < s.sz.length) = True := eq_true hml
    have hrf3 := blk_frozen HB9.out.blk 3
    obtain ⟨i1m, HIM⟩ : ∃ y : Int, Aside0 (wrap64 ((m : Int) + 1) = y) := ⟨_, ⟨rfl⟩⟩
    have himv : i1m = ((m + 1 : Nat) : Int) := by rw [← HIM.out]; unfold wrap64; omega
    have I24 : (Tryd.prog.info? 24).map (·.size) = some 1 := by kernel_rfl
    obtain ⟨i24, hi24, hs24⟩ := Option.map_eq_some_iff.1 I24
    have hcutA : ∀ W : World, (Instr.slice 50 (.slice (some ⟨g6, 0, none⟩) s.sz.length c6) none (some (.int .i64 (m : Int))) (some (.int .i64 (m : Int)))).run Tryd.prog W = .ok (.slice (some ⟨g6, 0, none⟩) m m) W := fun W => by have := cut_cap (P := Tryd.prog) 50 24 .i64 .i64 Tryd.underlying50 hi24 (some ⟨g6, 0, none⟩) s.sz.length c6 (m : Int) (by omega) (by omega) hl6 W; rwa [Int.toNat_natCast] at this
    have hcutB := cut_from (P := Tryd.prog) 50 24 .i64 Tryd.underlying50 hi24 1 hs24 (some ⟨g6, 0, none⟩) s.sz.length c6 i1m (by omega) (by omega)
    have hCd := Kd.C_drop (c := c6) hC10 (show m + 1 ≤ s.sz.length by omega) hl6
    obtain ⟨DD, hDD⟩ : ∃ D_, D_ = (if c6 = i1m.toNat then some (⟨g6, 0, none⟩ : Addr) else Option.map (fun x : Addr => x.add (i1m.toNat * 1)) (some ⟨g6, 0, none⟩)) := ⟨_, rfl⟩
    rw [← hDD] at hcutB
    obtain ⟨m2, hm2e⟩ : ∃ m, m = s.sz.length - i1m.toNat := ⟨_, rfl⟩
    obtain ⟨k2, hk2⟩ : ∃ m, m = c6 - i1m.toNat := ⟨_, rfl⟩
    rw [← hm2e, ← hk2] at hcutB
    have ei1 : i1m.toNat = m + 1 := by omega
    have HCD : Aside0 (Kd.C (Kd.int .u64) W10.drew DD m2 (s.sz.drop (m + 1))) := ⟨by rw [hDD, hm2e, ei1, ← List.length_drop]; exact Kd.C_drew hCd⟩
    have HCUT : Aside0 (Sz W10.drew w.heap.size (.slice (some ⟨g6, 0, none⟩) m m) (s.sz.take m)) := ⟨Sz.cut (W := W10.drew) (c := c6) hg6 hh10 (Kd.C_drew hC10) m (by omega)⟩
    have HLEN : Aside0 (((s.sz.take m).length + m2) * 8 ≤ 140737488355328) := ⟨by rw [List.length_take]; omega⟩
    have HBS : Aside0 (w.heap.size ≤ W10.drew.heap.size) := ⟨HL10.out.below.size⟩
    have ht3 := (blk_cell HB10.out.blk 3).trans rfl
    have HT6 := Aside0.mk hh10
    have HW10 := Aside0.mk hW10
    have HHG := Aside0.mk hg6
    have HLX := Aside0.mk hl6
    clear hne hnp hne2 hsz40 hj4 hm hum hh6 hC6 hne6 hC10 hxx hxb hxs himv I24 hi24 hs24 hCd hDD hm2e hk2 ei1 hh10 hg6 hl6 e62 hW10
    have hwl := HWL.out
    have hun := HUN.out
    have htm := HTM.out
    have hwm := HWM.out
    have hwm2 : IntKind.i64.wrap (m : Int) = (m : Int) := (i64_w _).trans HWM.out
    have hy2 := HY2.out
    have himw : IntKind.i64.wrap ((m : Int) + 1) = i1m := (i64_w _).trans HIM.out
    have himw2 := HIM.out
    go_upto_region 27 with fail
    rw [← HW10.out]
    refine start_ (n := 13) (S := fun w' => w'.cell? ⟨gb, 3, none⟩ = some (.int .i64 (m : Int))) (ds := []) #[false, false, false, false, false, false, false, false, false, false, false, false, false] (by kernel_rfl) rfl rfl (ht3) (fun hHeld => ?_)
    refine pure_ (i := 0) (N := some 95) (v := ?_) (a' := ?_) #[true, false, false, false, false, false, false, false, false, false, false, false, false] rfl rfl (by kernel_rfl) (fun _ _ _ h => h) (Or.inl ⟨by rfl, ?_⟩) ?_ ?_
    rotate_left
    ·intro w'
     go_simp
     with_reducible rfl
    rotate_left
    ·simp only [Act.put, List.setIfInBounds_toArray, List.set_cons_zero, List.set_cons_succ, i64_w, i32_w]
     rfl
    refine pure_ (i := 1) (N := some 96) (v := ?_) (a' := ?_) #[true, true, false, false, false, false, false, false, false, false, false, false, false] rfl rfl (by kernel_rfl) (fun _ _ _ h => h) (Or.inl ⟨by rfl, ?_⟩) ?_ ?_
    rotate_left
    ·intro w'
     go_simp
     with_reducible rfl
    rotate_left
    ·simp only [Act.put, List.setIfInBounds_toArray, List.set_cons_zero, List.set_cons_succ, i64_w, i32_w]
     rfl
    refine pure_ (i := 3) (N := some 98) (v := ?_) (a' := ?_) #[true, true, false, true, false, false, false, false, false, false, false, false, false] rfl rfl (by kernel_rfl) (fun _ _ _ h => h) (Or.inl ⟨by rfl, ?_⟩) ?_ ?_
    rotate_left
    ·intro w'
     go_simp
     with_reducible rfl
    rotate_left
    ·simp only [Act.put, List.setIfInBounds_toArray, List.set_cons_zero, List.set_cons_succ, i64_w, i32_w]
     rfl
    refine pure_ (i := 6) (N := some 101) (v := ?_) (a' := ?_) #[true, true, false, true, false, false, true, false, false, false, false, false, false] rfl rfl (by kernel_rfl) (fun _ _ _ h => h) (Or.inl ⟨by rfl, ?_⟩) ?_ ?_
    rotate_left
    ·intro w'
     go_simp
     with_reducible rfl
    rotate_left
    ·simp only [Act.put, List.setIfInBounds_toArray, List.set_cons_zero, List.set_cons_succ, i64_w, i32_w]
     rfl
    refine pure_ (i := 7) (N := some 102) (v := ?_) (a' := ?_) #[true, true, false, true, false, false, true, true, false, false, false, false, false] rfl rfl (by kernel_rfl) (fun _ _ _ h => h) (Or.inl ⟨by rfl, ?_⟩) ?_ ?_
    rotate_left
    ·intro w'
     go_simp
     with_reducible rfl
    rotate_left
    ·simp only [Act.put, List.setIfInBounds_toArray, List.set_cons_zero, List.set_cons_succ, i64_w, i32_w]
     rfl
    refine take_ (i := 2) (N := some 97) (v := ?_) (a' := ?_) #[true, true, true, true, false, false, true, true, false, false, false, false, false] rfl rfl (by kernel_rfl) (fun _ _ _ h => h) (Or.inl ⟨by rfl, ?_⟩) hHeld ?_ ?_
    rotate_left
    ·intro w' s0
     go_simp
     with_reducible rfl
    rotate_left
    ·simp only [Act.put, List.setIfInBounds_toArray, List.set_cons_zero, List.set_cons_succ, i64_w, i32_w]
     rfl
    refine take_ (i := 4) (N := some 99) (v := ?_) (a' := ?_) #[true, true, true, true, true, false, true, true, false, false, false, false, false] rfl rfl (by kernel_rfl) (fun _ _ _ h => h) (Or.inl ⟨by rfl, ?_⟩) hHeld ?_ ?_
    rotate_left
    ·intro w' s0
     go_simp
     with_reducible rfl
    rotate_left
    ·simp only [Act.put, List.setIfInBounds_toArray, List.set_cons_zero, List.set_cons_succ, i64_w, i32_w]
     rfl
    refine pure_ (i := 5) (N := some 100) (v := ?_) (a' := ?_) #[true, true, true, true, true, true, true, true, false, false, false, false, false] rfl rfl (by kernel_rfl) (fun _ _ _ h => h) (Or.inl ⟨by rfl, ?_⟩) ?_ ?_
    rotate_left
    ·intro w'
     go_simp
     with_reducible rfl
    rotate_left
    ·simp only [Act.put, List.setIfInBounds_toArray, List.set_cons_zero, List.set_cons_succ, i64_w, i32_w]
     rfl
    refine take_ (i := 8) (N := some 103) (v := ?_) (a' := ?_) #[true, true, true, true, true, true, true, true, true, false, false, false, false] rfl rfl (by kernel_rfl) (fun _ _ _ h => h) (Or.inl ⟨by rfl, ?_⟩) hHeld ?_ ?_
    rotate_left
    ·intro w' s0
     go_simp
     with_reducible rfl
    rotate_left
    ·simp only [Act.put, List.setIfInBounds_toArray, List.set_cons_zero, List.set_cons_succ, i64_w, i32_w]
     rfl
    refine pure_ (i := 9) (N := some 104) (v := ?_) (a' := ?_) #[true, true, true, true, true, true, true, true, true, true, false, false, false] rfl rfl (by kernel_rfl) (fun _ _ _ h => h) (Or.inl ⟨by rfl, ?_⟩) ?_ ?_
    rotate_left
    ·intro w'
     go_simp
     with_reducible rfl
    rotate_left
    ·simp only [Act.put, List.setIfInBounds_toArray, List.set_cons_zero, List.set_cons_succ, i64_w, i32_w]
     rfl
    refine pure_ (i := 10) (N := some 105) (v := ?_) (a' := ?_) #[true, true, true, true, true, true, true, true, true, true, true, false, false] rfl rfl (by kernel_rfl) (fun _ _ _ h => h) (Or.inl ⟨by rfl, ?_⟩) ?_ ?_
    rotate_left
    ·intro w'
     go_simp
     with_reducible rfl
    rotate_left
    ·simp only [Act.put, List.setIfInBounds_toArray, List.set_cons_zero, List.set_cons_succ, i64_w, i32_w]
     rfl
    refine one_ (i := 11) (N := some 106) #[true, true, true, true, true, true, true, true, true, true, true, true, false] rfl rfl (by kernel_rfl) (by decide) (fun K hK => ?_)
    obtain ⟨v6n, wb, hrun, hS, hG, hat⟩ := Sz.append (W := W10.drew) HCUT.out HBS.out 50 (A := DD) (m := m2) (c := k2) (ys := s.sz.drop (m + 1)) HCD.out HLEN.out
    refine append_step (by rfl) (.tmp 100) (.tmp 105) rfl rfl rfl hrun ?_
    have HSA := Aside0.mk hS
    have HGA := Aside0.mk hG
    have HBA := Aside0.mk (HB10.out.grow (below_drew (Below.refl _ _)) hG (fun k hk => by have e : g6 = k := (by simpa [Value.ownBlock] using hk); subst e; exact HT6.out))
    have hs0 := (blk_cell HBA.out.blk 0).trans rfl
    have hs1 := (blk_cell HBA.out.blk 1).trans rfl
    have hs2 := (blk_cell HBA.out.blk 2).trans rfl
    have hs3 := (blk_cell HBA.out.blk 3).trans rfl
    clear hrun hS hG hat ht3
    refine hK.out _ _ (hs3) (fun hHeld => ?_)
    clear hK K
    refine norm_ (a' := ?_) ?_ ?_
    rotate_left
    ·show Act.put _ (some 106) _ = _
     simp only [Act.put, List.setIfInBounds_toArray, List.set_cons_zero, List.set_cons_succ, i64_w, i32_w]
     rfl
    refine pure_ (i := 12) (N := some 6) (v := ?_) (a' := ?_) #[true, true, true, true, true, true, true, true, true, true, true, true, true] rfl rfl (by kernel_rfl) (fun _ _ _ h => h) (Or.inl ⟨by rfl, ?_⟩) ?_ ?_
    rotate_left
    ·intro w'
     go_simp
     with_reducible rfl
    rotate_left
    ·simp only [Act.put, List.setIfInBounds_toArray, List.set_cons_zero, List.set_cons_succ, i64_w, i32_w]
     rfl
    refine done_ (by kernel_rfl) ?_

    have HLA : Aside0 (LW w wb { s with sz := s.sz.eraseIdx m } (.slice A5 s.st.length c5) v6n (.slice A7 s.da.length c7)) := ⟨HL10.out.setSizes (below_drew (Below.refl _ _)) HGA.out (by rw [← erase_eq]; exact HSA.out)⟩
    go_wp2_with (first
     | (at_builtin; refine Kd.R_append k65 (w0 := w) w.heap.size rfl (.tmp 118) (.tmp 120) 62 65 (.agg #[.int .i64 0, .slice none 0 0, .int .u64 0, .int .i64 0]) 48 rfl Tryd.underlying62 I65.out rfl (by decide) (by decide) (.slice A5 s.st.length c5) s.st ⟨2, xs, z, (m : Int)⟩ [.int .i64 2, .slice (some A9) xs.length c9, .int .u64 z, .int .i64 (m : Int)] (fun _ => True) (fun k => wr.heap.size ≤ k) rfl rfl (HBA.out.elem HWR.out) HAP.out (fun _ _ => trivial) HLA.out.steps HLA.out.below HLA.out.below.size (by have := HLI.out.st; have := HJ2.out; have := HL40.out; omega) ?_; intro v1 wz hR hb hg hat; have HFIN := Aside0.mk (HLA.out.push (Below.refl _ _) hR hb hg); clear hR hb hg hat))
    go_roundg (gk - 1)
    case measure => have := HJ2.out; omega
    case rel =>
     refine ⟨i1, _, _, rfl, rfl, rfl, ⟨j + 1, HI1.out, by have := HJ2.out; omega, ?_⟩⟩
     rw [HST.out]
     have hls := HNE.out
     rw [hls]
     have hst := HLI.out.step HJJ.out HXO.out
     rw [hls] at hst
     exact ⟨HSM.out, rfl, ⟨HFIN.out.below, HFIN.out.steps, HFIN.out.sizes, HFIN.out.data⟩, hst⟩
   by_cases h3 : a = 3
   ·subst h3
    clear h0 h1 h2
    have hq2 : IntKind.u64.wrap (s.da.length : Int) = (s.da.length : Int) := words_u64 _ (by omega) (by have := HLI.out.da; omega)
    have HLA : Aside0 (LW w W9 { s with sz := [] } (.slice A5 s.st.length c5) (.slice none 0 0) (.slice A7 s.da.length c7)) := ⟨⟨HL9.out.below, HL9.out.steps, Sz.nil _ _, HL9.out.data⟩⟩
    go_wp2_with (first
     | (at_builtin; refine Kd.R_append k65 (w0 := w) w.heap.size rfl (.tmp 118) (.tmp 120) 62 65 (.agg #[.int .i64 0, .slice none 0 0, .int .u64 0, .int .i64 0]) 48 rfl Tryd.underlying62 I65.out rfl (by decide) (by decide) (.slice A5 s.st.length c5) s.st ⟨3, xs, z, ix⟩ [.int .i64 3, .slice (some A9) xs.length c9, .int .u64 z, .int .i64 ix] (fun _ => True) (fun k => wr.heap.size ≤ k) rfl rfl (HB9.out.elem HWR.out) HAP.out (fun _ _ => trivial) HLA.out.steps HLA.out.below HLA.out.below.size (by have := HLI.out.st; have := HJ2.out; have := HL40.out; omega) ?_; intro v1 wz hR hb hg hat; have HFIN := Aside0.mk (HLA.out.push (Below.refl _ _) hR hb hg); clear hR hb hg hat))
    go_roundg (gk - 1)
    case measure => have := HJ2.out; omega
    case rel =>
     refine ⟨i1, _, _, rfl, rfl, rfl, ⟨j + 1, HI1.out, by have := HJ2.out; omega, ?_⟩⟩
     rw [HST.out]
     have hls := lstep_3 s xs z ix
     rw [hls]
     have hst := HLI.out.step HJJ.out HXO.out
     rw [hls] at hst
     exact ⟨rfl, rfl, ⟨HFIN.out.below, HFIN.out.steps, HFIN.out.sizes, HFIN.out.data⟩, hst⟩
   by_cases h4 : a = 4
   ·subst h4
    clear h0 h1 h2 h3
    obtain ⟨y2, hy2⟩ : ∃ y2 : Int, IntKind.u64.wrap ((s.sum : Int) + z) = y2 := ⟨_, rfl⟩
    have HSM : Aside0 (y2 = ((s.sum + z.toNat : Nat) : Int)) := ⟨by rw [← hy2]; exact u64_add _ _ HXB.out.1.1 HXO.out.s1 HSB.out⟩
    go_wp2_with (first
     | (at_builtin; refine Kd.R_append k65 (w0 := w) w.heap.size rfl (.tmp 118) (.tmp 120) 62 65 (.agg #[.int .i64 0, .slice none 0 0, .int .u64 0, .int .i64 0]) 48 rfl Tryd.underlying62 I65.out rfl (by decide) (by decide) (.slice A5 s.st.length c5) s.st ⟨4, xs, z, ix⟩ [.int .i64 4, .slice (some A9) xs.length c9, .int .u64 z, .int .i64 ix] (fun _ => True) (fun k => wr.heap.size ≤ k) rfl rfl (HB9.out.elem HWR.out) HAP.out (fun _ _ => trivial) HL9.out.steps HL9.out.below HL9.out.below.size (by have := HLI.out.st; have := HJ2.out; have := HL40.out; omega) ?_; intro v1 wz hR hb hg hat; have HFIN := Aside0.mk (HL9.out.push (Below.refl _ _) hR hb hg); clear hR hb hg hat))
    go_roundg (gk - 1)
    case measure => have := HJ2.out; omega
    case rel =>
     refine ⟨i1, _, _, rfl, rfl, rfl, ⟨j + 1, HI1.out, by have := HJ2.out; omega, ?_⟩⟩
     rw [HST.out]
     have hls := lstep_4 s xs z ix
     rw [hls]
     have hst := HLI.out.step HJJ.out HXO.out
     rw [hls] at hst
     exact ⟨HSM.out, rfl, ⟨HFIN.out.below, HFIN.out.steps, HFIN.out.sizes, HFIN.out.data⟩, hst⟩
   ·
    have hn0 : (a == 0) = false := beq_false_of_ne h0
    have hn1 : (a == 1) = false := beq_false_of_ne h1
    have hn2 : (a == 2) = false := beq_false_of_ne h2
    have hn3 : (a == 3) = false := beq_false_of_ne h3
    have hn4 : (a == 4) = false := beq_false_of_ne h4
    have HNE := Aside0.mk (lstep_n s a xs z ix h0 h1 h2 h3 h4)
    clear h0 h1 h2 h3 h4
    go_wp2_with fail
    go_roundg (gk - 1)
    case measure => have := HJ2.out; omega
    case rel =>
     refine ⟨i1, _, _, rfl, rfl, rfl, ⟨j + 1, HI1.out, by have := HJ2.out; omega, ?_⟩⟩
     rw [HST.out]
     have hls := HNE.out
     rw [hls]
     have hst := HLI.out.step HJJ.out HXO.out
     rw [hls] at hst
     exact ⟨rfl, rfl, ⟨HL9.out.below, HL9.out.steps, HL9.out.sizes, HL9.out.data⟩, hst⟩
  ·have q0 : decide (i < (l.length : Int)) = false := decide_eq_false hi
   obtain ⟨j, hij, hjk, hsm, hhs, hL, hI⟩ := HJ.out
   have hj40 := HL40.out
   have HJB : Aside0 (j ≤ 1000) := ⟨by omega⟩
   obtain ⟨s, hsd⟩ : ∃ s, s = lrun (l.take j) := ⟨_, rfl⟩
   rw [← hsd] at hL hI hsm hhs
   have HLI := Aside0.mk hI
   have HWR := Aside0.mk hL.below.size
   obtain ⟨A5, c5, e5⟩ := Kd.R_slice hL.steps
   obtain ⟨A6, c6, e6, hl6, hC6⟩ := hL.sizes.slice
   obtain ⟨A7, c7, e7⟩ := Kd.R_slice hL.data
   subst e5 e6 e7
   subst hsm hhs
   have HLW := Aside0.mk hL
   have HLs6 := Aside0.mk hl6
   have HLd7 := Aside0.mk (Kd.R_reads' hL.data).2.1
   have HC6 := Aside0.mk hC6
   have HKB : Aside0 (k < 1000) := ⟨by have h1 := HKK.out; have h2 := HKD.out; omega⟩
   have HTK : Aside0 (Int.tmod kd 6 = (k : Int)) := ⟨by have h1 := HKK.out; have h2 := HKD.out; rw [Int.tmod_eq_emod_of_nonneg h2.1]; omega⟩
   have HWK : Aside0 (wrap64 (k : Int) = (k : Int)) := ⟨by have := HKB.out; unfold wrap64; omega⟩
   have htk := HTK.out
   have hwk := HWK.out
   have hwk2 : IntKind.i64.wrap (k : Int) = (k : Int) := (i64_w _).trans HWK.out
   clear hij hjk hj40 hsd hL hI hl6 hC6 HJ hi
   go_upto_region 37 with (first
    | (go_at_call 36; refine (FSEd_s _ k s j HLI.out HKB.out HJB.out A5 c5 (Kd.R_reads' HLW.out.steps).2.2).mono ?_; rintro e w36 ⟨A1, k1, A3, k3, AB, kB, rfl, h1, h3, hb, hB⟩; have HR1 := Aside0.mk h1; have HR3 := Aside0.mk h3; have HRB := Aside0.mk hb; have HB36 := Aside0.mk hB; clear h1 h3 hb hB)
    | ((with_reducible refine gate_dst (N := 13) rfl ?_); refine box_event ?hg (N := 13) ?hd (cs := #[.int .i64 0, .slice none 0 0, .int .u64 0, .slice none 0 0, .int .u64 0, .int .u64 0]) (t := 56) ?hr ?_; (case hd => rfl); (case hg => rfl); (case hr => first | (go_simp; done) | (go_simp; rfl)); intro g13 hgb w13 hbox hb; have BK13 := Aside0.mk hbox; have GE13 : Aside0 (w36.heap.size ≤ g13) := ⟨by rw [hgb]; exact Nat.le_refl _⟩; have HBW13 := Aside0.mk hb; have hcz0 : w13.cell? ⟨g13, 0, none⟩ = some (.int .i64 0) := (blk_cell BK13.out 0).trans rfl; have hfz0 := blk_frozen BK13.out 0; have hcz1 : w13.cell? ⟨g13, 1, none⟩ = some (.slice none 0 0) := (blk_cell BK13.out 1).trans rfl; have hfz1 := blk_frozen BK13.out 1; have hcz2 : w13.cell? ⟨g13, 2, none⟩ = some (.int .u64 0) := (blk_cell BK13.out 2).trans rfl; have hfz2 := blk_frozen BK13.out 2; have hcz3 : w13.cell? ⟨g13, 3, none⟩ = some (.slice none 0 0) := (blk_cell BK13.out 3).trans rfl; have hfz3 := blk_frozen BK13.out 3; have hcz4 : w13.cell? ⟨g13, 4, none⟩ = some (.int .u64 0) := (blk_cell BK13.out 4).trans rfl; have hfz4 := blk_frozen BK13.out 4; have hcz5 : w13.cell? ⟨g13, 5, none⟩ = some (.int .u64 0) := (blk_cell BK13.out 5).trans rfl; have hfz5 := blk_frozen BK13.out 5; clear hb hbox hgb))
   obtain ⟨W13, hW13⟩ : ∃ W_, W_ = set6 w13 g13 (.int .i64 (k : Int)) (.slice A1 s.da.length k1) (.int .u64 (fsz (dOf k s))) (.slice A3 s.sz.length k3) (.int .u64 0) (.int .u64 0) := ⟨_, rfl⟩
   have HX13 : Aside0 (Below w36.heap.size w36 W13) := ⟨by rw [hW13]; exact set6_below HBW13.out GE13.out _ _ _ _ _ _⟩
   have HG13 : Aside0 (W13.heap[g13]? = some (.cells #[.int .i64 (k : Int), .slice A1 s.da.length k1, .int .u64 (fsz (dOf k s)), .slice A3 s.sz.length k3, .int .u64 0, .int .u64 0] 56 (0, 0))) := ⟨by rw [hW13]; exact set6_blk BK13.out _ _ _ _ _ _⟩
   unfold set6 at hW13
   rw [← hW13]
   clear hW13 hcz0 hfz0 hcz1 hfz1 hcz2 hfz2 hcz3 hfz3 hcz4 hfz4 hcz5 hfz5
   go_upto_region 38 with ((with_reducible refine gate_dst (N := 16) rfl ?_); refine box_event ?hg (N := 16) ?hd (cs := #[.int .i64 0, .slice none 0 0, .int .u64 0, .slice none 0 0, .int .u64 0, .int .u64 0]) (t := 56) ?hr ?_; (case hd => rfl); (case hg => rfl); (case hr => first | (go_simp; done) | (go_simp; rfl)); intro g16 hgb w16 hbox hb; have BK16 := Aside0.mk hbox; have GE16 : Aside0 (W13.heap.size ≤ g16) := ⟨by rw [hgb]; exact Nat.le_refl _⟩; have HBW16 := Aside0.mk hb; have hcz0 : w16.cell? ⟨g16, 0, none⟩ = some (.int .i64 0) := (blk_cell BK16.out 0).trans rfl; have hfz0 := blk_frozen BK16.out 0; have hcz1 : w16.cell? ⟨g16, 1, none⟩ = some (.slice none 0 0) := (blk_cell BK16.out 1).trans rfl; have hfz1 := blk_frozen BK16.out 1; have hcz2 : w16.cell? ⟨g16, 2, none⟩ = some (.int .u64 0) := (blk_cell BK16.out 2).trans rfl; have hfz2 := blk_frozen BK16.out 2; have hcz3 : w16.cell? ⟨g16, 3, none⟩ = some (.slice none 0 0) := (blk_cell BK16.out 3).trans rfl; have hfz3 := blk_frozen BK16.out 3; have hcz4 : w16.cell? ⟨g16, 4, none⟩ = some (.int .u64 0) := (blk_cell BK16.out 4).trans rfl; have hfz4 := blk_frozen BK16.out 4; have hcz5 : w16.cell? ⟨g16, 5, none⟩ = some (.int .u64 0) := (blk_cell BK16.out 5).trans rfl; have hfz5 := blk_frozen BK16.out 5; clear hb hbox hgb)
   obtain ⟨W16, hW16⟩ : ∃ W_, W_ = set6 w16 g16 (.int .i64 (k : Int)) (.slice A7 s.da.length c7) (.int .u64 (s.sum : Int)) (.slice A6 s.sz.length c6) (.int .u64 0) (.int .u64 0) := ⟨_, rfl⟩
   have HX16 : Aside0 (Below W13.heap.size W13 W16) := ⟨by rw [hW16]; exact set6_below HBW16.out GE16.out _ _ _ _ _ _⟩
   have HG16 : Aside0 (W16.heap[g16]? = some (.cells #[.int .i64 (k : Int), .slice A7 s.da.length c7, .int .u64 (s.sum : Int), .slice A6 s.sz.length c6, .int .u64 0, .int .u64 0] 56 (0, 0))) := ⟨by rw [hW16]; exact set6_blk BK16.out _ _ _ _ _ _⟩
   unfold set6 at hW16
   rw [← hW16]
   clear hW16 hcz0 hfz0 hcz1 hfz1 hcz2 hfz2 hcz3 hfz3 hcz4 hfz4 hcz5 hfz5
   go_upto_region 39 with (first
    | (go_at_call 37; refine (Msg_s _ k s j HLI.out HKB.out HJB.out AB kB (.inr ⟨_, Kd.R_below (Kd.R_below HRB.out HX13.out) HX16.out⟩)).mono ?_; rintro e w38 ⟨A2, k2, A4, k4, rfl, h1, h3, hB⟩; have HR2 := Aside0.mk h1; have HR4 := Aside0.mk h3; have HB38 := Aside0.mk hB; clear h1 h3 hB)
    | ((with_reducible refine gate_dst (N := 17) rfl ?_); refine box_event ?hg (N := 17) ?hd (cs := #[.int .i64 0, .slice none 0 0, .int .u64 0, .slice none 0 0, .int .u64 0, .int .u64 0]) (t := 56) ?hr ?_; (case hd => rfl); (case hg => rfl); (case hr => first | (go_simp; done) | (go_simp; rfl)); intro g17 hgb w17 hbox hb; have BK17 := Aside0.mk hbox; have GE17 : Aside0 (w38.heap.size ≤ g17) := ⟨by rw [hgb]; exact Nat.le_refl _⟩; have HBW17 := Aside0.mk hb; have hcz0 : w17.cell? ⟨g17, 0, none⟩ = some (.int .i64 0) := (blk_cell BK17.out 0).trans rfl; have hfz0 := blk_frozen BK17.out 0; have hcz1 : w17.cell? ⟨g17, 1, none⟩ = some (.slice none 0 0) := (blk_cell BK17.out 1).trans rfl; have hfz1 := blk_frozen BK17.out 1; have hcz2 : w17.cell? ⟨g17, 2, none⟩ = some (.int .u64 0) := (blk_cell BK17.out 2).trans rfl; have hfz2 := blk_frozen BK17.out 2; have hcz3 : w17.cell? ⟨g17, 3, none⟩ = some (.slice none 0 0) := (blk_cell BK17.out 3).trans rfl; have hfz3 := blk_frozen BK17.out 3; have hcz4 : w17.cell? ⟨g17, 4, none⟩ = some (.int .u64 0) := (blk_cell BK17.out 4).trans rfl; have hfz4 := blk_frozen BK17.out 4; have hcz5 : w17.cell? ⟨g17, 5, none⟩ = some (.int .u64 0) := (blk_cell BK17.out 5).trans rfl; have hfz5 := blk_frozen BK17.out 5; clear hb hbox hgb))
   obtain ⟨W17, hW17⟩ : ∃ W_, W_ = set6 w17 g17 (.int .i64 (k : Int)) (.slice A2 s.da.length k2) (.int .u64 (s.sum : Int)) (.slice A4 s.sz.length k4) (.int .u64 0) (.int .u64 0) := ⟨_, rfl⟩
   have HX17 : Aside0 (Below w38.heap.size w38 W17) := ⟨by rw [hW17]; exact set6_below HBW17.out GE17.out _ _ _ _ _ _⟩
   have HG17 : Aside0 (W17.heap[g17]? = some (.cells #[.int .i64 (k : Int), .slice A2 s.da.length k2, .int .u64 (s.sum : Int), .slice A4 s.sz.length k4, .int .u64 0, .int .u64 0] 56 (0, 0))) := ⟨by rw [hW17]; exact set6_blk BK17.out _ _ _ _ _ _⟩
   unfold set6 at hW17
   rw [← hW17]
   clear hW17 hcz0 hfz0 hcz1 hfz1 hcz2 hfz2 hcz3 hfz3 hcz4 hfz4 hcz5 hfz5
   have HKr17 := Aside0.mk (blk_drew HG17.out)
   have HKr16 := Aside0.mk (blk_drew ((HX17.out.block _ (blk_lt ((HB38.out.block _ (blk_lt HG16.out)).trans HG16.out))).trans ((HB38.out.block _ (blk_lt HG16.out)).trans HG16.out)))
   have HG13b := Aside0.mk ((HX16.out.block _ (blk_lt HG13.out)).trans HG13.out)
   have HKr13 := Aside0.mk (blk_drew ((HX17.out.block _ (blk_lt ((HB38.out.block _ (blk_lt HG13b.out)).trans HG13b.out))).trans ((HB38.out.block _ (blk_lt HG13b.out)).trans HG13b.out)))
   have HB13 := Aside0.mk (below_step HB36.out HX13.out)
   have HB16 := Aside0.mk (below_step HB13.out HX16.out)
   have HB38b := Aside0.mk (below_step HB16.out HB38.out)
   have HB17 := Aside0.mk (below_step HB38b.out HX17.out)
   have HDr : Aside0 (Below W17.heap.size W17 W17.drew) := ⟨below_drew (Below.refl _ _)⟩
   have HDW : Aside0 (Below w.heap.size w W17) := ⟨below_step HLW.out.below HB17.out⟩
   have HC16d := Aside0.mk (Kd.C_below (Kd.R_reads' HLW.out.data).2.2 HB17.out)
   have HC16s := Aside0.mk (Kd.C_below HC6.out HB17.out)
   have HC13d := Aside0.mk (Kd.C_below (Kd.C_below (Kd.C_below (Kd.C_below (Kd.R_reads' HR1.out).2.2 HX13.out) HX16.out) HB38.out) HX17.out)
   have HC13s := Aside0.mk (Kd.C_below (Kd.C_below (Kd.C_below (Kd.C_below (Kd.R_reads' HR3.out).2.2 HX13.out) HX16.out) HB38.out) HX17.out)
   have HC17d := Aside0.mk (Kd.C_below (Kd.R_reads' HR2.out).2.2 HX17.out)
   have HC17s := Aside0.mk (Kd.C_below (Kd.R_reads' HR4.out).2.2 HX17.out)
   have HLd1 := Aside0.mk (Kd.R_reads' HR1.out).2.1
   have HLs3 := Aside0.mk (Kd.R_reads' HR3.out).2.1
   have HLd2 := Aside0.mk (Kd.R_reads' HR2.out).2.1
   have HLs4 := Aside0.mk (Kd.R_reads' HR4.out).2.1
   have hb13_0 : W17.cell? ⟨g13, 0, none⟩ = some (.int .i64 (k : Int)) := (blk_cell HKr13.out 0).trans rfl
   have hb13_1 : W17.cell? ⟨g13, 1, none⟩ = some (.slice A1 s.da.length k1) := (blk_cell HKr13.out 1).trans rfl
   have hb13_2 : W17.cell? ⟨g13, 2, none⟩ = some (.int .u64 (fsz (dOf k s))) := (blk_cell HKr13.out 2).trans rfl
   have hb13_3 : W17.cell? ⟨g13, 3, none⟩ = some (.slice A3 s.sz.length k3) := (blk_cell HKr13.out 3).trans rfl
   have hb13_4 : W17.cell? ⟨g13, 4, none⟩ = some (.int .u64 0) := (blk_cell HKr13.out 4).trans rfl
   have hb13_5 : W17.cell? ⟨g13, 5, none⟩ = some (.int .u64 0) := (blk_cell HKr13.out 5).trans rfl
   have hb16_0 : W17.cell? ⟨g16, 0, none⟩ = some (.int .i64 (k : Int)) := (blk_cell HKr16.out 0).trans rfl
   have hb16_1 : W17.cell? ⟨g16, 1, none⟩ = some (.slice A7 s.da.length c7) := (blk_cell HKr16.out 1).trans rfl
   have hb16_2 : W17.cell? ⟨g16, 2, none⟩ = some (.int .u64 (s.sum : Int)) := (blk_cell HKr16.out 2).trans rfl
   have hb16_3 : W17.cell? ⟨g16, 3, none⟩ = some (.slice A6 s.sz.length c6) := (blk_cell HKr16.out 3).trans rfl
   have hb16_4 : W17.cell? ⟨g16, 4, none⟩ = some (.int .u64 0) := (blk_cell HKr16.out 4).trans rfl
   have hb16_5 : W17.cell? ⟨g16, 5, none⟩ = some (.int .u64 0) := (blk_cell HKr16.out 5).trans rfl
   have hb17_0 : W17.cell? ⟨g17, 0, none⟩ = some (.int .i64 (k : Int)) := (blk_cell HKr17.out 0).trans rfl
   have hb17_1 : W17.cell? ⟨g17, 1, none⟩ = some (.slice A2 s.da.length k2) := (blk_cell HKr17.out 1).trans rfl
   have hb17_2 : W17.cell? ⟨g17, 2, none⟩ = some (.int .u64 (s.sum : Int)) := (blk_cell HKr17.out 2).trans rfl
   have hb17_3 : W17.cell? ⟨g17, 3, none⟩ = some (.slice A4 s.sz.length k4) := (blk_cell HKr17.out 3).trans rfl
   have hb17_4 : W17.cell? ⟨g17, 4, none⟩ = some (.int .u64 0) := (blk_cell HKr17.out 4).trans rfl
   have hb17_5 : W17.cell? ⟨g17, 5, none⟩ = some (.int .u64 0) := (blk_cell HKr17.out 5).trans rfl
   cases hhas : s.has with
   | true =>
    refine start_ (n := 31) (S := fun w' => w'.cell? ⟨g13, 0, none⟩ = some (.int .i64 (k : Int)) ∧ w'.cell? ⟨g13, 1, none⟩ = some (.slice A1 s.da.length k1) ∧ w'.cell? ⟨g13, 2, none⟩ = some (.int .u64 (fsz (dOf k s))) ∧ w'.cell? ⟨g13, 3, none⟩ = some (.slice A3 s.sz.length k3) ∧ w'.cell? ⟨g13, 4, none⟩ = some (.int .u64 0) ∧ w'.cell? ⟨g13, 5, none⟩ = some (.int .u64 0) ∧ w'.cell? ⟨g16, 0, none⟩ = some (.int .i64 (k : Int)) ∧ w'.cell? ⟨g16, 1, none⟩ = some (.slice A7 s.da.length c7) ∧ w'.cell? ⟨g16, 2, none⟩ = some (.int .u64 (s.sum : Int)) ∧ w'.cell? ⟨g16, 3, none⟩ = some (.slice A6 s.sz.length c6) ∧ w'.cell? ⟨g16, 4, none⟩ = some (.int .u64 0) ∧ w'.cell? ⟨g16, 5, none⟩ = some (.int .u64 0) ∧ w'.cell? ⟨g17, 0, none⟩ = some (.int .i64 (k : Int)) ∧ w'.cell? ⟨g17, 1, none⟩ = some (.slice A2 s.da.length k2) ∧ w'.cell? ⟨g17, 2, none⟩ = some (.int .u64 (s.sum : Int)) ∧ w'.cell? ⟨g17, 3, none⟩ = some (.slice A4 s.sz.length k4) ∧ w'.cell? ⟨g17, 4, none⟩ = some (.int .u64 0) ∧ w'.cell? ⟨g17, 5, none⟩ = some (.int .u64 0)) (ds := []) #[false, false, false, false, false, false, false, false, false, false, false, false, false, false, false, false, false, false, false, false, false, false, false, false, false, false, false, false, false, false, false] (by kernel_rfl) rfl rfl ⟨hb13_0, hb13_1, hb13_2, hb13_3, hb13_4, hb13_5, hb16_0, hb16_1, hb16_2, hb16_3, hb16_4, hb16_5, hb17_0, hb17_1, hb17_2, hb17_3, hb17_4, hb17_5⟩ (fun hHeld => ?_)
    refine take_ (i := 0) (N := some 143) (v := ?_) (a' := ?_) #[true, false, false, false, false, false, false, false, false, false, false, false, false, false, false, false, false, false, false, false, false, false, false, false, false, false, false, false, false, false, false] rfl rfl (by kernel_rfl) (fun _ _ _ h => h) (Or.inl ⟨by rfl, ?_⟩) hHeld ?_ ?_
    rotate_left
    ·rintro w' ⟨s0, s1, s2, s3, s4, s5, s6, s7, s8, s9, s10, s11, s12, s13, s14, s15, s16, s17⟩
     go_simp
     with_reducible rfl
    rotate_left
    ·simp only [Act.put, List.setIfInBounds_toArray, List.set_cons_zero, List.set_cons_succ, i64_w, i32_w]
     rfl
    refine take_ (i := 1) (N := some 144) (v := ?_) (a' := ?_) #[true, true, false, false, false, false, false, false, false, false, false, false, false, false, false, false, false, false, false, false, false, false, false, false, false, false, false, false, false, false, false] rfl rfl (by kernel_rfl) (fun _ _ _ h => h) (Or.inl ⟨by rfl, ?_⟩) hHeld ?_ ?_
    rotate_left
    ·rintro w' ⟨s0, s1, s2, s3, s4, s5, s6, s7, s8, s9, s10, s11, s12, s13, s14, s15, s16, s17⟩
     go_simp
     with_reducible rfl
    rotate_left
    ·simp only [Act.put, List.setIfInBounds_toArray, List.set_cons_zero, List.set_cons_succ, i64_w, i32_w]
     rfl
    refine one_ (i := 2) (N := some 145) #[true, true, true, false, false, false, false, false, false, false, false, false, false, false, false, false, false, false, false, false, false, false, false, false, false, false, false, false, false, false, false] rfl rfl (by kernel_rfl) (by decide) (fun K hK => ?_)
    refine goes_ Tryd.func34 (by kernel_rfl) rfl #[(.agg #[.int .i64 (k : Int), .slice A7 s.da.length c7, .int .u64 (s.sum : Int), .slice A6 s.sz.length c6, .int .u64 0, .int .u64 0])] (by rfl) rfl rfl (by simp only [List.map_toArray, List.map_cons, List.map_nil]; rfl) ?_
    with_reducible refine (Told_s _ k s j HLI.out A7 c7 A6 c6 (Kd.C_below HC16d.out HDr.out) HLd7.out (Kd.C_below HC16s.out HDr.out) HLs6.out).mono ?_
    rintro e wa ⟨rfl, hB⟩
    have HDwa := Aside0.mk (below_step HDr.out hB)
    have HKwa13 := Aside0.mk ((hB.block _ (blk_lt HKr13.out)).trans HKr13.out)
    have HKwa16 := Aside0.mk ((hB.block _ (blk_lt HKr16.out)).trans HKr16.out)
    have HKwa17 := Aside0.mk ((hB.block _ (blk_lt HKr17.out)).trans HKr17.out)
    have ha13_0 : wa.cell? ⟨g13, 0, none⟩ = some (.int .i64 (k : Int)) := (blk_cell HKwa13.out 0).trans rfl
    have ha13_1 : wa.cell? ⟨g13, 1, none⟩ = some (.slice A1 s.da.length k1) := (blk_cell HKwa13.out 1).trans rfl
    have ha13_2 : wa.cell? ⟨g13, 2, none⟩ = some (.int .u64 (fsz (dOf k s))) := (blk_cell HKwa13.out 2).trans rfl
    have ha13_3 : wa.cell? ⟨g13, 3, none⟩ = some (.slice A3 s.sz.length k3) := (blk_cell HKwa13.out 3).trans rfl
    have ha13_4 : wa.cell? ⟨g13, 4, none⟩ = some (.int .u64 0) := (blk_cell HKwa13.out 4).trans rfl
    have ha13_5 : wa.cell? ⟨g13, 5, none⟩ = some (.int .u64 0) := (blk_cell HKwa13.out 5).trans rfl
    have ha16_0 : wa.cell? ⟨g16, 0, none⟩ = some (.int .i64 (k : Int)) := (blk_cell HKwa16.out 0).trans rfl
    have ha16_1 : wa.cell? ⟨g16, 1, none⟩ = some (.slice A7 s.da.length c7) := (blk_cell HKwa16.out 1).trans rfl
    have ha16_2 : wa.cell? ⟨g16, 2, none⟩ = some (.int .u64 (s.sum : Int)) := (blk_cell HKwa16.out 2).trans rfl
    have ha16_3 : wa.cell? ⟨g16, 3, none⟩ = some (.slice A6 s.sz.length c6) := (blk_cell HKwa16.out 3).trans rfl
    have ha16_4 : wa.cell? ⟨g16, 4, none⟩ = some (.int .u64 0) := (blk_cell HKwa16.out 4).trans rfl
    have ha16_5 : wa.cell? ⟨g16, 5, none⟩ = some (.int .u64 0) := (blk_cell HKwa16.out 5).trans rfl
    have ha17_0 : wa.cell? ⟨g17, 0, none⟩ = some (.int .i64 (k : Int)) := (blk_cell HKwa17.out 0).trans rfl
    have ha17_1 : wa.cell? ⟨g17, 1, none⟩ = some (.slice A2 s.da.length k2) := (blk_cell HKwa17.out 1).trans rfl
    have ha17_2 : wa.cell? ⟨g17, 2, none⟩ = some (.int .u64 (s.sum : Int)) := (blk_cell HKwa17.out 2).trans rfl
    have ha17_3 : wa.cell? ⟨g17, 3, none⟩ = some (.slice A4 s.sz.length k4) := (blk_cell HKwa17.out 3).trans rfl
    have ha17_4 : wa.cell? ⟨g17, 4, none⟩ = some (.int .u64 0) := (blk_cell HKwa17.out 4).trans rfl
    have ha17_5 : wa.cell? ⟨g17, 5, none⟩ = some (.int .u64 0) := (blk_cell HKwa17.out 5).trans rfl
    clear hB
    refine ⟨_, rfl, ?_⟩
    refine hK.out _ _ ⟨ha13_0, ha13_1, ha13_2, ha13_3, ha13_4, ha13_5, ha16_0, ha16_1, ha16_2, ha16_3, ha16_4, ha16_5, ha17_0, ha17_1, ha17_2, ha17_3, ha17_4, ha17_5⟩ (fun hHeld => ?_)
    clear hK K
    refine norm_ (a' := ?_) ?_ ?_
    rotate_left
    ·show Act.put _ (some 145) _ = _
     simp only [Act.put, List.setIfInBounds_toArray, List.set_cons_zero, List.set_cons_succ, i64_w, i32_w]
     rfl
    refine one_ (i := 3) (N := some 146) #[true, true, true, true, false, false, false, false, false, false, false, false, false, false, false, false, false, false, false, false, false, false, false, false, false, false, false, false, false, false, false] rfl rfl (by kernel_rfl) (by decide) (fun K hK => ?_)
    refine goes_ Tryd.func33 (by kernel_rfl) rfl #[(.agg #[.int .i64 (k : Int), .slice A1 s.da.length k1, .int .u64 (fsz (dOf k s)), .slice A3 s.sz.length k3, .int .u64 0, .int .u64 0]), (.agg #[.int .i64 (k : Int), .slice A7 s.da.length c7, .int .u64 (fsz (dOf k s)), .slice A6 s.sz.length c6, .int .u64 0, .int .u64 0])] (by rfl) rfl rfl (by simp only [List.map_toArray, List.map_cons, List.map_nil]; rfl) ?_
    with_reducible refine (Same_s _ k s j HLI.out HJB.out _ A1 k1 A3 k3 (Kd.C_below HC13d.out HDwa.out) HLd1.out (Kd.C_below HC13s.out HDwa.out) HLs3.out A7 c7 A6 c6 (Kd.C_below HC16d.out HDwa.out) HLd7.out (Kd.C_below HC16s.out HDwa.out) HLs6.out).mono ?_
    rintro e wb ⟨rfl, hB⟩
    have HDwb := Aside0.mk (below_step HDwa.out hB)
    have HKwb13 := Aside0.mk ((hB.block _ (blk_lt HKwa13.out)).trans HKwa13.out)
    have HKwb16 := Aside0.mk ((hB.block _ (blk_lt HKwa16.out)).trans HKwa16.out)
    have HKwb17 := Aside0.mk ((hB.block _ (blk_lt HKwa17.out)).trans HKwa17.out)
    have hb13_0 : wb.cell? ⟨g13, 0, none⟩ = some (.int .i64 (k : Int)) := (blk_cell HKwb13.out 0).trans rfl
    have hb13_1 : wb.cell? ⟨g13, 1, none⟩ = some (.slice A1 s.da.length k1) := (blk_cell HKwb13.out 1).trans rfl
    have hb13_2 : wb.cell? ⟨g13, 2, none⟩ = some (.int .u64 (fsz (dOf k s))) := (blk_cell HKwb13.out 2).trans rfl
    have hb13_3 : wb.cell? ⟨g13, 3, none⟩ = some (.slice A3 s.sz.length k3) := (blk_cell HKwb13.out 3).trans rfl
    have hb13_4 : wb.cell? ⟨g13, 4, none⟩ = some (.int .u64 0) := (blk_cell HKwb13.out 4).trans rfl
    have hb13_5 : wb.cell? ⟨g13, 5, none⟩ = some (.int .u64 0) := (blk_cell HKwb13.out 5).trans rfl
    have hb16_0 : wb.cell? ⟨g16, 0, none⟩ = some (.int .i64 (k : Int)) := (blk_cell HKwb16.out 0).trans rfl
    have hb16_1 : wb.cell? ⟨g16, 1, none⟩ = some (.slice A7 s.da.length c7) := (blk_cell HKwb16.out 1).trans rfl
    have hb16_2 : wb.cell? ⟨g16, 2, none⟩ = some (.int .u64 (s.sum : Int)) := (blk_cell HKwb16.out 2).trans rfl
    have hb16_3 : wb.cell? ⟨g16, 3, none⟩ = some (.slice A6 s.sz.length c6) := (blk_cell HKwb16.out 3).trans rfl
    have hb16_4 : wb.cell? ⟨g16, 4, none⟩ = some (.int .u64 0) := (blk_cell HKwb16.out 4).trans rfl
    have hb16_5 : wb.cell? ⟨g16, 5, none⟩ = some (.int .u64 0) := (blk_cell HKwb16.out 5).trans rfl
    have hb17_0 : wb.cell? ⟨g17, 0, none⟩ = some (.int .i64 (k : Int)) := (blk_cell HKwb17.out 0).trans rfl
    have hb17_1 : wb.cell? ⟨g17, 1, none⟩ = some (.slice A2 s.da.length k2) := (blk_cell HKwb17.out 1).trans rfl
    have hb17_2 : wb.cell? ⟨g17, 2, none⟩ = some (.int .u64 (s.sum : Int)) := (blk_cell HKwb17.out 2).trans rfl
    have hb17_3 : wb.cell? ⟨g17, 3, none⟩ = some (.slice A4 s.sz.length k4) := (blk_cell HKwb17.out 3).trans rfl
    have hb17_4 : wb.cell? ⟨g17, 4, none⟩ = some (.int .u64 0) := (blk_cell HKwb17.out 4).trans rfl
    have hb17_5 : wb.cell? ⟨g17, 5, none⟩ = some (.int .u64 0) := (blk_cell HKwb17.out 5).trans rfl
    clear hB
    refine ⟨_, rfl, ?_⟩
    refine hK.out _ _ ⟨hb13_0, hb13_1, hb13_2, hb13_3, hb13_4, hb13_5, hb16_0, hb16_1, hb16_2, hb16_3, hb16_4, hb16_5, hb17_0, hb17_1, hb17_2, hb17_3, hb17_4, hb17_5⟩ (fun hHeld => ?_)
    clear hK K
    refine norm_ (a' := ?_) ?_ ?_
    rotate_left
    ·show Act.put _ (some 146) _ = _
     simp only [Act.put, List.setIfInBounds_toArray, List.set_cons_zero, List.set_cons_succ, i64_w, i32_w]
     rfl
    refine pure_ (i := 4) (N := some 147) (v := ?_) (a' := ?_) #[true, true, true, true, true, false, false, false, false, false, false, false, false, false, false, false, false, false, false, false, false, false, false, false, false, false, false, false, false, false, false] rfl rfl (by kernel_rfl) (fun _ _ _ h => h) (Or.inl ⟨by rfl, ?_⟩) ?_ ?_
    rotate_left
    ·intro w'
     go_simp
     with_reducible rfl
    rotate_left
    ·simp only [Act.put, List.setIfInBounds_toArray, List.set_cons_zero, List.set_cons_succ, i64_w, i32_w]
     rfl
    refine pure_ (i := 5) (N := some 148) (v := ?_) (a' := ?_) #[true, true, true, true, true, true, false, false, false, false, false, false, false, false, false, false, false, false, false, false, false, false, false, false, false, false, false, false, false, false, false] rfl rfl (by kernel_rfl) (fun _ _ _ h => h) (Or.inl ⟨by rfl, ?_⟩) ?_ ?_
    rotate_left
    ·intro w'
     go_simp
     with_reducible rfl
    rotate_left
    ·simp only [Act.put, List.setIfInBounds_toArray, List.set_cons_zero, List.set_cons_succ, i64_w, i32_w]
     rfl
    refine pure_ (i := 6) (N := some 149) (v := ?_) (a' := ?_) #[true, true, true, true, true, true, true, false, false, false, false, false, false, false, false, false, false, false, false, false, false, false, false, false, false, false, false, false, false, false, false] rfl rfl (by kernel_rfl) (fun _ _ _ h => h) (Or.inl ⟨by rfl, ?_⟩) ?_ ?_
    rotate_left
    ·intro w'
     go_simp
     with_reducible rfl
    rotate_left
    ·simp only [Act.put, List.setIfInBounds_toArray, List.set_cons_zero, List.set_cons_succ, i64_w, i32_w]
     rfl
    refine pure_ (i := 7) (N := some 150) (v := ?_) (a' := ?_) #[true, true, true, true, true, true, true, true, false, false, false, false, false, false, false, false, false, false, false, false, false, false, false, false, false, false, false, false, false, false, false] rfl rfl (by kernel_rfl) (fun _ _ _ h => h) (Or.inl ⟨by rfl, ?_⟩) ?_ ?_
    rotate_left
    ·intro w'
     go_simp
     with_reducible rfl
    rotate_left
    ·simp only [Act.put, List.setIfInBounds_toArray, List.set_cons_zero, List.set_cons_succ, i64_w, i32_w]
     rfl
    refine pure_ (i := 8) (N := some 151) (v := ?_) (a' := ?_) #[true, true, true, true, true, true, true, true, true, false, false, false, false, false, false, false, false, false, false, false, false, false, false, false, false, false, false, false, false, false, false] rfl rfl (by kernel_rfl) (fun _ _ _ h => h) (Or.inl ⟨by rfl, ?_⟩) ?_ ?_
    rotate_left
    ·intro w'
     go_simp
     with_reducible rfl
    rotate_left
    ·simp only [Act.put, List.setIfInBounds_toArray, List.set_cons_zero, List.set_cons_succ, i64_w, i32_w]
     rfl
    refine pure_ (i := 9) (N := some 152) (v := ?_) (a' := ?_) #[true, true, true, true, true, true, true, true, true, true, false, false, false, false, false, false, false, false, false, false, false, false, false, false, false, false, false, false, false, false, false] rfl rfl (by kernel_rfl) (fun _ _ _ h => h) (Or.inl ⟨by rfl, ?_⟩) ?_ ?_
    rotate_left
    ·intro w'
     go_simp
     with_reducible rfl
    rotate_left
    ·simp only [Act.put, List.setIfInBounds_toArray, List.set_cons_zero, List.set_cons_succ, i64_w, i32_w]
     rfl
    refine pure_ (i := 10) (N := some 153) (v := ?_) (a' := ?_) #[true, true, true, true, true, true, true, true, true, true, true, false, false, false, false, false, false, false, false, false, false, false, false, false, false, false, false, false, false, false, false] rfl rfl (by kernel_rfl) (fun _ _ _ h => h) (Or.inl ⟨by rfl, ?_⟩) ?_ ?_
    rotate_left
    ·intro w'
     go_simp
     with_reducible rfl
    rotate_left
    ·simp only [Act.put, List.setIfInBounds_toArray, List.set_cons_zero, List.set_cons_succ, i64_w, i32_w]
     rfl
    refine pure_ (i := 11) (N := some 154) (v := ?_) (a' := ?_) #[true, true, true, true, true, true, true, true, true, true, true, true, false, false, false, false, false, false, false, false, false, false, false, false, false, false, false, false, false, false, false] rfl rfl (by kernel_rfl) (fun _ _ _ h => h) (Or.inl ⟨by rfl, ?_⟩) ?_ ?_
    rotate_left
    ·intro w'
     go_simp
     with_reducible rfl
    rotate_left
    ·simp only [Act.put, List.setIfInBounds_toArray, List.set_cons_zero, List.set_cons_succ, i64_w, i32_w]
     rfl
    refine pure_ (i := 12) (N := some 155) (v := ?_) (a' := ?_) #[true, true, true, true, true, true, true, true, true, true, true, true, true, false, false, false, false, false, false, false, false, false, false, false, false, false, false, false, false, false, false] rfl rfl (by kernel_rfl) (fun _ _ _ h => h) (Or.inl ⟨by rfl, ?_⟩) ?_ ?_
    rotate_left
    ·intro w'
     go_simp
     with_reducible rfl
    rotate_left
    ·simp only [Act.put, List.setIfInBounds_toArray, List.set_cons_zero, List.set_cons_succ, i64_w, i32_w]
     rfl
    refine pure_ (i := 13) (N := some 156) (v := ?_) (a' := ?_) #[true, true, true, true, true, true, true, true, true, true, true, true, true, true, false, false, false, false, false, false, false, false, false, false, false, false, false, false, false, false, false] rfl rfl (by kernel_rfl) (fun _ _ _ h => h) (Or.inl ⟨by rfl, ?_⟩) ?_ ?_
    rotate_left
    ·intro w'
     go_simp
     with_reducible rfl
    rotate_left
    ·simp only [Act.put, List.setIfInBounds_toArray, List.set_cons_zero, List.set_cons_succ, i64_w, i32_w]
     rfl
    refine take_ (i := 14) (N := some 157) (v := ?_) (a' := ?_) #[true, true, true, true, true, true, true, true, true, true, true, true, true, true, true, false, false, false, false, false, false, false, false, false, false, false, false, false, false, false, false] rfl rfl (by kernel_rfl) (fun _ _ _ h => h) (Or.inl ⟨by rfl, ?_⟩) hHeld ?_ ?_
    rotate_left
    ·rintro w' ⟨s0, s1, s2, s3, s4, s5, s6, s7, s8, s9, s10, s11, s12, s13, s14, s15, s16, s17⟩
     go_simp
     with_reducible rfl
    rotate_left
    ·simp only [Act.put, List.setIfInBounds_toArray, List.set_cons_zero, List.set_cons_succ, i64_w, i32_w]
     rfl
    refine take_ (i := 15) (N := some 158) (v := ?_) (a' := ?_) #[true, true, true, true, true, true, true, true, true, true, true, true, true, true, true, true, false, false, false, false, false, false, false, false, false, false, false, false, false, false, false] rfl rfl (by kernel_rfl) (fun _ _ _ h => h) (Or.inl ⟨by rfl, ?_⟩) hHeld ?_ ?_
    rotate_left
    ·rintro w' ⟨s0, s1, s2, s3, s4, s5, s6, s7, s8, s9, s10, s11, s12, s13, s14, s15, s16, s17⟩
     go_simp
     with_reducible rfl
    rotate_left
    ·simp only [Act.put, List.setIfInBounds_toArray, List.set_cons_zero, List.set_cons_succ, i64_w, i32_w]
     rfl
    refine one_ (i := 16) (N := some 159) #[true, true, true, true, true, true, true, true, true, true, true, true, true, true, true, true, true, false, false, false, false, false, false, false, false, false, false, false, false, false, false] rfl rfl (by kernel_rfl) (by decide) (fun K hK => ?_)
    refine goes_ Tryd.func33 (by kernel_rfl) rfl #[(.agg #[.int .i64 (k : Int), .slice A2 s.da.length k2, .int .u64 (s.sum : Int), .slice A4 s.sz.length k4, .int .u64 0, .int .u64 0]), (.agg #[.int .i64 (k : Int), .slice A7 s.da.length c7, .int .u64 (s.sum : Int), .slice A6 s.sz.length c6, .int .u64 0, .int .u64 0])] (by rfl) rfl rfl (by simp only [List.map_toArray, List.map_cons, List.map_nil]; rfl) ?_
    with_reducible refine (Same_s _ k s j HLI.out HJB.out _ A2 k2 A4 k4 (Kd.C_below HC17d.out HDwb.out) HLd2.out (Kd.C_below HC17s.out HDwb.out) HLs4.out A7 c7 A6 c6 (Kd.C_below HC16d.out HDwb.out) HLd7.out (Kd.C_below HC16s.out HDwb.out) HLs6.out).mono ?_
    rintro e wc ⟨rfl, hB⟩
    have HDwc := Aside0.mk (below_step HDwb.out hB)
    have HKwc13 := Aside0.mk ((hB.block _ (blk_lt HKwb13.out)).trans HKwb13.out)
    have HKwc16 := Aside0.mk ((hB.block _ (blk_lt HKwb16.out)).trans HKwb16.out)
    have HKwc17 := Aside0.mk ((hB.block _ (blk_lt HKwb17.out)).trans HKwb17.out)
    have hd13_0 : wc.cell? ⟨g13, 0, none⟩ = some (.int .i64 (k : Int)) := (blk_cell HKwc13.out 0).trans rfl
    have hd13_1 : wc.cell? ⟨g13, 1, none⟩ = some (.slice A1 s.da.length k1) := (blk_cell HKwc13.out 1).trans rfl
    have hd13_2 : wc.cell? ⟨g13, 2, none⟩ = some (.int .u64 (fsz (dOf k s))) := (blk_cell HKwc13.out 2).trans rfl
    have hd13_3 : wc.cell? ⟨g13, 3, none⟩ = some (.slice A3 s.sz.length k3) := (blk_cell HKwc13.out 3).trans rfl
    have hd13_4 : wc.cell? ⟨g13, 4, none⟩ = some (.int .u64 0) := (blk_cell HKwc13.out 4).trans rfl
    have hd13_5 : wc.cell? ⟨g13, 5, none⟩ = some (.int .u64 0) := (blk_cell HKwc13.out 5).trans rfl
    have hd16_0 : wc.cell? ⟨g16, 0, none⟩ = some (.int .i64 (k : Int)) := (blk_cell HKwc16.out 0).trans rfl
    have hd16_1 : wc.cell? ⟨g16, 1, none⟩ = some (.slice A7 s.da.length c7) := (blk_cell HKwc16.out 1).trans rfl
    have hd16_2 : wc.cell? ⟨g16, 2, none⟩ = some (.int .u64 (s.sum : Int)) := (blk_cell HKwc16.out 2).trans rfl
    have hd16_3 : wc.cell? ⟨g16, 3, none⟩ = some (.slice A6 s.sz.length c6) := (blk_cell HKwc16.out 3).trans rfl
    have hd16_4 : wc.cell? ⟨g16, 4, none⟩ = some (.int .u64 0) := (blk_cell HKwc16.out 4).trans rfl
    have hd16_5 : wc.cell? ⟨g16, 5, none⟩ = some (.int .u64 0) := (blk_cell HKwc16.out 5).trans rfl
    have hd17_0 : wc.cell? ⟨g17, 0, none⟩ = some (.int .i64 (k : Int)) := (blk_cell HKwc17.out 0).trans rfl
    have hd17_1 : wc.cell? ⟨g17, 1, none⟩ = some (.slice A2 s.da.length k2) := (blk_cell HKwc17.out 1).trans rfl
    have hd17_2 : wc.cell? ⟨g17, 2, none⟩ = some (.int .u64 (s.sum : Int)) := (blk_cell HKwc17.out 2).trans rfl
    have hd17_3 : wc.cell? ⟨g17, 3, none⟩ = some (.slice A4 s.sz.length k4) := (blk_cell HKwc17.out 3).trans rfl
    have hd17_4 : wc.cell? ⟨g17, 4, none⟩ = some (.int .u64 0) := (blk_cell HKwc17.out 4).trans rfl
    have hd17_5 : wc.cell? ⟨g17, 5, none⟩ = some (.int .u64 0) := (blk_cell HKwc17.out 5).trans rfl
    clear hB
    refine ⟨_, rfl, ?_⟩
    refine hK.out _ _ ⟨hd13_0, hd13_1, hd13_2, hd13_3, hd13_4, hd13_5, hd16_0, hd16_1, hd16_2, hd16_3, hd16_4, hd16_5, hd17_0, hd17_1, hd17_2, hd17_3, hd17_4, hd17_5⟩ (fun hHeld => ?_)
    clear hK K
    refine norm_ (a' := ?_) ?_ ?_
    rotate_left
    ·show Act.put _ (some 159) _ = _
     simp only [Act.put, List.setIfInBounds_toArray, List.set_cons_zero, List.set_cons_succ, i64_w, i32_w]
     rfl
    refine pure_ (i := 17) (N := some 160) (v := ?_) (a' := ?_) #[true, true, true, true, true, true, true, true, true, true, true, true, true, true, true, true, true, true, false, false, false, false, false, false, false, false, false, false, false, false, false] rfl rfl (by kernel_rfl) (fun _ _ _ h => h) (Or.inl ⟨by rfl, ?_⟩) ?_ ?_
    rotate_left
    ·intro w'
     go_simp
     with_reducible rfl
    rotate_left
    ·simp only [Act.put, List.setIfInBounds_toArray, List.set_cons_zero, List.set_cons_succ, i64_w, i32_w]
     rfl
    refine pure_ (i := 18) (N := some 161) (v := ?_) (a' := ?_) #[true, true, true, true, true, true, true, true, true, true, true, true, true, true, true, true, true, true, true, false, false, false, false, false, false, false, false, false, false, false, false] rfl rfl (by kernel_rfl) (fun _ _ _ h => h) (Or.inl ⟨by rfl, ?_⟩) ?_ ?_
    rotate_left
    ·intro w'
     go_simp
     with_reducible rfl
    rotate_left
    ·simp only [Act.put, List.setIfInBounds_toArray, List.set_cons_zero, List.set_cons_succ, i64_w, i32_w]
     rfl
    refine pure_ (i := 19) (N := some 162) (v := ?_) (a' := ?_) #[true, true, true, true, true, true, true, true, true, true, true, true, true, true, true, true, true, true, true, true, false, false, false, false, false, false, false, false, false, false, false] rfl rfl (by kernel_rfl) (fun _ _ _ h => h) (Or.inl ⟨by rfl, ?_⟩) ?_ ?_
    rotate_left
    ·intro w'
     go_simp
     with_reducible rfl
    rotate_left
    ·simp only [Act.put, List.setIfInBounds_toArray, List.set_cons_zero, List.set_cons_succ, i64_w, i32_w]
     rfl
    refine pure_ (i := 20) (N := some 163) (v := ?_) (a' := ?_) #[true, true, true, true, true, true, true, true, true, true, true, true, true, true, true, true, true, true, true, true, true, false, false, false, false, false, false, false, false, false, false] rfl rfl (by kernel_rfl) (fun _ _ _ h => h) (Or.inl ⟨by rfl, ?_⟩) ?_ ?_
    rotate_left
    ·intro w'
     go_simp
     with_reducible rfl
    rotate_left
    ·simp only [Act.put, List.setIfInBounds_toArray, List.set_cons_zero, List.set_cons_succ, i64_w, i32_w]
     rfl
    refine pure_ (i := 21) (N := some 164) (v := undef) (a' := ?_) #[true, true, true, true, true, true, true, true, true, true, true, true, true, true, true, true, true, true, true, true, true, true, false, false, false, false, false, false, false, false, false] rfl rfl (by kernel_rfl) (fun _ _ _ h => h) (Or.inr ⟨by rfl, rfl⟩) ?_ ?_
    rotate_left
    ·simp only [Act.put, List.setIfInBounds_toArray, List.set_cons_zero, List.set_cons_succ, i64_w, i32_w]
     rfl
    refine pure_ (i := 22) (N := some 165) (v := undef) (a' := ?_) #[true, true, true, true, true, true, true, true, true, true, true, true, true, true, true, true, true, true, true, true, true, true, true, false, false, false, false, false, false, false, false] rfl rfl (by kernel_rfl) (fun _ _ _ h => h) (Or.inr ⟨by rfl, rfl⟩) ?_ ?_
    rotate_left
    ·simp only [Act.put, List.setIfInBounds_toArray, List.set_cons_zero, List.set_cons_succ, i64_w, i32_w]
     rfl
    refine pure_ (i := 23) (N := some 166) (v := undef) (a' := ?_) #[true, true, true, true, true, true, true, true, true, true, true, true, true, true, true, true, true, true, true, true, true, true, true, true, false, false, false, false, false, false, false] rfl rfl (by kernel_rfl) (fun _ _ _ h => h) (Or.inr ⟨by rfl, rfl⟩) ?_ ?_
    rotate_left
    ·simp only [Act.put, List.setIfInBounds_toArray, List.set_cons_zero, List.set_cons_succ, i64_w, i32_w]
     rfl
    refine pure_ (i := 24) (N := some 167) (v := undef) (a' := ?_) #[true, true, true, true, true, true, true, true, true, true, true, true, true, true, true, true, true, true, true, true, true, true, true, true, true, false, false, false, false, false, false] rfl rfl (by kernel_rfl) (fun _ _ _ h => h) (Or.inr ⟨by rfl, rfl⟩) ?_ ?_
    rotate_left
    ·simp only [Act.put, List.setIfInBounds_toArray, List.set_cons_zero, List.set_cons_succ, i64_w, i32_w]
     rfl
    refine pure_ (i := 25) (N := some 168) (v := ?_) (a' := ?_) #[true, true, true, true, true, true, true, true, true, true, true, true, true, true, true, true, true, true, true, true, true, true, true, true, true, true, false, false, false, false, false] rfl rfl (by kernel_rfl) (fun _ _ _ h => h) (Or.inl ⟨by rfl, ?_⟩) ?_ ?_
    rotate_left
    ·intro w'
     go_simp
     with_reducible rfl
    rotate_left
    ·simp only [Act.put, List.setIfInBounds_toArray, List.set_cons_zero, List.set_cons_succ, i64_w, i32_w]
     rfl
    refine pure_ (i := 26) (N := some 169) (v := ?_) (a' := ?_) #[true, true, true, true, true, true, true, true, true, true, true, true, true, true, true, true, true, true, true, true, true, true, true, true, true, true, true, false, false, false, false] rfl rfl (by kernel_rfl) (fun _ _ _ h => h) (Or.inl ⟨by rfl, ?_⟩) ?_ ?_
    rotate_left
    ·intro w'
     go_simp
     with_reducible rfl
    rotate_left
    ·simp only [Act.put, List.setIfInBounds_toArray, List.set_cons_zero, List.set_cons_succ, i64_w, i32_w]
     rfl
    refine pure_ (i := 27) (N := some 170) (v := ?_) (a' := ?_) #[true, true, true, true, true, true, true, true, true, true, true, true, true, true, true, true, true, true, true, true, true, true, true, true, true, true, true, true, false, false, false] rfl rfl (by kernel_rfl) (fun _ _ _ h => h) (Or.inl ⟨by rfl, ?_⟩) ?_ ?_
    rotate_left
    ·intro w'
     go_simp
     with_reducible rfl
    rotate_left
    ·simp only [Act.put, List.setIfInBounds_toArray, List.set_cons_zero, List.set_cons_succ, i64_w, i32_w]
     rfl
    refine one_ (i := 28) (N := some 171) #[true, true, true, true, true, true, true, true, true, true, true, true, true, true, true, true, true, true, true, true, true, true, true, true, true, true, true, true, true, false, false] rfl rfl (by kernel_rfl) (by decide) (fun K hK => ?_)
    refine goes_ Tryd.func25 (by kernel_rfl) rfl #[] (by rfl) rfl rfl (by simp only [List.map_toArray, List.map_nil]) ?_
    with_reducible refine (laws_folderAwake.calls true _ rfl).mono ?_
    rintro e wd ⟨rfl, hB⟩
    have HDwd := Aside0.mk (below_step HDwc.out hB)
    have HKwd13 := Aside0.mk ((hB.block _ (blk_lt HKwc13.out)).trans HKwc13.out)
    have HKwd16 := Aside0.mk ((hB.block _ (blk_lt HKwc16.out)).trans HKwc16.out)
    have HKwd17 := Aside0.mk ((hB.block _ (blk_lt HKwc17.out)).trans HKwc17.out)
    have he13_0 : wd.cell? ⟨g13, 0, none⟩ = some (.int .i64 (k : Int)) := (blk_cell HKwd13.out 0).trans rfl
    have he13_1 : wd.cell? ⟨g13, 1, none⟩ = some (.slice A1 s.da.length k1) := (blk_cell HKwd13.out 1).trans rfl
    have he13_2 : wd.cell? ⟨g13, 2, none⟩ = some (.int .u64 (fsz (dOf k s))) := (blk_cell HKwd13.out 2).trans rfl
    have he13_3 : wd.cell? ⟨g13, 3, none⟩ = some (.slice A3 s.sz.length k3) := (blk_cell HKwd13.out 3).trans rfl
    have he13_4 : wd.cell? ⟨g13, 4, none⟩ = some (.int .u64 0) := (blk_cell HKwd13.out 4).trans rfl
    have he13_5 : wd.cell? ⟨g13, 5, none⟩ = some (.int .u64 0) := (blk_cell HKwd13.out 5).trans rfl
    have he16_0 : wd.cell? ⟨g16, 0, none⟩ = some (.int .i64 (k : Int)) := (blk_cell HKwd16.out 0).trans rfl
    have he16_1 : wd.cell? ⟨g16, 1, none⟩ = some (.slice A7 s.da.length c7) := (blk_cell HKwd16.out 1).trans rfl
    have he16_2 : wd.cell? ⟨g16, 2, none⟩ = some (.int .u64 (s.sum : Int)) := (blk_cell HKwd16.out 2).trans rfl
    have he16_3 : wd.cell? ⟨g16, 3, none⟩ = some (.slice A6 s.sz.length c6) := (blk_cell HKwd16.out 3).trans rfl
    have he16_4 : wd.cell? ⟨g16, 4, none⟩ = some (.int .u64 0) := (blk_cell HKwd16.out 4).trans rfl
    have he16_5 : wd.cell? ⟨g16, 5, none⟩ = some (.int .u64 0) := (blk_cell HKwd16.out 5).trans rfl
    have he17_0 : wd.cell? ⟨g17, 0, none⟩ = some (.int .i64 (k : Int)) := (blk_cell HKwd17.out 0).trans rfl
    have he17_1 : wd.cell? ⟨g17, 1, none⟩ = some (.slice A2 s.da.length k2) := (blk_cell HKwd17.out 1).trans rfl
    have he17_2 : wd.cell? ⟨g17, 2, none⟩ = some (.int .u64 (s.sum : Int)) := (blk_cell HKwd17.out 2).trans rfl
    have he17_3 : wd.cell? ⟨g17, 3, none⟩ = some (.slice A4 s.sz.length k4) := (blk_cell HKwd17.out 3).trans rfl
    have he17_4 : wd.cell? ⟨g17, 4, none⟩ = some (.int .u64 0) := (blk_cell HKwd17.out 4).trans rfl
    have he17_5 : wd.cell? ⟨g17, 5, none⟩ = some (.int .u64 0) := (blk_cell HKwd17.out 5).trans rfl
    clear hB
    refine ⟨_, rfl, ?_⟩
    refine hK.out _ _ ⟨he13_0, he13_1, he13_2, he13_3, he13_4, he13_5, he16_0, he16_1, he16_2, he16_3, he16_4, he16_5, he17_0, he17_1, he17_2, he17_3, he17_4, he17_5⟩ (fun hHeld => ?_)
    clear hK K
    refine norm_ (a' := ?_) ?_ ?_
    rotate_left
    ·show Act.put _ (some 171) _ = _
     simp only [Act.put, List.setIfInBounds_toArray, List.set_cons_zero, List.set_cons_succ, i64_w, i32_w]
     rfl
    refine pure_ (i := 29) (N := some 172) (v := ?_) (a' := ?_) #[true, true, true, true, true, true, true, true, true, true, true, true, true, true, true, true, true, true, true, true, true, true, true, true, true, true, true, true, true, true, false] rfl rfl (by kernel_rfl) (fun _ _ _ h => h) (Or.inl ⟨by rfl, ?_⟩) ?_ ?_
    rotate_left
    ·intro w'
     go_simp
     with_reducible rfl
    rotate_left
    ·simp only [Act.put, List.setIfInBounds_toArray, List.set_cons_zero, List.set_cons_succ, i64_w, i32_w]
     rfl
    refine pure_ (i := 30) (N := some 4) (v := ?_) (a' := ?_) #[true, true, true, true, true, true, true, true, true, true, true, true, true, true, true, true, true, true, true, true, true, true, true, true, true, true, true, true, true, true, true] rfl rfl (by kernel_rfl) (fun _ _ _ h => h) (Or.inl ⟨by rfl, ?_⟩) ?_ ?_
    rotate_left
    ·intro w'
     go_simp
     with_reducible rfl
    rotate_left
    ·simp only [Act.put, List.setIfInBounds_toArray, List.set_cons_zero, List.set_cons_succ, i64_w, i32_w]
     rfl
    refine done_ (by kernel_rfl) ?_
    
    go_wp2_with fail
    go_ret
    exact ⟨rfl, below_step HDW.out HDwd.out⟩
   | false =>
    have hda : s.da = [] := HLI.out.no hhas
    have hz0 : ((s.da.length : Int) == 0) = true := by rw [hda]; rfl
    clear hda
    refine start_ (n := 31) (S := fun w' => w'.cell? ⟨g13, 0, none⟩ = some (.int .i64 (k : Int)) ∧ w'.cell? ⟨g13, 1, none⟩ = some (.slice A1 s.da.length k1) ∧ w'.cell? ⟨g13, 2, none⟩ = some (.int .u64 (fsz (dOf k s))) ∧ w'.cell? ⟨g13, 3, none⟩ = some (.slice A3 s.sz.length k3) ∧ w'.cell? ⟨g13, 4, none⟩ = some (.int .u64 0) ∧ w'.cell? ⟨g13, 5, none⟩ = some (.int .u64 0) ∧ w'.cell? ⟨g16, 0, none⟩ = some (.int .i64 (k : Int)) ∧ w'.cell? ⟨g16, 1, none⟩ = some (.slice A7 s.da.length c7) ∧ w'.cell? ⟨g16, 2, none⟩ = some (.int .u64 (s.sum : Int)) ∧ w'.cell? ⟨g16, 3, none⟩ = some (.slice A6 s.sz.length c6) ∧ w'.cell? ⟨g16, 4, none⟩ = some (.int .u64 0) ∧ w'.cell? ⟨g16, 5, none⟩ = some (.int .u64 0) ∧ w'.cell? ⟨g17, 0, none⟩ = some (.int .i64 (k : Int)) ∧ w'.cell? ⟨g17, 1, none⟩ = some (.slice A2 s.da.length k2) ∧ w'.cell? ⟨g17, 2, none⟩ = some (.int .u64 (s.sum : Int)) ∧ w'.cell? ⟨g17, 3, none⟩ = some (.slice A4 s.sz.length k4) ∧ w'.cell? ⟨g17, 4, none⟩ = some (.int .u64 0) ∧ w'.cell? ⟨g17, 5, none⟩ = some (.int .u64 0)) (ds := []) #[false, false, false, false, false, false, false, false, false, false, false, false, false, false, false, false, false, false, false, false, false, false, false, false, false, false, false, false, false, false, false] (by kernel_rfl) rfl rfl ⟨hb13_0, hb13_1, hb13_2, hb13_3, hb13_4, hb13_5, hb16_0, hb16_1, hb16_2, hb16_3, hb16_4, hb16_5, hb17_0, hb17_1, hb17_2, hb17_3, hb17_4, hb17_5⟩ (fun hHeld => ?_)
    refine take_ (i := 0) (N := some 143) (v := ?_) (a' := ?_) #[true, false, false, false, false, false, false, false, false, false, false, false, false, false, false, false, false, false, false, false, false, false, false, false, false, false, false, false, false, false, false] rfl rfl (by kernel_rfl) (fun _ _ _ h => h) (Or.inl ⟨by rfl, ?_⟩) hHeld ?_ ?_
    rotate_left
    ·rintro w' ⟨s0, s1, s2, s3, s4, s5, s6, s7, s8, s9, s10, s11, s12, s13, s14, s15, s16, s17⟩
     go_simp
     with_reducible rfl
    rotate_left
    ·simp only [Act.put, List.setIfInBounds_toArray, List.set_cons_zero, List.set_cons_succ, i64_w, i32_w]
     rfl
    refine take_ (i := 1) (N := some 144) (v := ?_) (a' := ?_) #[true, true, false, false, false, false, false, false, false, false, false, false, false, false, false, false, false, false, false, false, false, false, false, false, false, false, false, false, false, false, false] rfl rfl (by kernel_rfl) (fun _ _ _ h => h) (Or.inl ⟨by rfl, ?_⟩) hHeld ?_ ?_
    rotate_left
    ·rintro w' ⟨s0, s1, s2, s3, s4, s5, s6, s7, s8, s9, s10, s11, s12, s13, s14, s15, s16, s17⟩
     go_simp
     with_reducible rfl
    rotate_left
    ·simp only [Act.put, List.setIfInBounds_toArray, List.set_cons_zero, List.set_cons_succ, i64_w, i32_w]
     rfl
    refine one_ (i := 2) (N := some 145) #[true, true, true, false, false, false, false, false, false, false, false, false, false, false, false, false, false, false, false, false, false, false, false, false, false, false, false, false, false, false, false] rfl rfl (by kernel_rfl) (by decide) (fun K hK => ?_)
    refine goes_ Tryd.func34 (by kernel_rfl) rfl #[(.agg #[.int .i64 (k : Int), .slice A7 s.da.length c7, .int .u64 (s.sum : Int), .slice A6 s.sz.length c6, .int .u64 0, .int .u64 0])] (by rfl) rfl rfl (by simp only [List.map_toArray, List.map_cons, List.map_nil]; rfl) ?_
    with_reducible refine (Told_s _ k s j HLI.out A7 c7 A6 c6 (Kd.C_below HC16d.out HDr.out) HLd7.out (Kd.C_below HC16s.out HDr.out) HLs6.out).mono ?_
    rintro e wa ⟨rfl, hB⟩
    have HDwa := Aside0.mk (below_step HDr.out hB)
    have HKwa13 := Aside0.mk ((hB.block _ (blk_lt HKr13.out)).trans HKr13.out)
    have HKwa16 := Aside0.mk ((hB.block _ (blk_lt HKr16.out)).trans HKr16.out)
    have HKwa17 := Aside0.mk ((hB.block _ (blk_lt HKr17.out)).trans HKr17.out)
    have ha13_0 : wa.cell? ⟨g13, 0, none⟩ = some (.int .i64 (k : Int)) := (blk_cell HKwa13.out 0).trans rfl
    have ha13_1 : wa.cell? ⟨g13, 1, none⟩ = some (.slice A1 s.da.length k1) := (blk_cell HKwa13.out 1).trans rfl
    have ha13_2 : wa.cell? ⟨g13, 2, none⟩ = some (.int .u64 (fsz (dOf k s))) := (blk_cell HKwa13.out 2).trans rfl
    have ha13_3 : wa.cell? ⟨g13, 3, none⟩ = some (.slice A3 s.sz.length k3) := (blk_cell HKwa13.out 3).trans rfl
    have ha13_4 : wa.cell? ⟨g13, 4, none⟩ = some (.int .u64 0) := (blk_cell HKwa13.out 4).trans rfl
    have ha13_5 : wa.cell? ⟨g13, 5, none⟩ = some (.int .u64 0) := (blk_cell HKwa13.out 5).trans rfl
    have ha16_0 : wa.cell? ⟨g16, 0, none⟩ = some (.int .i64 (k : Int)) := (blk_cell HKwa16.out 0).trans rfl
    have ha16_1 : wa.cell? ⟨g16, 1, none⟩ = some (.slice A7 s.da.length c7) := (blk_cell HKwa16.out 1).trans rfl
    have ha16_2 : wa.cell? ⟨g16, 2, none⟩ = some (.int .u64 (s.sum : Int)) := (blk_cell HKwa16.out 2).trans rfl
    have ha16_3 : wa.cell? ⟨g16, 3, none⟩ = some (.slice A6 s.sz.length c6) := (blk_cell HKwa16.out 3).trans rfl
    have ha16_4 : wa.cell? ⟨g16, 4, none⟩ = some (.int .u64 0) := (blk_cell HKwa16.out 4).trans rfl
    have ha16_5 : wa.cell? ⟨g16, 5, none⟩ = some (.int .u64 0) := (blk_cell HKwa16.out 5).trans rfl
    have ha17_0 : wa.cell? ⟨g17, 0, none⟩ = some (.int .i64 (k : Int)) := (blk_cell HKwa17.out 0).trans rfl
    have ha17_1 : wa.cell? ⟨g17, 1, none⟩ = some (.slice A2 s.da.length k2) := (blk_cell HKwa17.out 1).trans rfl
    have ha17_2 : wa.cell? ⟨g17, 2, none⟩ = some (.int .u64 (s.sum : Int)) := (blk_cell HKwa17.out 2).trans rfl
    have ha17_3 : wa.cell? ⟨g17, 3, none⟩ = some (.slice A4 s.sz.length k4) := (blk_cell HKwa17.out 3).trans rfl
    have ha17_4 : wa.cell? ⟨g17, 4, none⟩ = some (.int .u64 0) := (blk_cell HKwa17.out 4).trans rfl
    have ha17_5 : wa.cell? ⟨g17, 5, none⟩ = some (.int .u64 0) := (blk_cell HKwa17.out 5).trans rfl
    clear hB
    refine ⟨_, rfl, ?_⟩
    refine hK.out _ _ ⟨ha13_0, ha13_1, ha13_2, ha13_3, ha13_4, ha13_5, ha16_0, ha16_1, ha16_2, ha16_3, ha16_4, ha16_5, ha17_0, ha17_1, ha17_2, ha17_3, ha17_4, ha17_5⟩ (fun hHeld => ?_)
    clear hK K
    refine norm_ (a' := ?_) ?_ ?_
    rotate_left
    ·show Act.put _ (some 145) _ = _
     simp only [Act.put, List.setIfInBounds_toArray, List.set_cons_zero, List.set_cons_succ, i64_w, i32_w]
     rfl
    refine one_ (i := 3) (N := some 146) #[true, true, true, true, false, false, false, false, false, false, false, false, false, false, false, false, false, false, false, false, false, false, false, false, false, false, false, false, false, false, false] rfl rfl (by kernel_rfl) (by decide) (fun K hK => ?_)
    refine goes_ Tryd.func33 (by kernel_rfl) rfl #[(.agg #[.int .i64 (k : Int), .slice A1 s.da.length k1, .int .u64 (fsz (dOf k s)), .slice A3 s.sz.length k3, .int .u64 0, .int .u64 0]), (.agg #[.int .i64 (k : Int), .slice A7 s.da.length c7, .int .u64 (fsz (dOf k s)), .slice A6 s.sz.length c6, .int .u64 0, .int .u64 0])] (by rfl) rfl rfl (by simp only [List.map_toArray, List.map_cons, List.map_nil]; rfl) ?_
    with_reducible refine (Same_s _ k s j HLI.out HJB.out _ A1 k1 A3 k3 (Kd.C_below HC13d.out HDwa.out) HLd1.out (Kd.C_below HC13s.out HDwa.out) HLs3.out A7 c7 A6 c6 (Kd.C_below HC16d.out HDwa.out) HLd7.out (Kd.C_below HC16s.out HDwa.out) HLs6.out).mono ?_
    rintro e wb ⟨rfl, hB⟩
    have HDwb := Aside0.mk (below_step HDwa.out hB)
    have HKwb13 := Aside0.mk ((hB.block _ (blk_lt HKwa13.out)).trans HKwa13.out)
    have HKwb16 := Aside0.mk ((hB.block _ (blk_lt HKwa16.out)).trans HKwa16.out)
    have HKwb17 := Aside0.mk ((hB.block _ (blk_lt HKwa17.out)).trans HKwa17.out)
    have hb13_0 : wb.cell? ⟨g13, 0, none⟩ = some (.int .i64 (k : Int)) := (blk_cell HKwb13.out 0).trans rfl
    have hb13_1 : wb.cell? ⟨g13, 1, none⟩ = some (.slice A1 s.da.length k1) := (blk_cell HKwb13.out 1).trans rfl
    have hb13_2 : wb.cell? ⟨g13, 2, none⟩ = some (.int .u64 (fsz (dOf k s))) := (blk_cell HKwb13.out 2).trans rfl
    have hb13_3 : wb.cell? ⟨g13, 3, none⟩ = some (.slice A3 s.sz.length k3) := (blk_cell HKwb13.out 3).trans rfl
    have hb13_4 : wb.cell? ⟨g13, 4, none⟩ = some (.int .u64 0) := (blk_cell HKwb13.out 4).trans rfl
    have hb13_5 : wb.cell? ⟨g13, 5, none⟩ = some (.int .u64 0) := (blk_cell HKwb13.out 5).trans rfl
    have hb16_0 : wb.cell? ⟨g16, 0, none⟩ = some (.int .i64 (k : Int)) := (blk_cell HKwb16.out 0).trans rfl
    have hb16_1 : wb.cell? ⟨g16, 1, none⟩ = some (.slice A7 s.da.length c7) := (blk_cell HKwb16.out 1).trans rfl
    have hb16_2 : wb.cell? ⟨g16, 2, none⟩ = some (.int .u64 (s.sum : Int)) := (blk_cell HKwb16.out 2).trans rfl
    have hb16_3 : wb.cell? ⟨g16, 3, none⟩ = some (.slice A6 s.sz.length c6) := (blk_cell HKwb16.out 3).trans rfl
    have hb16_4 : wb.cell? ⟨g16, 4, none⟩ = some (.int .u64 0) := (blk_cell HKwb16.out 4).trans rfl
    have hb16_5 : wb.cell? ⟨g16, 5, none⟩ = some (.int .u64 0) := (blk_cell HKwb16.out 5).trans rfl
    have hb17_0 : wb.cell? ⟨g17, 0, none⟩ = some (.int .i64 (k : Int)) := (blk_cell HKwb17.out 0).trans rfl
    have hb17_1 : wb.cell? ⟨g17, 1, none⟩ = some (.slice A2 s.da.length k2) := (blk_cell HKwb17.out 1).trans rfl
    have hb17_2 : wb.cell? ⟨g17, 2, none⟩ = some (.int .u64 (s.sum : Int)) := (blk_cell HKwb17.out 2).trans rfl
    have hb17_3 : wb.cell? ⟨g17, 3, none⟩ = some (.slice A4 s.sz.length k4) := (blk_cell HKwb17.out 3).trans rfl
    have hb17_4 : wb.cell? ⟨g17, 4, none⟩ = some (.int .u64 0) := (blk_cell HKwb17.out 4).trans rfl
    have hb17_5 : wb.cell? ⟨g17, 5, none⟩ = some (.int .u64 0) := (blk_cell HKwb17.out 5).trans rfl
    clear hB
    refine ⟨_, rfl, ?_⟩
    refine hK.out _ _ ⟨hb13_0, hb13_1, hb13_2, hb13_3, hb13_4, hb13_5, hb16_0, hb16_1, hb16_2, hb16_3, hb16_4, hb16_5, hb17_0, hb17_1, hb17_2, hb17_3, hb17_4, hb17_5⟩ (fun hHeld => ?_)
    clear hK K
    refine norm_ (a' := ?_) ?_ ?_
    rotate_left
    ·show Act.put _ (some 146) _ = _
     simp only [Act.put, List.setIfInBounds_toArray, List.set_cons_zero, List.set_cons_succ, i64_w, i32_w]
     rfl
    refine pure_ (i := 4) (N := some 147) (v := ?_) (a' := ?_) #[true, true, true, true, true, false, false, false, false, false, false, false, false, false, false, false, false, false, false, false, false, false, false, false, false, false, false, false, false, false, false] rfl rfl (by kernel_rfl) (fun _ _ _ h => h) (Or.inl ⟨by rfl, ?_⟩) ?_ ?_
    rotate_left
    ·intro w'
     go_simp
     with_reducible rfl
    rotate_left
    ·simp only [Act.put, List.setIfInBounds_toArray, List.set_cons_zero, List.set_cons_succ, i64_w, i32_w]
     rfl
    refine pure_ (i := 5) (N := some 148) (v := ?_) (a' := ?_) #[true, true, true, true, true, true, false, false, false, false, false, false, false, false, false, false, false, false, false, false, false, false, false, false, false, false, false, false, false, false, false] rfl rfl (by kernel_rfl) (fun _ _ _ h => h) (Or.inl ⟨by rfl, ?_⟩) ?_ ?_
    rotate_left
    ·intro w'
     go_simp
     with_reducible rfl
    rotate_left
    ·simp only [Act.put, List.setIfInBounds_toArray, List.set_cons_zero, List.set_cons_succ, i64_w, i32_w]
     rfl
    refine pure_ (i := 6) (N := some 149) (v := ?_) (a' := ?_) #[true, true, true, true, true, true, true, false, false, false, false, false, false, false, false, false, false, false, false, false, false, false, false, false, false, false, false, false, false, false, false] rfl rfl (by kernel_rfl) (fun _ _ _ h => h) (Or.inl ⟨by rfl, ?_⟩) ?_ ?_
    rotate_left
    ·intro w'
     go_simp
     with_reducible rfl
    rotate_left
    ·simp only [Act.put, List.setIfInBounds_toArray, List.set_cons_zero, List.set_cons_succ, i64_w, i32_w]
     rfl
    refine pure_ (i := 7) (N := some 150) (v := ?_) (a' := ?_) #[true, true, true, true, true, true, true, true, false, false, false, false, false, false, false, false, false, false, false, false, false, false, false, false, false, false, false, false, false, false, false] rfl rfl (by kernel_rfl) (fun _ _ _ h => h) (Or.inl ⟨by rfl, ?_⟩) ?_ ?_
    rotate_left
    ·intro w'
     go_simp
     with_reducible rfl
    rotate_left
    ·simp only [Act.put, List.setIfInBounds_toArray, List.set_cons_zero, List.set_cons_succ, i64_w, i32_w]
     rfl
    refine pure_ (i := 8) (N := some 151) (v := ?_) (a' := ?_) #[true, true, true, true, true, true, true, true, true, false, false, false, false, false, false, false, false, false, false, false, false, false, false, false, false, false, false, false, false, false, false] rfl rfl (by kernel_rfl) (fun _ _ _ h => h) (Or.inl ⟨by rfl, ?_⟩) ?_ ?_
    rotate_left
    ·intro w'
     go_simp
     with_reducible rfl
    rotate_left
    ·simp only [Act.put, List.setIfInBounds_toArray, List.set_cons_zero, List.set_cons_succ, i64_w, i32_w]
     rfl
    refine pure_ (i := 9) (N := some 152) (v := ?_) (a' := ?_) #[true, true, true, true, true, true, true, true, true, true, false, false, false, false, false, false, false, false, false, false, false, false, false, false, false, false, false, false, false, false, false] rfl rfl (by kernel_rfl) (fun _ _ _ h => h) (Or.inl ⟨by rfl, ?_⟩) ?_ ?_
    rotate_left
    ·intro w'
     go_simp
     with_reducible rfl
    rotate_left
    ·simp only [Act.put, List.setIfInBounds_toArray, List.set_cons_zero, List.set_cons_succ, i64_w, i32_w]
     rfl
    refine pure_ (i := 10) (N := some 153) (v := ?_) (a' := ?_) #[true, true, true, true, true, true, true, true, true, true, true, false, false, false, false, false, false, false, false, false, false, false, false, false, false, false, false, false, false, false, false] rfl rfl (by kernel_rfl) (fun _ _ _ h => h) (Or.inl ⟨by rfl, ?_⟩) ?_ ?_
    rotate_left
    ·intro w'
     go_simp
     with_reducible rfl
    rotate_left
    ·simp only [Act.put, List.setIfInBounds_toArray, List.set_cons_zero, List.set_cons_succ, i64_w, i32_w]
     rfl
    refine pure_ (i := 11) (N := some 154) (v := ?_) (a' := ?_) #[true, true, true, true, true, true, true, true, true, true, true, true, false, false, false, false, false, false, false, false, false, false, false, false, false, false, false, false, false, false, false] rfl rfl (by kernel_rfl) (fun _ _ _ h => h) (Or.inl ⟨by rfl, ?_⟩) ?_ ?_
    rotate_left
    ·intro w'
     go_simp
     with_reducible rfl
    rotate_left
    ·simp only [Act.put, List.setIfInBounds_toArray, List.set_cons_zero, List.set_cons_succ, i64_w, i32_w]
     rfl
    refine pure_ (i := 12) (N := some 155) (v := ?_) (a' := ?_) #[true, true, true, true, true, true, true, true, true, true, true, true, true, false, false, false, false, false, false, false, false, false, false, false, false, false, false, false, false, false, false] rfl rfl (by kernel_rfl) (fun _ _ _ h => h) (Or.inl ⟨by rfl, ?_⟩) ?_ ?_
    rotate_left
    ·intro w'
     go_simp
     with_reducible rfl
    rotate_left
    ·simp only [Act.put, List.setIfInBounds_toArray, List.set_cons_zero, List.set_cons_succ, i64_w, i32_w]
     rfl
    refine pure_ (i := 13) (N := some 156) (v := ?_) (a' := ?_) #[true, true, true, true, true, true, true, true, true, true, true, true, true, true, false, false, false, false, false, false, false, false, false, false, false, false, false, false, false, false, false] rfl rfl (by kernel_rfl) (fun _ _ _ h => h) (Or.inl ⟨by rfl, ?_⟩) ?_ ?_
    rotate_left
    ·intro w'
     go_simp
     with_reducible rfl
    rotate_left
    ·simp only [Act.put, List.setIfInBounds_toArray, List.set_cons_zero, List.set_cons_succ, i64_w, i32_w]
     rfl
    refine take_ (i := 14) (N := some 157) (v := ?_) (a' := ?_) #[true, true, true, true, true, true, true, true, true, true, true, true, true, true, true, false, false, false, false, false, false, false, false, false, false, false, false, false, false, false, false] rfl rfl (by kernel_rfl) (fun _ _ _ h => h) (Or.inl ⟨by rfl, ?_⟩) hHeld ?_ ?_
    rotate_left
    ·rintro w' ⟨s0, s1, s2, s3, s4, s5, s6, s7, s8, s9, s10, s11, s12, s13, s14, s15, s16, s17⟩
     go_simp
     with_reducible rfl
    rotate_left
    ·simp only [Act.put, List.setIfInBounds_toArray, List.set_cons_zero, List.set_cons_succ, i64_w, i32_w]
     rfl
    refine take_ (i := 15) (N := some 158) (v := ?_) (a' := ?_) #[true, true, true, true, true, true, true, true, true, true, true, true, true, true, true, true, false, false, false, false, false, false, false, false, false, false, false, false, false, false, false] rfl rfl (by kernel_rfl) (fun _ _ _ h => h) (Or.inl ⟨by rfl, ?_⟩) hHeld ?_ ?_
    rotate_left
    ·rintro w' ⟨s0, s1, s2, s3, s4, s5, s6, s7, s8, s9, s10, s11, s12, s13, s14, s15, s16, s17⟩
     go_simp
     with_reducible rfl
    rotate_left
    ·simp only [Act.put, List.setIfInBounds_toArray, List.set_cons_zero, List.set_cons_succ, i64_w, i32_w]
     rfl
    refine one_ (i := 16) (N := some 159) #[true, true, true, true, true, true, true, true, true, true, true, true, true, true, true, true, true, false, false, false, false, false, false, false, false, false, false, false, false, false, false] rfl rfl (by kernel_rfl) (by decide) (fun K hK => ?_)
    refine goes_ Tryd.func33 (by kernel_rfl) rfl #[(.agg #[.int .i64 (k : Int), .slice A2 s.da.length k2, .int .u64 (s.sum : Int), .slice A4 s.sz.length k4, .int .u64 0, .int .u64 0]), (.agg #[.int .i64 (k : Int), .slice A7 s.da.length c7, .int .u64 (s.sum : Int), .slice A6 s.sz.length c6, .int .u64 0, .int .u64 0])] (by rfl) rfl rfl (by simp only [List.map_toArray, List.map_cons, List.map_nil]; rfl) ?_
    with_reducible refine (Same_s _ k s j HLI.out HJB.out _ A2 k2 A4 k4 (Kd.C_below HC17d.out HDwb.out) HLd2.out (Kd.C_below HC17s.out HDwb.out) HLs4.out A7 c7 A6 c6 (Kd.C_below HC16d.out HDwb.out) HLd7.out (Kd.C_below HC16s.out HDwb.out) HLs6.out).mono ?_
    rintro e wc ⟨rfl, hB⟩
    have HDwc := Aside0.mk (below_step HDwb.out hB)
    have HKwc13 := Aside0.mk ((hB.block _ (blk_lt HKwb13.out)).trans HKwb13.out)
    have HKwc16 := Aside0.mk ((hB.block _ (blk_lt HKwb16.out)).trans HKwb16.out)
    have HKwc17 := Aside0.mk ((hB.block _ (blk_lt HKwb17.out)).trans HKwb17.out)
    have hd13_0 : wc.cell? ⟨g13, 0, none⟩ = some (.int .i64 (k : Int)) := (blk_cell HKwc13.out 0).trans rfl
    have hd13_1 : wc.cell? ⟨g13, 1, none⟩ = some (.slice A1 s.da.length k1) := (blk_cell HKwc13.out 1).trans rfl
    have hd13_2 : wc.cell? ⟨g13, 2, none⟩ = some (.int .u64 (fsz (dOf k s))) := (blk_cell HKwc13.out 2).trans rfl
    have hd13_3 : wc.cell? ⟨g13, 3, none⟩ = some (.slice A3 s.sz.length k3) := (blk_cell HKwc13.out 3).trans rfl
    have hd13_4 : wc.cell? ⟨g13, 4, none⟩ = some (.int .u64 0) := (blk_cell HKwc13.out 4).trans rfl
    have hd13_5 : wc.cell? ⟨g13, 5, none⟩ = some (.int .u64 0) := (blk_cell HKwc13.out 5).trans rfl
    have hd16_0 : wc.cell? ⟨g16, 0, none⟩ = some (.int .i64 (k : Int)) := (blk_cell HKwc16.out 0).trans rfl
    have hd16_1 : wc.cell? ⟨g16, 1, none⟩ = some (.slice A7 s.da.length c7) := (blk_cell HKwc16.out 1).trans rfl
    have hd16_2 : wc.cell? ⟨g16, 2, none⟩ = some (.int .u64 (s.sum : Int)) := (blk_cell HKwc16.out 2).trans rfl
    have hd16_3 : wc.cell? ⟨g16, 3, none⟩ = some (.slice A6 s.sz.length c6) := (blk_cell HKwc16.out 3).trans rfl
    have hd16_4 : wc.cell? ⟨g16, 4, none⟩ = some (.int .u64 0) := (blk_cell HKwc16.out 4).trans rfl
    have hd16_5 : wc.cell? ⟨g16, 5, none⟩ = some (.int .u64 0) := (blk_cell HKwc16.out 5).trans rfl
    have hd17_0 : wc.cell? ⟨g17, 0, none⟩ = some (.int .i64 (k : Int)) := (blk_cell HKwc17.out 0).trans rfl
    have hd17_1 : wc.cell? ⟨g17, 1, none⟩ = some (.slice A2 s.da.length k2) := (blk_cell HKwc17.out 1).trans rfl
    have hd17_2 : wc.cell? ⟨g17, 2, none⟩ = some (.int .u64 (s.sum : Int)) := (blk_cell HKwc17.out 2).trans rfl
    have hd17_3 : wc.cell? ⟨g17, 3, none⟩ = some (.slice A4 s.sz.length k4) := (blk_cell HKwc17.out 3).trans rfl
    have hd17_4 : wc.cell? ⟨g17, 4, none⟩ = some (.int .u64 0) := (blk_cell HKwc17.out 4).trans rfl
    have hd17_5 : wc.cell? ⟨g17, 5, none⟩ = some (.int .u64 0) := (blk_cell HKwc17.out 5).trans rfl
    clear hB
    refine ⟨_, rfl, ?_⟩
    refine hK.out _ _ ⟨hd13_0, hd13_1, hd13_2, hd13_3, hd13_4, hd13_5, hd16_0, hd16_1, hd16_2, hd16_3, hd16_4, hd16_5, hd17_0, hd17_1, hd17_2, hd17_3, hd17_4, hd17_5⟩ (fun hHeld => ?_)
    clear hK K
    refine norm_ (a' := ?_) ?_ ?_
    rotate_left
    ·show Act.put _ (some 159) _ = _
     simp only [Act.put, List.setIfInBounds_toArray, List.set_cons_zero, List.set_cons_succ, i64_w, i32_w]
     rfl
    refine pure_ (i := 17) (N := some 160) (v := ?_) (a' := ?_) #[true, true, true, true, true, true, true, true, true, true, true, true, true, true, true, true, true, true, false, false, false, false, false, false, false, false, false, false, false, false, false] rfl rfl (by kernel_rfl) (fun _ _ _ h => h) (Or.inl ⟨by rfl, ?_⟩) ?_ ?_
    rotate_left
    ·intro w'
     go_simp
     with_reducible rfl
    rotate_left
    ·simp only [Act.put, List.setIfInBounds_toArray, List.set_cons_zero, List.set_cons_succ, i64_w, i32_w]
     rfl
    refine pure_ (i := 18) (N := some 161) (v := ?_) (a' := ?_) #[true, true, true, true, true, true, true, true, true, true, true, true, true, true, true, true, true, true, true, false, false, false, false, false, false, false, false, false, false, false, false] rfl rfl (by kernel_rfl) (fun _ _ _ h => h) (Or.inl ⟨by rfl, ?_⟩) ?_ ?_
    rotate_left
    ·intro w'
     go_simp
     with_reducible rfl
    rotate_left
    ·simp only [Act.put, List.setIfInBounds_toArray, List.set_cons_zero, List.set_cons_succ, i64_w, i32_w]
     rfl
    refine pure_ (i := 19) (N := some 162) (v := ?_) (a' := ?_) #[true, true, true, true, true, true, true, true, true, true, true, true, true, true, true, true, true, true, true, true, false, false, false, false, false, false, false, false, false, false, false] rfl rfl (by kernel_rfl) (fun _ _ _ h => h) (Or.inl ⟨by rfl, ?_⟩) ?_ ?_
    rotate_left
    ·intro w'
     go_simp
     with_reducible rfl
    rotate_left
    ·simp only [Act.put, List.setIfInBounds_toArray, List.set_cons_zero, List.set_cons_succ, i64_w, i32_w]
     rfl
    refine pure_ (i := 20) (N := some 163) (v := ?_) (a' := ?_) #[true, true, true, true, true, true, true, true, true, true, true, true, true, true, true, true, true, true, true, true, true, false, false, false, false, false, false, false, false, false, false] rfl rfl (by kernel_rfl) (fun _ _ _ h => h) (Or.inl ⟨by rfl, ?_⟩) ?_ ?_
    rotate_left
    ·intro w'
     go_simp
     with_reducible rfl
    rotate_left
    ·simp only [Act.put, List.setIfInBounds_toArray, List.set_cons_zero, List.set_cons_succ, i64_w, i32_w]
     rfl
    refine pure_ (i := 21) (N := some 164) (v := ?_) (a' := ?_) #[true, true, true, true, true, true, true, true, true, true, true, true, true, true, true, true, true, true, true, true, true, true, false, false, false, false, false, false, false, false, false] rfl rfl (by kernel_rfl) (fun _ _ _ h => h) (Or.inl ⟨by rfl, ?_⟩) ?_ ?_
    rotate_left
    ·intro w'
     go_simp
     with_reducible rfl
    rotate_left
    ·simp only [Act.put, List.setIfInBounds_toArray, List.set_cons_zero, List.set_cons_succ, i64_w, i32_w]
     rfl
    refine take_ (i := 22) (N := some 165) (v := ?_) (a' := ?_) #[true, true, true, true, true, true, true, true, true, true, true, true, true, true, true, true, true, true, true, true, true, true, true, false, false, false, false, false, false, false, false] rfl rfl (by kernel_rfl) (fun _ _ _ h => h) (Or.inl ⟨by rfl, ?_⟩) hHeld ?_ ?_
    rotate_left
    ·rintro w' ⟨s0, s1, s2, s3, s4, s5, s6, s7, s8, s9, s10, s11, s12, s13, s14, s15, s16, s17⟩
     go_simp
     with_reducible rfl
    rotate_left
    ·simp only [Act.put, List.setIfInBounds_toArray, List.set_cons_zero, List.set_cons_succ, i64_w, i32_w]
     rfl
    refine pure_ (i := 23) (N := some 166) (v := ?_) (a' := ?_) #[true, true, true, true, true, true, true, true, true, true, true, true, true, true, true, true, true, true, true, true, true, true, true, true, false, false, false, false, false, false, false] rfl rfl (by kernel_rfl) (fun _ _ _ h => h) (Or.inl ⟨by rfl, ?_⟩) ?_ ?_
    rotate_left
    ·intro w'
     go_simp
     with_reducible rfl
    rotate_left
    ·simp only [Act.put, List.setIfInBounds_toArray, List.set_cons_zero, List.set_cons_succ, i64_w, i32_w]
     rfl
    refine pure_ (i := 24) (N := some 167) (v := ?_) (a' := ?_) #[true, true, true, true, true, true, true, true, true, true, true, true, true, true, true, true, true, true, true, true, true, true, true, true, true, false, false, false, false, false, false] rfl rfl (by kernel_rfl) (fun _ _ _ h => h) (Or.inl ⟨by rfl, ?_⟩) ?_ ?_
    rotate_left
    ·intro w'
     go_simp
     with_reducible rfl
    rotate_left
    ·simp only [Act.put, List.setIfInBounds_toArray, List.set_cons_zero, List.set_cons_succ, i64_w, i32_w]
     rfl
    refine pure_ (i := 25) (N := some 168) (v := ?_) (a' := ?_) #[true, true, true, true, true, true, true, true, true, true, true, true, true, true, true, true, true, true, true, true, true, true, true, true, true, true, false, false, false, false, false] rfl rfl (by kernel_rfl) (fun _ _ _ h => h) (Or.inl ⟨by rfl, ?_⟩) ?_ ?_
    rotate_left
    ·intro w'
     go_simp
     with_reducible rfl
    rotate_left
    ·simp only [Act.put, List.setIfInBounds_toArray, List.set_cons_zero, List.set_cons_succ, i64_w, i32_w]
     rfl
    refine pure_ (i := 26) (N := some 169) (v := ?_) (a' := ?_) #[true, true, true, true, true, true, true, true, true, true, true, true, true, true, true, true, true, true, true, true, true, true, true, true, true, true, true, false, false, false, false] rfl rfl (by kernel_rfl) (fun _ _ _ h => h) (Or.inl ⟨by rfl, ?_⟩) ?_ ?_
    rotate_left
    ·intro w'
     go_simp
     with_reducible rfl
    rotate_left
    ·simp only [Act.put, List.setIfInBounds_toArray, List.set_cons_zero, List.set_cons_succ, i64_w, i32_w]
     rfl
    refine pure_ (i := 27) (N := some 170) (v := ?_) (a' := ?_) #[true, true, true, true, true, true, true, true, true, true, true, true, true, true, true, true, true, true, true, true, true, true, true, true, true, true, true, true, false, false, false] rfl rfl (by kernel_rfl) (fun _ _ _ h => h) (Or.inl ⟨by rfl, ?_⟩) ?_ ?_
    rotate_left
    ·intro w'
     go_simp
     with_reducible rfl
    rotate_left
    ·simp only [Act.put, List.setIfInBounds_toArray, List.set_cons_zero, List.set_cons_succ, i64_w, i32_w]
     rfl
    refine one_ (i := 28) (N := some 171) #[true, true, true, true, true, true, true, true, true, true, true, true, true, true, true, true, true, true, true, true, true, true, true, true, true, true, true, true, true, false, false] rfl rfl (by kernel_rfl) (by decide) (fun K hK => ?_)
    refine goes_ Tryd.func25 (by kernel_rfl) rfl #[] (by rfl) rfl rfl (by simp only [List.map_toArray, List.map_nil]) ?_
    with_reducible refine (laws_folderAwake.calls true _ rfl).mono ?_
    rintro e wd ⟨rfl, hB⟩
    have HDwd := Aside0.mk (below_step HDwc.out hB)
    have HKwd13 := Aside0.mk ((hB.block _ (blk_lt HKwc13.out)).trans HKwc13.out)
    have HKwd16 := Aside0.mk ((hB.block _ (blk_lt HKwc16.out)).trans HKwc16.out)
    have HKwd17 := Aside0.mk ((hB.block _ (blk_lt HKwc17.out)).trans HKwc17.out)
    have he13_0 : wd.cell? ⟨g13, 0, none⟩ = some (.int .i64 (k : Int)) := (blk_cell HKwd13.out 0).trans rfl
    have he13_1 : wd.cell? ⟨g13, 1, none⟩ = some (.slice A1 s.da.length k1) := (blk_cell HKwd13.out 1).trans rfl
    have he13_2 : wd.cell? ⟨g13, 2, none⟩ = some (.int .u64 (fsz (dOf k s))) := (blk_cell HKwd13.out 2).trans rfl
    have he13_3 : wd.cell? ⟨g13, 3, none⟩ = some (.slice A3 s.sz.length k3) := (blk_cell HKwd13.out 3).trans rfl
    have he13_4 : wd.cell? ⟨g13, 4, none⟩ = some (.int .u64 0) := (blk_cell HKwd13.out 4).trans rfl
    have he13_5 : wd.cell? ⟨g13, 5, none⟩ = some (.int .u64 0) := (blk_cell HKwd13.out 5).trans rfl
    have he16_0 : wd.cell? ⟨g16, 0, none⟩ = some (.int .i64 (k : Int)) := (blk_cell HKwd16.out 0).trans rfl
    have he16_1 : wd.cell? ⟨g16, 1, none⟩ = some (.slice A7 s.da.length c7) := (blk_cell HKwd16.out 1).trans rfl
    have he16_2 : wd.cell? ⟨g16, 2, none⟩ = some (.int .u64 (s.sum : Int)) := (blk_cell HKwd16.out 2).trans rfl
    have he16_3 : wd.cell? ⟨g16, 3, none⟩ = some (.slice A6 s.sz.length c6) := (blk_cell HKwd16.out 3).trans rfl
    have he16_4 : wd.cell? ⟨g16, 4, none⟩ = some (.int .u64 0) := (blk_cell HKwd16.out 4).trans rfl
    have he16_5 : wd.cell? ⟨g16, 5, none⟩ = some (.int .u64 0) := (blk_cell HKwd16.out 5).trans rfl
    have he17_0 : wd.cell? ⟨g17, 0, none⟩ = some (.int .i64 (k : Int)) := (blk_cell HKwd17.out 0).trans rfl
    have he17_1 : wd.cell? ⟨g17, 1, none⟩ = some (.slice A2 s.da.length k2) := (blk_cell HKwd17.out 1).trans rfl
    have he17_2 : wd.cell? ⟨g17, 2, none⟩ = some (.int .u64 (s.sum : Int)) := (blk_cell HKwd17.out 2).trans rfl
    have he17_3 : wd.cell? ⟨g17, 3, none⟩ = some (.slice A4 s.sz.length k4) := (blk_cell HKwd17.out 3).trans rfl
    have he17_4 : wd.cell? ⟨g17, 4, none⟩ = some (.int .u64 0) := (blk_cell HKwd17.out 4).trans rfl
    have he17_5 : wd.cell? ⟨g17, 5, none⟩ = some (.int .u64 0) := (blk_cell HKwd17.out 5).trans rfl
    clear hB
    refine ⟨_, rfl, ?_⟩
    refine hK.out _ _ ⟨he13_0, he13_1, he13_2, he13_3, he13_4, he13_5, he16_0, he16_1, he16_2, he16_3, he16_4, he16_5, he17_0, he17_1, he17_2, he17_3, he17_4, he17_5⟩ (fun hHeld => ?_)
    clear hK K
    refine norm_ (a' := ?_) ?_ ?_
    rotate_left
    ·show Act.put _ (some 171) _ = _
     simp only [Act.put, List.setIfInBounds_toArray, List.set_cons_zero, List.set_cons_succ, i64_w, i32_w]
     rfl
    refine pure_ (i := 29) (N := some 172) (v := ?_) (a' := ?_) #[true, true, true, true, true, true, true, true, true, true, true, true, true, true, true, true, true, true, true, true, true, true, true, true, true, true, true, true, true, true, false] rfl rfl (by kernel_rfl) (fun _ _ _ h => h) (Or.inl ⟨by rfl, ?_⟩) ?_ ?_
    rotate_left
    ·intro w'
     go_simp
     with_reducible rfl
    rotate_left
    ·simp only [Act.put, List.setIfInBounds_toArray, List.set_cons_zero, List.set_cons_succ, i64_w, i32_w]
     rfl
    refine pure_ (i := 30) (N := some 4) (v := ?_) (a' := ?_) #[true, true, true, true, true, true, true, true, true, true, true, true, true, true, true, true, true, true, true, true, true, true, true, true, true, true, true, true, true, true, true] rfl rfl (by kernel_rfl) (fun _ _ _ h => h) (Or.inl ⟨by rfl, ?_⟩) ?_ ?_
    rotate_left
    ·intro w'
     go_simp
     with_reducible rfl
    rotate_left
    ·simp only [Act.put, List.setIfInBounds_toArray, List.set_cons_zero, List.set_cons_succ, i64_w, i32_w]
     rfl
    refine done_ (by kernel_rfl) ?_
    
    go_wp2_with fail
    go_ret
    exact ⟨rfl, below_step HDW.out HDwd.out⟩

end Go.Proofs.YtnhnlodmkbiiiaaDoor.HandFields
