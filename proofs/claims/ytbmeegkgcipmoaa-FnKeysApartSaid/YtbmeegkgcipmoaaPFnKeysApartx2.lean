/- Printed by a program of this session (it drives the print of the kit, with contracts proved by hand beside): the Go functions of one law as Lean functions, and that the Go code comes to what they say. -/
import Derived.Test.YtbmeegkgcipmoaaPFnKeysApartx0
import Derived.Test.YtbmeegkgcipmoaaPFnKeysApartx1
namespace Go.Proofs.Ytbmeegkgcipmoaa.PFnKeysApart
open Go.RowKit Go.Proofs.YtbmeegkgcipmoaaL Go.Proofs.YtbmeegkgcipmoaaW.PrintWords Go.Proofs.YtbmeegkgcipmoaaW.PrintLast Go.Proofs.YtbmeegkgcipmoaaW.PrintMore
attribute [local go_sem] max2_int min2_int max_two min_two max_three min_three max_four min_four   -- for this text's walks alone
set_option linter.unusedVariables false
set_option linter.unusedSimpArgs false

/-! ### dshelp_NewKeyFromBinary: function 50, by hand -/
-- HAND pub-tholos/pub/boxo/datastore/dshelp.NewKeyFromBinary
-- making: yes
def dshelp_NewKeyFromBinary.f (l0 : List Int) : Option ByteArray := if l0.all (fun x => decide (0 ≤ x ∧ x ≤ 255)) = true ∧ l0.length ≤ 100 then godatastore_RawKey.f (strOfNums (47 :: enc32_ l0)) else none
set_option maxHeartbeats 4000000 in
set_option maxRecDepth 100000 in
theorem dshelp_NewKeyFromBinary.calls (A0 : Option Addr) (c0 : Nat) (l0 : List Int) (r : ByteArray) (w : World) (hr0 : Kd.C (Kd.int .u8) w A0 l0.length l0) (hc0 : l0.length ≤ c0) (h : dshelp_NewKeyFromBinary.f l0 = some r) :
    Calls Try.prog 50 #[.slice A0 l0.length c0] w fun e w' => e = .returned (.agg #[.string r]) ∧ Below w.heap.size w w' := by
  unfold dshelp_NewKeyFromBinary.f at h
  by_cases hb : l0.all (fun x => decide (0 ≤ x ∧ x ≤ 255)) = true ∧ l0.length ≤ 100
  case neg => rw [if_neg hb] at h; exact absurd h (by simp)
  rw [if_pos hb] at h
  have hby : ∀ i : Int, 0 ≤ rd l0 i ∧ rd l0 i ≤ 255 := fun i => by
    unfold rd
    by_cases hi : i.toNat < l0.length
    · rw [List.getD_eq_getElem?_getD, List.getElem?_eq_getElem hi]
      have := List.all_eq_true.mp hb.1 _ (List.getElem_mem hi)
      simpa using this
    · rw [List.getD_eq_getElem?_getD, List.getElem?_eq_none (by omega)]; simp
  have h100 := hb.2
  clear hb
  obtain ⟨m, hm⟩ : ∃ m : Nat, m = (8 * l0.length + 4) / 5 := ⟨_, rfl⟩
  have hsum : wrap64 (1 + (m : Int)) = ((m + 1 : Nat) : Int) := by rw [wrap64_id' (by omega) (by omega)]; omega
  have HSUM := Aside0.mk hsum
  have HSUM2 := Aside0.mk ((i64_w _).trans hsum)
  have HR := Aside0.mk hr0
  have HC := Aside0.mk hc0
  have HBY := Aside0.mk hby
  have HK := Aside0.mk h
  have H100 := Aside0.mk h100
  have HM := Aside0.mk hm
  have HB := Aside0.mk (Below.refl w.heap.size w)
  obtain ⟨i0, hi, hz0, hz1, hz2⟩ := info_parts info5b
  have HI := Aside0.mk hi
  have HZ := Aside0.mk hz1
  clear hi hz0 hz1 hz2 h hr0 hc0 hby h100 hm hsum
  go_enter Try.func50, Try.ntmps50
  go_wp2_with (first | ((with_reducible refine gate_dst (N := 2) rfl ?_); refine box_event (N := 2) (cs := #[.string (⟨#[]⟩ : ByteArray)]) (t := 69) ?hg ?hd ?hr ?_; (case hd => rfl); (case hg => rfl); (case hr => first | (go_simp; done) | (go_simp; rfl)); intro g2 hg w2 hbox hb; have BK := Aside0.mk hbox; have GE := Aside0.mk (show w.heap.size ≤ g2 by omega); have HB2 := Aside0.mk hb; clear hg hbox hb HB) | (go_at_call 68; refine (RawStd_calls w2).mono ?_; rintro e w3 ⟨E, rfl, hge, hE, hb⟩; have HE := Aside0.mk hE; have HEG := Aside0.mk hge; have HB3 := Aside0.mk (below_step HB2.out hb); have BK3 := Aside0.mk ((hb.block g2 (blk_lt BK.out)).trans BK.out); clear hge hE hb HB2 BK) | (go_at_call 69; refine (EncodedLen_calls E l0.length (by have := H100.out; omega) w3 HE.out).mono ?_; rintro e w4 ⟨rfl, hw⟩; rw [hw]; clear hw; rw [← HM.out]; have hs1 := HSUM.out; have hs2 := HSUM2.out) | ((with_reducible refine gate_dst (N := 9) rfl ?_); refine Kd.R_make (Kd.int .u8) w.heap.size 5 rfl (N := 9) rfl 22 _ _ rfl ((m + 1 : Nat) : Int) rfl rfl Try.underlying22 (.int .u8 0) 1 info5b rfl (by decide) (by decide) 0 (ok := fun k => k = w3.heap.size) (okp := fun _ => False) rfl (fun _ hk => hk.elim) rfl (by omega) (by have := HM.out; have := H100.out; omega) HB3.out (below_size HB3.out) ?_; intro v1 w5 ho hb hgr hnew; clear hnew; rw [Int.toNat_natCast] at ho; generalize hxs : List.replicate (m + 1) (0 : Int) = xs at ho; have HXL := Aside0.mk (show xs.length = m + 1 by rw [← hxs]; simp); clear hxs; obtain ⟨g, cap, rfl, hge, hlt, cells, hcell⟩ := Kd.R_form ho (by have := HXL.out; omega); have HR1 := Aside0.mk ho; have HGG := Aside0.mk (ho.1 g rfl); have HB5 := Aside0.mk hb; have BK5 := Aside0.mk ((hgr.block g2 (blk_lt BK3.out) (by simp)).trans BK3.out); have q1 : ((0 : Int) < (xs.length : Int)) = True := eq_true (by have := HXL.out; omega); have q2 : (0 < xs.length) = True := eq_true (by have := HXL.out; omega); have hxf := Kd.R_celln (0 : Int) HR1.out 0 (by decide) (by have := HXL.out; omega); have hx : w5.cell? ⟨g, 0, none⟩ = some (.int .u8 (rdOf 0 xs 0)) := hxf.1; have hf : w5.frozen? ⟨g, 0, none⟩ = false := hxf.2; clear hgr ho hb hcell hge hlt hxf hs1 hs2) | ((with_reducible refine gate_store (t := 5) (p := 11) rfl ?_); refine store_event (t := 5) (p := 11) (v := ?vo_1) (w1 := (w5.setCell ⟨g, 0, none⟩ (.int .u8 47))) ?hg ?ho ?hn ?hr ?_; (case ho => rfl); (case hg => rfl); (case hn => rfl); (case hr => first | (go_simp; done) | (go_simp; rfl)); intro w6 hw; have HP := Kd.R_putg HR1.out 0 47; have hw' : w6 = w5.setCell ⟨g, (0 : Int).toNat, none⟩ (.int .u8 47) := hw; rw [← hw'] at HP; have HR6 := Aside0.mk HP.1; have HB6 := Aside0.mk (show Below w.heap.size w w6 by rw [hw]; exact below_set HB5.out (by rw [HGG.out]; exact below_size HB3.out)); have BK6 := Aside0.mk ((HP.2.block g2 (blk_lt BK5.out) (by intro e; injection e with e; have := HGG.out; have := blk_lt BK3.out; omega)).trans BK5.out); clear HP hw hw' hx hf q1 q2 HR1 HB5 BK5))
  have hcut := cut_from (P := Try.prog) 22 5 .i64 Try.underlying22 HI.out 1 HZ.out (some ⟨g, 0, none⟩) xs.length cap 1 (by decide) (by have := HXL.out; omega)
  generalize hDD : (if cap = (1 : Int).toNat then some (⟨g, 0, none⟩ : Addr) else Option.map (fun x : Addr => x.add ((1 : Int).toNat * 1)) (some ⟨g, 0, none⟩)) = DD at hcut
  have HDD := Aside0.mk hDD
  clear hDD
  rcases Nat.eq_zero_or_pos l0.length with h0 | h0
  · have HP0 := Aside0.mk h0
    clear h0
    go_region_with (first | (go_at_call 68; refine (RawStd_calls _).mono ?_; rintro e w8 ⟨E2, rfl, hge2, hE2, hb2⟩; have HB8 := Aside0.mk hb2; clear hge2 hE2 hb2) | (go_at_call 70; refine (Encode_nil w8 E2 DD _ _ A0 c0 l0.length HP0.out).mono ?_; rintro e w9 ⟨v, rfl, hw⟩; rw [hw]; clear hw))
    all_goals
      have HB9 := Aside0.mk (below_step (below_drew HB6.out) HB8.out)
      have BK9 := Aside0.mk ((HB8.out.block g2 (blk_lt BK6.out)).trans BK6.out)
      have HR9 := Aside0.mk (Kd.R_below (Kd.R_drew HR6.out) HB8.out)
      have e32 : enc32_ l0 = [] := by
        obtain rfl := List.eq_nil_of_length_eq_zero HP0.out
        rfl
      have hk := HK.out
      rw [e32] at hk
      have hxs : xs.set (Int.toNat 0) 47 = [47] := by
        have h1 : xs.length = 1 := by rw [HXL.out, HM.out, HP0.out]
        match xs, h1 with
        | [_], _ => rfl
      have hr9 := HR9.out
      rw [hxs] at hr9
      have HK9 := Aside0.mk hk
      clear hk e32 HR9
      have hcv := Kd.C_string (P := Try.prog) (c := cap) Try.underlying22 Try.underlying5 Try.underlying9 (Kd.R_reads' hr9).2.2
      rw [show ([47] : List Int).length = xs.length from by rw [HXL.out, HM.out, HP0.out]; rfl] at hcv
      clear hxs hr9
      go_wp2_with (first | (go_at_call 71; refine (godatastore_RawKey.calls _ r _ HK9.out).mono ?_; rintro e w10 ⟨rfl, hb⟩; have BK10 := Aside0.mk ((hb.block g2 (blk_lt BK9.out)).trans BK9.out); have HB10 := Aside0.mk (below_step HB9.out hb); clear hb; have hx : w10.cell? ⟨g2, 0, none⟩ = some (.string (⟨#[]⟩ : ByteArray)) := cell_of_row _ g2 0 _ _ _ BK10.out; have hf : w10.frozen? ⟨g2, 0, none⟩ = false := by { unfold World.frozen?; rw [BK10.out]; rfl }))
      refine bodyPost_ret (results_cell_row rfl _ _ g2 69 #[.string r] (0, 0) _ rfl (blk_put (cs := #[.string (⟨#[]⟩ : ByteArray)]) BK10.out 0 _ rfl) Try.underlying69 rfl (by kernel_rfl)) rfl ?_
      exact ⟨rfl, below_set HB10.out GE.out⟩
  · have HP0 := Aside0.mk h0
    clear h0
    have hcap := (Kd.R_reads' HR6.out).2.1
    have hlen : (xs.set (Int.toNat 0) 47).length = xs.length := List.length_set ..
    have hD1 : DD = some ⟨g, 1, none⟩ := by
      rw [← HDD.out, if_neg (by have := HXL.out; have := HM.out; have := HP0.out; simp; omega)]
      rfl
    subst hD1
    have HCAP := Aside0.mk hcap
    have HLEN := Aside0.mk hlen
    clear hcap hlen
    go_region_with (first | (go_at_call 68; refine (RawStd_calls _).mono ?_; rintro e w8 ⟨E2, rfl, hge2, hE2, hb2⟩; have hrow := Kd.R_below (Kd.R_drew HR6.out) hb2; have hgl : g < w6.heap.size := by { have hh := HR6.out; rw [← HLEN.out] at hh; obtain ⟨g', c', e', _, hlt, _⟩ := Kd.R_form hh (by rw [HLEN.out, HXL.out]; omega); injection e' with e1 _ _; injection e1 with e1; injection e1 with e1; omega }; rw [← HLEN.out] at hrow; have HE8 := Aside0.mk (show Enc w w8 E2 g cap (xs.set (Int.toNat 0) 47) w8.heap from ⟨hE2, (by have : w6.heap.size ≤ E2 := hge2; omega), Kd.R_mono hrow (fun k hk => by have := HGG.out; omega), below_step (below_drew HB6.out) hb2, fun k o hk _ => hk⟩); have BK8 := Aside0.mk ((hb2.block g2 (blk_lt BK6.out)).trans BK6.out); clear hge2 hE2 hb2 hrow hgl) | (go_at_call 70; refine (Encode_calls w w8 E2 g 1 (xs.length - 1) (cap - 1) cap A0 c0 l0 (xs.set (Int.toNat 0) 47) w8.heap HE8.out HR.out HC.out HBY.out (by rw [HLEN.out, HXL.out]; omega) (by have := HCAP.out; omega) (by have := HXL.out; have := HM.out; omega)).mono ?_; rintro e w9 ⟨v, rfl, hX⟩; have HX := Aside0.mk hX; clear hX))
    all_goals
      have HB9 := Aside0.mk HX.out.below
      have BK9 := Aside0.mk (HX.out.oth g2 _ BK8.out (by have := HGG.out; have := blk_lt BK3.out; omega))
      have hxs : putAt (xs.set (Int.toNat 0) 47) 1 (enc32_ l0) = 47 :: enc32_ l0 := by
        have h1 : xs.length = m + 1 := HXL.out
        have h2 : (enc32_ l0).length = m := by rw [enc32_len _ _ (Nat.le_refl _), HM.out]
        match xs, h1 with
        | x :: ys, h1 =>
          simp only [putAt, Int.toNat_zero, List.set_cons_zero, List.take_succ_cons, List.take_zero, h2]
          rw [List.drop_eq_nil_of_le (by simp at h1 ⊢; omega)]
          simp
      have hr9 := HX.out.row
      rw [hxs] at hr9
      have hlx : (47 :: enc32_ l0).length = xs.length := by rw [← hxs, putAt_len _ _ _ (by rw [HLEN.out, HXL.out, enc32_len _ _ (Nat.le_refl _), HM.out]; omega), HLEN.out]
      rw [hlx] at hr9
      have hcv := Kd.C_string (P := Try.prog) (c := cap) Try.underlying22 Try.underlying5 Try.underlying9 (Kd.R_reads' hr9).2.2
      rw [show (47 :: enc32_ l0).length = xs.length from hlx] at hcv
      clear hr9 hxs hlx
      go_wp2_with (first | (go_at_call 71; refine (godatastore_RawKey.calls _ r _ HK.out).mono ?_; rintro e w10 ⟨rfl, hb⟩; have BK10 := Aside0.mk ((hb.block g2 (blk_lt BK9.out)).trans BK9.out); have HB10 := Aside0.mk (below_step HB9.out hb); clear hb; have hx : w10.cell? ⟨g2, 0, none⟩ = some (.string (⟨#[]⟩ : ByteArray)) := cell_of_row _ g2 0 _ _ _ BK10.out; have hf : w10.frozen? ⟨g2, 0, none⟩ = false := by { unfold World.frozen?; rw [BK10.out]; rfl }))
      refine bodyPost_ret (results_cell_row rfl _ _ g2 69 #[.string r] (0, 0) _ rfl (blk_put (cs := #[.string (⟨#[]⟩ : ByteArray)]) BK10.out 0 _ rfl) Try.underlying69 rfl (by kernel_rfl)) rfl ?_
      exact ⟨rfl, below_set HB10.out GE.out⟩


/-! ### godatastore_Key_String: function 51 -/
def godatastore_Key_String.f (a0_0 : ByteArray) : Option (ByteArray) := some a0_0
set_option maxHeartbeats 8000000 in
set_option maxRecDepth 100000 in
theorem godatastore_Key_String.calls (a0_0 : ByteArray) (r : ByteArray) (w : World) (h : godatastore_Key_String.f a0_0 = some r) :
    Calls Try.prog 51 #[.agg #[.string a0_0]] w fun e w' => e = .returned (.string r) ∧ Below w.heap.size w w' := by
  have hu69 := Try.underlying69
  have HB := Aside0.mk (Below.refl w.heap.size w)
  have H : (some a0_0) = some r := h
  clear h
  obtain rfl := Option.some.inj H
  go_enter Try.func51, Try.ntmps51
  go_wp2_with (first | ((with_reducible refine gate_dst (N := 1) rfl ?_); refine box_event ?hg (N := 1) ?hd (cs := #[.string a0_0]) (t := 69) ?hr ?_; (case hd => rfl); (case hg => rfl); (case hr => first | (go_simp; done) | (go_simp; rfl)); intro gb102 hg w2 hbox hb; have n0_ := Aside0.mk (below_step (by repeat (first | (with_reducible first | exact HB.out | apply below_alloc | apply pw_below_drewN | apply below_drew1) | exact HB.out)) hb); have n1_ := Aside0.mk (hbox); have n2_ := Aside0.mk ((by rw [hg]; exact (below_size (by repeat (first | (with_reducible first | exact HB.out | apply below_alloc | apply pw_below_drewN | apply below_drew1) | exact HB.out))) : w.heap.size ≤ gb102)); have n3_ := Aside0.mk ((by rw [hg]; exact (below_size (by repeat (first | (with_reducible first | exact HB.out | apply below_alloc | apply pw_below_drewN | apply below_drew1) | exact HB.out))) : w.heap.size ≤ gb102)); clear HB; have HB := n0_; have BK102 := n1_; have GW102 := n2_; have GE102 := n3_; clear n0_ n1_ n2_ n3_; clear hb hbox hg; have hcz3_0 : w2.cell? ⟨gb102, 0, none⟩ = some (.string a0_0) := (blk_cell BK102.out 0).trans rfl; have hfz3_0 := blk_frozen BK102.out 0))
  go_ret
  exact ⟨by first | rfl | (simp [errV_none, errV_some] <;> rfl) | (simp [*, errV_none, errV_some] <;> rfl), by repeat (first | (with_reducible first | exact HB.out | apply below_alloc | apply pw_below_drewN | apply below_drew1 | refine below_set ?_ GE102.out) | exact HB.out)⟩

/-! ### impl_KeyOf: function 19 -/
def impl_KeyOf.f (l0 : List Int) : Option (ByteArray) := (bytes_Clone.f l0).bind fun t103 => ((dshelp_NewKeyFromBinary.f t103).bind fun t106 => ((godatastore_Key_String.f t106).bind fun t107 => (some t107)))
set_option maxHeartbeats 8000000 in
set_option maxRecDepth 100000 in
theorem impl_KeyOf.calls (A0 : Option Addr) (c0 : Nat) (l0 : List Int) (r : ByteArray) (w : World) (hr0 : Kd.C (Kd.int .u8) w A0 l0.length l0) (hc0 : l0.length ≤ c0) (h : impl_KeyOf.f l0 = some r) :
    Calls Try.prog 19 #[.slice A0 l0.length c0] w fun e w' => e = .returned (.string r) ∧ Below w.heap.size w w' := by
  have HR0 := Aside0.mk hr0
  have HC0 := Aside0.mk hc0
  clear hr0 hc0
  have HB := Aside0.mk (Below.refl w.heap.size w)
  have H : ((bytes_Clone.f l0).bind fun t103 => ((dshelp_NewKeyFromBinary.f t103).bind fun t106 => ((godatastore_Key_String.f t106).bind fun t107 => (some t107)))) = some r := h
  clear h
  replace H := Option.bind_eq_some_iff.mp H
  obtain ⟨t103, A20, H⟩ := H
  replace H : ((dshelp_NewKeyFromBinary.f t103).bind fun t106 => ((godatastore_Key_String.f t106).bind fun t107 => (some t107))) = some r := H
  have A2 := Aside0.mk A20
  clear A20
  replace H := Option.bind_eq_some_iff.mp H
  obtain ⟨t106, A30, H⟩ := H
  replace H : ((godatastore_Key_String.f t106).bind fun t107 => (some t107)) = some r := H
  have A3 := Aside0.mk A30
  clear A30
  replace H := Option.bind_eq_some_iff.mp H
  obtain ⟨t107, A40, H⟩ := H
  replace H : (some t107) = some r := H
  have A4 := Aside0.mk A40
  clear A40
  obtain rfl := Option.some.inj H
  go_enter Try.func19, Try.ntmps19
  go_wp2_with (first | ((with_reducible refine gate_callee (f := 20) rfl ?_); refine goesL_ (some 4) rfl rfl Try.func20 (by kernel_rfl) rfl #[.slice A0 l0.length c0] rfl (by (try simp only [List.map_toArray, List.map_cons, List.map_nil]); first | done | rfl | (simp only [List.length_drop, List.length_take]; rfl)) ?_; (with_reducible refine (bytes_Clone.calls _ _ l0 t103 _ ?side1 ?side2 A2.out).mono ?_); (case side1 => repeat (first | exact HR0.out | (with_reducible refine Kd.C_alloc ?_ _) | (with_reducible refine Kd.C_drewN ?_ _) | (with_reducible refine Kd.C_drew ?_))); (case side2 => exact HC0.out); rintro e w5 ⟨v104, rfl, ho0, hb⟩; refine ⟨_, rfl, ?_⟩; have n0_ := Aside0.mk (Kd.R_lower ho0 (below_size (by repeat (first | (with_reducible first | exact HB.out | apply below_alloc | apply pw_below_drewN | apply below_drew1) | exact HB.out)))); have n1_ := Aside0.mk (below_step (by repeat (first | (with_reducible first | exact HB.out | apply below_alloc | apply pw_below_drewN | apply below_drew1) | exact HB.out)) hb); clear HB; have HO105 := n0_; have HB := n1_; clear n0_ n1_; (try clear hb); (try clear hb2); (try clear hk); (try clear hi); (try clear ho0); obtain ⟨Ao6, co6, eo6⟩ := Kd.R_slice HO105.out; subst eo6) | ((with_reducible refine gate_callee (f := 50) rfl ?_); refine goesL_ (some 5) rfl rfl Try.func50 (by kernel_rfl) rfl #[.slice Ao6 t103.length co6] rfl (by (try simp only [List.map_toArray, List.map_cons, List.map_nil]); first | done | rfl | (simp only [List.length_drop, List.length_take]; rfl)) ?_; (with_reducible refine (dshelp_NewKeyFromBinary.calls _ _ t103 t106 _ ?side1 ?side2 A3.out).mono ?_); (case side1 => repeat (first | exact (Kd.R_reads' HO105.out).2.2 | (with_reducible refine Kd.C_alloc ?_ _) | (with_reducible refine Kd.C_drewN ?_ _) | (with_reducible refine Kd.C_drew ?_))); (case side2 => exact (Kd.R_reads' HO105.out).2.1); rintro e w7 ⟨rfl, hb⟩; refine ⟨_, rfl, ?_⟩; have n0_ := Aside0.mk (Kd.R_below (by (with_reducible repeat (first | apply Kd.R_alloc | apply Kd.R_drewN | apply Kd.R_drew)); exact HO105.out) hb); have n1_ := Aside0.mk (below_step (by repeat (first | (with_reducible first | exact HB.out | apply below_alloc | apply pw_below_drewN | apply below_drew1) | exact HB.out)) hb); clear HO105; clear HB; have HO105 := n0_; have HB := n1_; clear n0_ n1_; (try clear hb); (try clear hb2); (try clear hk); (try clear hi)) | ((with_reducible refine gate_callee (f := 51) rfl ?_); refine goesL_ (some 6) rfl rfl Try.func51 (by kernel_rfl) rfl #[.agg #[.string t106]] rfl (by (try simp only [List.map_toArray, List.map_cons, List.map_nil]); first | done | rfl | (simp only [List.length_drop, List.length_take]; rfl)) ?_; (with_reducible refine (godatastore_Key_String.calls t106 t107 _ A4.out).mono ?_); rintro e w8 ⟨rfl, hb⟩; refine ⟨_, rfl, ?_⟩; have n0_ := Aside0.mk (Kd.R_below (by (with_reducible repeat (first | apply Kd.R_alloc | apply Kd.R_drewN | apply Kd.R_drew)); exact HO105.out) hb); have n1_ := Aside0.mk (below_step (by repeat (first | (with_reducible first | exact HB.out | apply below_alloc | apply pw_below_drewN | apply below_drew1) | exact HB.out)) hb); clear HO105; clear HB; have HO105 := n0_; have HB := n1_; clear n0_ n1_; (try clear hb); (try clear hb2); (try clear hk); (try clear hi)))
  go_ret
  exact ⟨by first | rfl | (simp [errV_none, errV_some] <;> rfl) | (simp [*, errV_none, errV_some] <;> rfl), by repeat (first | (with_reducible first | exact HB.out | apply below_alloc | apply pw_below_drewN | apply below_drew1) | exact HB.out)⟩

/-! ### laws_keysLive: function 18 -/
def laws_keysLive.f  : Option (Bool) := (impl_KeyOf.f (([255] : List Int))).bind fun t111 => (some (t111.toList == ([47, 55, 52] : List UInt8)))
set_option maxHeartbeats 8000000 in
set_option maxRecDepth 100000 in
theorem laws_keysLive.calls  (r : Bool) (w : World) (h : laws_keysLive.f  = some r) :
    Calls Try.prog 18 #[] w fun e w' => e = .returned (.bool r) ∧ Below w.heap.size w w' := by
  have HB := Aside0.mk (Below.refl w.heap.size w)
  have H : ((impl_KeyOf.f (([255] : List Int))).bind fun t111 => (some (t111.toList == ([47, 55, 52] : List UInt8)))) = some r := h
  clear h
  obtain ⟨y108, hy108⟩ : ∃ y_ : List Int, y_ = (([255] : List Int)) := ⟨_, rfl⟩
  replace H : ((impl_KeyOf.f y108).bind fun t111 => (some (t111.toList == ([47, 55, 52] : List UInt8)))) = some r := by first | (rw [hy108]; with_reducible exact H) | (have H2_ := (Option.bind_some _ _).symm.trans H; rw [hy108]; with_reducible exact H2_) | (have H2_ := (Option.bind_some _ _).symm.trans H; with_reducible exact H2_) | with_reducible exact H | (rw [hy108]; exact H) | exact H
  have Ny108 := Aside0.mk hy108
  clear hy108
  replace H := Option.bind_eq_some_iff.mp H
  obtain ⟨t111, A10, H⟩ := H
  replace H : (some (t111.toList == ([47, 55, 52] : List UInt8))) = some r := H
  have A1 := Aside0.mk A10
  clear A10
  obtain rfl := Option.some.inj H
  go_enter Try.func18, Try.ntmps18
  go_wp2_with (first | ((with_reducible refine gate_dst (N := 1) rfl ?_); refine Kd.R_lit (Kd.int .u8) _ 5 ?hg (N := 1) ?hd (xs := ([255] : List Int)) (inner := [.int .u8 255]) (ok := fun _ => True) (okp := fun _ => True) ?hr ?hp (fun _ hk => hk) trivial (Below.refl _ _) (Nat.le_refl _) (by simp) ?_; (case hd => rfl); (case hg => rfl); (case hr => first | (go_simp; done) | (go_simp; rfl)); (case hp => exact (Reps.one (show Kd.M (Kd.int .u8) _ _ _ 255 [.int .u8 255] from rfl) (Reps.none _ _))); intro v109 w2 ho3 hb hg_ hnew_; clear hg_ hnew_; (first | rw [← Ny108.out] at ho3 | (simp only [Int.reduceToNat] at ho3; rw [← Ny108.out] at ho3)); have n0_ := Aside0.mk (Kd.R_lower ho3 (below_size (by repeat (first | (with_reducible first | exact HB.out | apply below_alloc | apply pw_below_drewN | apply below_drew1) | exact HB.out)))); have n1_ := Aside0.mk (below_step (by repeat (first | (with_reducible first | exact HB.out | apply below_alloc | apply pw_below_drewN | apply below_drew1) | exact HB.out)) hb); clear HB; have HO110 := n0_; have HB := n1_; clear n0_ n1_; clear hb ho3; obtain ⟨Ao4, co4, eo4⟩ := Kd.R_slice HO110.out; subst eo4) | ((with_reducible refine gate_callee (f := 19) rfl ?_); refine goesL_ (some 2) rfl rfl Try.func19 (by kernel_rfl) rfl #[.slice Ao4 y108.length co4] rfl (by (try simp only [List.map_toArray, List.map_cons, List.map_nil]); first | done | rfl | (simp only [List.length_drop, List.length_take]; rfl)) ?_; (with_reducible refine (impl_KeyOf.calls _ _ y108 t111 _ ?side1 ?side2 A1.out).mono ?_); (case side1 => repeat (first | exact (Kd.R_reads' HO110.out).2.2 | (with_reducible refine Kd.C_alloc ?_ _) | (with_reducible refine Kd.C_drewN ?_ _) | (with_reducible refine Kd.C_drew ?_))); (case side2 => exact (Kd.R_reads' HO110.out).2.1); rintro e w5 ⟨rfl, hb⟩; refine ⟨_, rfl, ?_⟩; have n0_ := Aside0.mk (Kd.R_below (by (with_reducible repeat (first | apply Kd.R_alloc | apply Kd.R_drewN | apply Kd.R_drew)); exact HO110.out) hb); have n1_ := Aside0.mk (below_step (by repeat (first | (with_reducible first | exact HB.out | apply below_alloc | apply pw_below_drewN | apply below_drew1) | exact HB.out)) hb); clear HO110; clear HB; have HO110 := n0_; have HB := n1_; clear n0_ n1_; (try clear hb); (try clear hb2); (try clear hk); (try clear hi)))
  go_ret
  exact ⟨by first | rfl | (simp [errV_none, errV_some] <;> rfl) | (simp [*, errV_none, errV_some] <;> rfl), by repeat (first | (with_reducible first | exact HB.out | apply below_alloc | apply pw_below_drewN | apply below_drew1) | exact HB.out)⟩

/-! ### bytes_Equal: function 21 -/
def bytes_Equal.f (l0 : List Int) (l1 : List Int) : Option (Bool) := some ((strOfNums l0).toList == (strOfNums l1).toList)
set_option maxHeartbeats 8000000 in
set_option maxRecDepth 100000 in
theorem bytes_Equal.calls (A0 : Option Addr) (c0 : Nat) (l0 : List Int) (A1 : Option Addr) (c1 : Nat) (l1 : List Int) (r : Bool) (w : World) (hr0 : Kd.C (Kd.int .u8) w A0 l0.length l0) (hc0 : l0.length ≤ c0) (hr1 : Kd.C (Kd.int .u8) w A1 l1.length l1) (hc1 : l1.length ≤ c1) (h : bytes_Equal.f l0 l1 = some r) :
    Calls Try.prog 21 #[.slice A0 l0.length c0, .slice A1 l1.length c1] w fun e w' => e = .returned (.bool r) ∧ Drawn0 w w' := by
  have HR0 := Aside0.mk hr0
  have HC0 := Aside0.mk hc0
  clear hr0 hc0
  have HR1 := Aside0.mk hr1
  have HC1 := Aside0.mk hc1
  clear hr1 hc1
  have H : (some ((strOfNums l0).toList == (strOfNums l1).toList)) = some r := h
  clear h
  obtain rfl := Option.some.inj H
  have hcv3 := Kd.C_string (P := Try.prog) (A := A0) (c := c0) Try.underlying22 Try.underlying5 Try.underlying9 HR0.out
  have hcv4 := Kd.C_string (P := Try.prog) (A := A1) (c := c1) Try.underlying22 Try.underlying5 Try.underlying9 HR1.out
  go_enter Try.func21, Try.ntmps21
  go_wp2
  go_ret
  exact ⟨by first | rfl | (simp; done) | (simp [*]; done), by repeat (first | exact Drawn0.refl _ | apply Drawn0.step)⟩

end Go.Proofs.Ytbmeegkgcipmoaa.PFnKeysApart
