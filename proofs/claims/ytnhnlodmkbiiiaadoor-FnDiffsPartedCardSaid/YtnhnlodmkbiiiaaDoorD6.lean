/- impl.changes: a new block for each change. -/
import Derived.Test.YtnhnlodmkbiiiaaDoorD5
namespace Go.Proofs.YtnhnlodmkbiiiaaDoor.HandDif
open Go Go.RowKit Go.Proofs.YtnhnlodmkbiiiaaDoorL Go.Proofs.YtnhnlodmkbiiiaaDoorW.PrintWords Go.Proofs.YtnhnlodmkbiiiaaDoorW.PrintLast Go.Proofs.YtnhnlodmkbiiiaaDoorW.PrintMore Go.Proofs.YtnhnlodmkbiiiaaDoor.PDif
attribute [local go_sem] max2_int min2_int max_two min_two max_three min_three max_four min_four
set_option linter.unusedVariables false
set_option linter.unusedSimpArgs false
/-- What is asked of a change. -/
structure OkD (x : S78) : Prop where
  b : gocid_Cast.f 100 x.f2 = some (strOfNums x.f2, none)
  a : gocid_Cast.f 100 x.f3 = some (strOfNums x.f3, none)
  bl : x.f2.length ≤ 1000
  al : x.f3.length ≤ 1000
/-- A change, in memory. -/
def Chg (W : World) (g : Nat) (x : S78) : Prop := W.heap[g]? = some (.cells #[.int .i64 x.f0, .string x.f1, .string (strOfNums x.f2), .string (strOfNums x.f3)] 142 (0, 0))
/-- Changes, each in a block of its own. -/
structure Chgs (W : World) (base : Nat) (gs : List Nat) (xs : List S78) : Prop where
  len : gs.length = xs.length
  blk : ∀ (j : Nat) (g : Nat) (x : S78), gs[j]? = some g → xs[j]? = some x → Chg W g x
  base : ∀ g ∈ gs, base ≤ g
  up : gs.Pairwise (· < ·)
theorem Chgs.more {W W1 : World} {base : Nat} {gs : List Nat} {xs : List S78} (h : Chgs W base gs xs) (hb : Below W.heap.size W W1) : Chgs W1 base gs xs :=
  ⟨h.len, fun j g x hg hx => (hb.block g (blk_lt (h.blk j g x hg hx))).trans (h.blk j g x hg hx), h.base, h.up⟩
theorem Chgs.lt {W : World} {base : Nat} {gs : List Nat} {xs : List S78} (h : Chgs W base gs xs) : ∀ g ∈ gs, g < W.heap.size := by
  intro g hg
  obtain ⟨j, hj, e⟩ := List.mem_iff_getElem.1 hg
  have hj' : j < xs.length := by rw [← h.len]; exact hj
  exact blk_lt (h.blk j g xs[j] (by rw [List.getElem?_eq_getElem hj, e]) (List.getElem?_eq_getElem hj'))
theorem Chgs.push {W W1 : World} {base : Nat} {gs : List Nat} {xs : List S78} (h : Chgs W base gs xs) (hb : ∀ k, k < W.heap.size → W1.heap[k]? = W.heap[k]?) {g : Nat} {x : S78} (hg : W.heap.size ≤ g) (hbase : base ≤ W.heap.size) (hx : Chg W1 g x) : Chgs W1 base (gs ++ [g]) (xs ++ [x]) := by
  refine ⟨by rw [List.length_append, List.length_append, h.len]; rfl, fun j g' x' hg' hx' => ?_, fun g' hg' => ?_, ?_⟩
  · rcases Nat.lt_or_ge j gs.length with hj | hj
    · rw [List.getElem?_append_left hj] at hg'
      rw [List.getElem?_append_left (by rw [← h.len]; exact hj)] at hx'
      have := h.blk j g' x' hg' hx'
      exact (hb g' (blk_lt this)).trans this
    · rw [List.getElem?_append_right hj] at hg'
      rw [List.getElem?_append_right (by rw [← h.len]; exact hj), ← h.len] at hx'
      match hjj : j - gs.length, hg', hx' with
      | 0, hg', hx' =>
        obtain rfl : g = g' := by simpa using hg'
        obtain rfl : x = x' := by simpa using hx'
        exact hx
      | _ + 1, hg', _ => simp at hg'
  · rcases List.mem_append.1 hg' with h1 | h1
    · exact h.base g' h1
    · obtain rfl := List.mem_singleton.1 h1
      omega
  · rw [List.pairwise_append]
    refine ⟨h.up, List.pairwise_singleton _ _, fun a ha b hb' => ?_⟩
    obtain rfl := List.mem_singleton.1 hb'
    have := h.lt a ha
    omega
theorem Chgs.grow {W W1 : World} {base : Nat} {gs : List Nat} {xs : List S78} (h : Chgs W base gs xs) {row : Option Nat} (hg : W.grownBy W1 row) (hr : ∀ k, row = some k → ∃ cells, W.heap[k]? = some (.cells cells 137 (0, 0))) : Chgs W1 base gs xs :=
  ⟨h.len, fun j g x hgj hx => by
    have h1 := h.blk j g x hgj hx
    refine (hg.block g (blk_lt h1) (fun e => ?_)).trans h1
    obtain ⟨cs, hc⟩ := hr g e.symm
    unfold Chg at h1
    rw [h1] at hc
    injection hc with hc
    injection hc with _ h2
    exact absurd h2 (by decide), h.base, h.up⟩
theorem Chgs.push' {W W1 W2 : World} {base : Nat} {gs : List Nat} {xs : List S78} (h : Chgs W base gs xs) (hB : Below W.heap.size W W1) {g : Nat} {x : S78} (hx : Chg W1 g x) (hg : W.heap.size ≤ g) (hbase : base ≤ W.heap.size) {row : Option Nat} (hr : ∀ k, row = some k → ∃ cells, W1.heap[k]? = some (.cells cells 137 (0, 0))) (hgr : W1.grownBy W2 row) : Chgs W2 base (gs ++ [g]) (xs ++ [x]) :=
  (h.push (fun k hk => hB.block k hk) hg hbase hx).grow hgr hr
theorem rd78_eq (l : List S78) (j : Nat) (hj : j < l.length) : rd_T78 l (j : Int) = l[j] := by
  unfold rd_T78
  rw [Int.toNat_natCast, List.getD_eq_getElem?_getD, List.getElem?_eq_getElem hj]
  rfl
set_option maxHeartbeats 32000000 in
set_option maxRecDepth 100000 in
theorem ichanges_calls (w : World) (A : Option Addr) (c : Nat) (l : List S78) (hC : Kd.C k78 w A l.length l) (hl : l.length ≤ 1000000) (hx : ∀ x ∈ l, OkD x) :
    Calls Tryd.prog 81 #[.slice A l.length c] w fun e w' => ∃ v gs, e = .returned v ∧ Kd.R kpt 137 w' w.heap.size (fun _ => True) v gs ∧ Chgs w' w.heap.size gs l ∧ Below w.heap.size w w' := by
  have HC := Aside0.mk hC
  have HL := Aside0.mk hl
  have HX := Aside0.mk hx
  have IP := Aside0.mk infoP
  clear hC hl hx
  go_enter Tryd.func81, Tryd.ntmps81
  go_wp2_with fail
  go_loopg [3, 13] l.length (fun kq v3 v13 w' => ∃ i : Int, v13 = .int .i64 i ∧ Aside0 (∃ j : Nat, ∃ gs, i = (j : Int) ∧ j + kq = l.length ∧ Below w.heap.size w w' ∧ Kd.R kpt 137 w' w.heap.size (fun _ => True) v3 gs ∧ Chgs w' w.heap.size gs (l.take j)))
  case atStart => exact ⟨0, rfl, ⟨0, [], rfl, by omega, Below.refl _ _, Kd.R_nil _ _ _ _ _, ⟨rfl, fun j g x h => (by simp at h), fun g h => (by cases h), List.Pairwise.nil⟩⟩⟩
  case round =>
    obtain ⟨i, rfl, HJ⟩ := hrel
    by_cases hi : i < (l.length : Int)
    · have q0 : decide (i < (l.length : Int)) = true := decide_eq_true hi
      obtain ⟨j, gs, hij, hjk, hB, hR, hG⟩ := HJ.out
      have hjl : j < l.length := by omega
      have hok := HX.out _ (List.getElem_mem hjl)
      rw [← rd78_eq l j hjl, ← hij] at hok
      have htk : l.take (j + 1) = l.take j ++ [rd_T78 l i] := by rw [hij, rd78_eq l j hjl, List.take_succ_eq_append_getElem hjl]
      obtain ⟨ad, A2, c2, A3, c3, eA, hx0, hx1, hx2, hx3, hl2, hr2, hl3, hr3⟩ := at_T78 (Kd.C_below HC.out hB) i (by omega) hi
      subst eA
      obtain ⟨x, hxx⟩ : ∃ x, x = rd_T78 l i := ⟨_, rfl⟩
      rw [← hxx] at hx0 hx1 hx2 hx3 hl2 hr2 hl3 hr3 hok htk
      have HR2 := Aside0.mk hr2
      have HR3 := Aside0.mk hr3
      have HL2 := Aside0.mk hl2
      have HL3 := Aside0.mk hl3
      have HX2 := Aside0.mk hok.b
      have HX3 := Aside0.mk hok.a
      have HC2 : Aside0 (bytes_Clone.f x.f2 = some x.f2) := ⟨by unfold bytes_Clone.f; rw [if_pos (by have := hok.bl; omega)]⟩
      have HC3 : Aside0 (bytes_Clone.f x.f3 = some x.f3) := ⟨by unfold bytes_Clone.f; rw [if_pos (by have := hok.al; omega)]⟩
      have HTK := Aside0.mk htk
      obtain ⟨As, cs, es⟩ := Kd.R_slice hR
      subst es
      have HB := Aside0.mk hB
      have HR := Aside0.mk hR
      have HG := Aside0.mk hG
      have HGL := Aside0.mk (show gs.length ≤ 1000000 by rw [hG.len, List.length_take]; have := HL.out; omega)
      have hi0 : ((0 : Int) ≤ i) = True := eq_true (by omega)
      have hi1 : (i < (l.length : Int)) = True := eq_true hi
      obtain ⟨i1, hi1e⟩ : ∃ y : Int, wrap64 (i + 1) = y := ⟨_, rfl⟩
      have hi1w : IntKind.i64.wrap (i + 1) = i1 := (i64_w _).trans hi1e
      have HI1 := Aside0.mk (show i1 = ((j + 1 : Nat) : Int) by have := HL.out; rw [← hi1e]; unfold wrap64; omega)
      have HJ2 := Aside0.mk (show j + gk = l.length ∧ j < l.length from ⟨hjk, hjl⟩)
      clear hij hjk hjl hi HJ hB hR hG hok htk hxx hl2 hr2 hl3 hr3
      go_upto_region 5 with ((with_reducible refine gate_dst (N := 5) rfl ?_); refine box_event ?hg (N := 5) ?hd (cs := #[.int .i64 0, .string ⟨#[]⟩, .slice none 0 0, .slice none 0 0]) (t := 78) ?hr ?_; (case hd => rfl); (case hg => rfl); (case hr => first | (go_simp; done) | (go_simp; rfl)); intro gb hgb w8 hbox hb; have BKgb := Aside0.mk hbox; have GEgb : Aside0 (wr.heap.size ≤ gb) := ⟨by rw [hgb]; exact Nat.le_refl _⟩; have HBxgb := Aside0.mk hb; have hcgb0 : w8.cell? ⟨gb, 0, none⟩ = some (.int .i64 0) := (blk_cell BKgb.out 0).trans rfl; have hfgb0 := blk_frozen BKgb.out 0; have hcgb1 : w8.cell? ⟨gb, 1, none⟩ = some (.string ⟨#[]⟩) := (blk_cell BKgb.out 1).trans rfl; have hfgb1 := blk_frozen BKgb.out 1; have hcgb2 : w8.cell? ⟨gb, 2, none⟩ = some (.slice none 0 0) := (blk_cell BKgb.out 2).trans rfl; have hfgb2 := blk_frozen BKgb.out 2; have hcgb3 : w8.cell? ⟨gb, 3, none⟩ = some (.slice none 0 0) := (blk_cell BKgb.out 3).trans rfl; have hfgb3 := blk_frozen BKgb.out 3; clear hb hbox hgb)
      obtain ⟨W5, hW5⟩ : ∃ W_, W_ = set4 w8 gb (.int .i64 x.f0) (.string x.f1) (.slice A2 x.f2.length c2) (.slice A3 x.f3.length c3) := ⟨_, rfl⟩
      have HB5 : Aside0 (Below wr.heap.size wr W5) := ⟨by rw [hW5]; exact set4_below HBxgb.out GEgb.out _ _ _ _⟩
      have HKb5 : Aside0 (W5.heap[gb]? = some (.cells #[.int .i64 x.f0, .string x.f1, .slice A2 x.f2.length c2, .slice A3 x.f3.length c3] 78 (0, 0))) := ⟨by rw [hW5]; exact set4_blk BKgb.out _ _ _ _⟩
      unfold set4 at hW5
      rw [← hW5]
      have hk0 := (blk_cell HKb5.out 0).trans rfl
      have hk1 := (blk_cell HKb5.out 1).trans rfl
      clear hW5 hcgb0 hfgb0 hcgb1 hfgb1 hcgb2 hfgb2 hcgb3 hfgb3 hx0 hx1 hx2 hx3
      go_upto_region 6 with ((with_reducible refine gate_dst (N := 22) rfl ?_); refine box_event ?hg (N := 22) ?hd (cs := #[.int .i64 x.f0, .string x.f1, .string ⟨#[]⟩, .string ⟨#[]⟩]) (t := 142) ?hr ?_; (case hd => rfl); (case hg => rfl); (case hr => first | (go_simp; done) | (go_simp; rfl)); intro gc hgb W6 hbox hb; have BKgc := Aside0.mk hbox; have GEgc : Aside0 (W5.heap.size ≤ gc) := ⟨by rw [hgb]; exact Nat.le_refl _⟩; have HBxgc := Aside0.mk hb; have hcgc0 : W6.cell? ⟨gc, 0, none⟩ = some (.int .i64 x.f0) := (blk_cell BKgc.out 0).trans rfl; have hfgc0 := blk_frozen BKgc.out 0; have hcgc1 : W6.cell? ⟨gc, 1, none⟩ = some (.string x.f1) := (blk_cell BKgc.out 1).trans rfl; have hfgc1 := blk_frozen BKgc.out 1; have hcgc2 : W6.cell? ⟨gc, 2, none⟩ = some (.string ⟨#[]⟩) := (blk_cell BKgc.out 2).trans rfl; have hfgc2 := blk_frozen BKgc.out 2; have hcgc3 : W6.cell? ⟨gc, 3, none⟩ = some (.string ⟨#[]⟩) := (blk_cell BKgc.out 3).trans rfl; have hfgc3 := blk_frozen BKgc.out 3; clear hb hbox hgb)
      have HB6 := Aside0.mk (below_step HB5.out HBxgc.out)
      have HKb := Aside0.mk ((HBxgc.out.block _ (blk_lt HKb5.out)).trans HKb5.out)
      have HKc := BKgc
      have HGC := Aside0.mk (Nat.le_trans HB5.out.size GEgc.out)
      have hk2 := (blk_cell HKb.out 2).trans rfl
      clear hk0 hk1 hcgc0 hfgc0 hcgc1 hfgc1 hcgc2 hfgc2 hcgc3 hfgc3
      go_upto_region 7 with (first
        | (go_at_call 51; refine (bytes_Clone.calls A2 c2 x.f2 x.f2 _ (Kd.C_below HR2.out HB6.out) HL2.out HC2.out).mono ?_; rintro e wa ⟨va, rfl, hR, hb⟩; obtain ⟨Aa, ca, rfl⟩ := Kd.R_slice hR; have HRa := Aside0.mk hR; have HBa := Aside0.mk hb; clear hR hb)
        | (go_at_call 115; refine (gocid_Cast.calls 100 Aa ca x.f2 (strOfNums x.f2) none _ (Kd.R_reads' HRa.out).2.2 (Kd.R_reads' HRa.out).2.1 HX2.out).mono ?_; rintro e wc ⟨eT, eX, rfl, hb⟩; have HBc := Aside0.mk (below_step HBa.out hb); clear hb; simp only [errV_none])
        | ((with_reducible refine gate_dst (N := 7) rfl ?_); refine box_event ?hg (N := 7) ?hd (cs := #[.string ⟨#[]⟩]) (t := 140) ?hr ?_; (case hd => rfl); (case hg => rfl); (case hr => first | (go_simp; done) | (go_simp; rfl)); intro gi hgb wi hbox hb; have BKgi := Aside0.mk hbox; have GEgi : Aside0 (wc.heap.size ≤ gi) := ⟨by rw [hgb]; exact Nat.le_refl _⟩; have HBxgi := Aside0.mk hb; have hcgi0 : wi.cell? ⟨gi, 0, none⟩ = some (.string ⟨#[]⟩) := (blk_cell BKgi.out 0).trans rfl; have hfgi0 := blk_frozen BKgi.out 0; clear hb hbox hgb))
      obtain ⟨W7, hW7⟩ : ∃ W_, W_ = wi.setCell ⟨gi, 0, none⟩ (.string (strOfNums x.f2)) := ⟨_, rfl⟩
      rw [← hW7]
      have HSW7 : Aside0 (Below W6.heap.size W6 W7) := ⟨by rw [hW7]; exact below_set (below_step HBc.out HBxgi.out) (Nat.le_trans HBc.out.size GEgi.out)⟩
      have hi0 : W7.cell? ⟨gi, 0, none⟩ = some (.string (strOfNums x.f2)) := by rw [hW7]; exact (blk_cell (blk_put BKgi.out 0 _ rfl) 0).trans rfl
      have HKbW7 := Aside0.mk ((HSW7.out.block _ (blk_lt HKb.out)).trans HKb.out)
      have HKcW7 := Aside0.mk ((HSW7.out.block _ (blk_lt HKc.out)).trans HKc.out)
      clear hW7 hcgi0 hfgi0
      have HB7 := Aside0.mk (below_step HB6.out HSW7.out)
      have hcc2 := (blk_cell HKcW7.out 2).trans rfl
      have hcf2 := blk_frozen HKcW7.out 2
      clear hk2
      go_upto_region 9 with fail
      have HNE := Aside0.mk (show gb ≠ gc by have h1 := blk_lt HKb5.out; have h2 := GEgc.out; omega)
      obtain ⟨W9, hW9⟩ : ∃ W_, W_ = W7.setCell ⟨gc, 2, none⟩ (.string (strOfNums x.f2)) := ⟨_, rfl⟩
      rw [← hW9]
      have HB9 : Aside0 (Below wr.heap.size wr W9) := ⟨by rw [hW9]; exact below_set HB7.out HGC.out⟩
      have HKb9 : Aside0 (W9.heap[gb]? = some (.cells #[.int .i64 x.f0, .string x.f1, .slice A2 x.f2.length c2, .slice A3 x.f3.length c3] 78 (0, 0))) := ⟨by rw [hW9]; exact blk_far HKbW7.out (p := ⟨gc, 2, none⟩) HNE.out _⟩
      have HKc9 : Aside0 (W9.heap[gc]? = some (.cells #[.int .i64 x.f0, .string x.f1, .string (strOfNums x.f2), .string ⟨#[]⟩] 142 (0, 0))) := ⟨by rw [hW9]; exact blk_put HKcW7.out 2 _ rfl⟩
      have hk3 := (blk_cell HKb9.out 3).trans rfl
      clear hW9 hcc2 hcf2 hi0 HRa HBa HBc BKgi GEgi HBxgi HSW7 HB7 HKbW7 HKcW7
      go_upto_region 10 with (first
        | (go_at_call 51; refine (bytes_Clone.calls A3 c3 x.f3 x.f3 _ (Kd.C_below HR3.out HB9.out) HL3.out HC3.out).mono ?_; rintro e wa ⟨va, rfl, hR, hb⟩; obtain ⟨Aa, ca, rfl⟩ := Kd.R_slice hR; have HRa := Aside0.mk hR; have HBa := Aside0.mk hb; clear hR hb)
        | (go_at_call 115; refine (gocid_Cast.calls 100 Aa ca x.f3 (strOfNums x.f3) none _ (Kd.R_reads' HRa.out).2.2 (Kd.R_reads' HRa.out).2.1 HX3.out).mono ?_; rintro e wc ⟨eT, eX, rfl, hb⟩; have HBc := Aside0.mk (below_step HBa.out hb); clear hb; simp only [errV_none])
        | ((with_reducible refine gate_dst (N := 9) rfl ?_); refine box_event ?hg (N := 9) ?hd (cs := #[.string ⟨#[]⟩]) (t := 140) ?hr ?_; (case hd => rfl); (case hg => rfl); (case hr => first | (go_simp; done) | (go_simp; rfl)); intro gi hgb wi hbox hb; have BKgi := Aside0.mk hbox; have GEgi : Aside0 (wc.heap.size ≤ gi) := ⟨by rw [hgb]; exact Nat.le_refl _⟩; have HBxgi := Aside0.mk hb; have hcgi0 : wi.cell? ⟨gi, 0, none⟩ = some (.string ⟨#[]⟩) := (blk_cell BKgi.out 0).trans rfl; have hfgi0 := blk_frozen BKgi.out 0; clear hb hbox hgb))
      obtain ⟨W10, hW10⟩ : ∃ W_, W_ = wi.setCell ⟨gi, 0, none⟩ (.string (strOfNums x.f3)) := ⟨_, rfl⟩
      rw [← hW10]
      have HSW10 : Aside0 (Below W9.heap.size W9 W10) := ⟨by rw [hW10]; exact below_set (below_step HBc.out HBxgi.out) (Nat.le_trans HBc.out.size GEgi.out)⟩
      have hi0 : W10.cell? ⟨gi, 0, none⟩ = some (.string (strOfNums x.f3)) := by rw [hW10]; exact (blk_cell (blk_put BKgi.out 0 _ rfl) 0).trans rfl
      have HKbW10 := Aside0.mk ((HSW10.out.block _ (blk_lt HKb9.out)).trans HKb9.out)
      have HKcW10 := Aside0.mk ((HSW10.out.block _ (blk_lt HKc9.out)).trans HKc9.out)
      clear hW10 hcgi0 hfgi0
      have HB10 := Aside0.mk (below_step HB9.out HSW10.out)
      have hcc3 := (blk_cell HKcW10.out 3).trans rfl
      have hcf3 := blk_frozen HKcW10.out 3
      clear hk3
      go_upto_region 12 with fail
      obtain ⟨W12, hW12⟩ : ∃ W_, W_ = W10.setCell ⟨gc, 3, none⟩ (.string (strOfNums x.f3)) := ⟨_, rfl⟩
      rw [← hW12]
      have HB12 : Aside0 (Below wr.heap.size wr W12) := ⟨by rw [hW12]; exact below_set HB10.out HGC.out⟩
      have HKc12 : Aside0 (Chg W12 gc x) := ⟨by rw [hW12]; exact blk_put HKcW10.out 3 _ rfl⟩
      have HRS := Aside0.mk (Kd.R_below HR.out HB12.out)
      have HBS := Aside0.mk (below_step HB.out HB12.out)
      clear hW12 hcc3 hcf3 hi0
      go_wp2_with (at_builtin; refine Kd.R_append kpt (w0 := w) w.heap.size rfl (.tmp 49) (.tmp 51) 134 137 (.pointer none) 8 rfl Tryd.underlying134 IP.out rfl (by decide) (by decide) (.slice As gs.length cs) gs gc [.pointer (some ⟨gc, 0, none⟩)] (fun _ => True) (fun _ => False) rfl rfl rfl (fun _ hk => hk.elim) (fun _ _ => trivial) HRS.out HBS.out HBS.out.size (by have := HGL.out; omega) ?_; intro v1 wz hR hb hg hat; have HFR := Aside0.mk hR; have HFB := Aside0.mk hb; have HKF := Aside0.mk (show ∀ k, k < wr.heap.size → wz.heap[k]? = wr.heap[k]? ∨ True from fun _ _ => .inr trivial); have HGF : Aside0 (Chgs wz w.heap.size (gs ++ [gc]) (l.take j ++ [x])) := ⟨Chgs.push' HG.out HB12.out HKc12.out HGC.out HB.out.size (Kd.R_typed HRS.out) hg⟩; clear hR hb hg hat)
      go_roundg (gk - 1)
      case measure => have := HJ2.out; omega
      case rel =>
        refine ⟨i1, rfl, ⟨j + 1, gs ++ [gc], HI1.out, by have := HJ2.out; omega, HFB.out, HFR.out, ?_⟩⟩
        rw [HTK.out]
        exact HGF.out
    · have q0 : decide (i < (l.length : Int)) = false := decide_eq_false hi
      obtain ⟨j, gs, hij, hjk, hB, hR, hG⟩ := HJ.out
      have hje : j = l.length := by omega
      rw [hje, List.take_length] at hG
      have HR := Aside0.mk hR
      have HB := Aside0.mk hB
      have HG := Aside0.mk hG
      clear hij hjk hje hB hR hG HJ hi
      go_wp2_with fail
      go_ret
      exact ⟨_, _, rfl, HR.out, HG.out, HB.out⟩
end Go.Proofs.YtnhnlodmkbiiiaaDoor.HandDif
