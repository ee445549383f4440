/- What diffsLive answers. -/
import Derived.Test.YtnhnlodmkbiiiaaDoorD12
import Derived.Test.YtnhnlodmkbiiiaaDoorD13
namespace Go.Proofs.YtnhnlodmkbiiiaaDoor.HandDif
open Go Go.RowKit Go.Proofs.YtnhnlodmkbiiiaaDoorL Go.Proofs.YtnhnlodmkbiiiaaDoorW.PrintWords Go.Proofs.YtnhnlodmkbiiiaaDoorW.PrintLast Go.Proofs.YtnhnlodmkbiiiaaDoorW.PrintMore Go.Proofs.YtnhnlodmkbiiiaaDoor.PDif
attribute [local go_sem] max2_int min2_int max_two min_two max_three min_three max_four min_four
set_option linter.unusedVariables false
set_option linter.unusedSimpArgs false
theorem idB_len (n : Nat) : (idB n).length ≤ 1000 := by
  have := hashN_len (n / 3)
  unfold idB
  split
  · simp only [List.length_cons]; omega
  · split <;> (simp only [List.length_cons]; omega)
theorem chg_ok (n : Nat) : OkD (chg n) := ⟨cast_id _, cast_id _, idB_len _, idB_len _⟩
theorem pathB_size : ∀ m, m < 8 → (pathB m).size ≤ maxLen
  | 0, _ => by decide | 1, _ => by decide | 2, _ => by decide | 3, _ => by decide | 4, _ => by decide | 5, _ => by decide | 6, _ => by decide | 7, _ => by decide
  | n + 8, h => by omega
theorem chgs_ok (l : List Int) : ∀ x ∈ chgs l, OkD x := by
  intro x hx
  obtain ⟨n, _, rfl⟩ := List.mem_map.1 hx
  exact chg_ok _
theorem chgs_path (l : List Int) : ∀ x ∈ chgs l, x.f1.size ≤ maxLen := by
  intro x hx
  obtain ⟨n, _, rfl⟩ := List.mem_map.1 hx
  exact pathB_size _ (Nat.mod_lt _ (by decide))
theorem chgs_len (l : List Int) : (chgs l).length = l.length := List.length_map _
theorem merged2_calls (w : World) (A0 A1 : Option Addr) (c0 c1 : Nat) (l0 l1 : List S78) (h0 : Kd.C k78 w A0 l0.length l0) (h1 : Kd.C k78 w A1 l1.length l1) (hl0 : l0.length ≤ 5000) (hl1 : l1.length ≤ 5000) (hx0 : ∀ x ∈ l0, OkD x) (hx1 : ∀ x ∈ l1, OkD x) (hp0 : ∀ x ∈ l0, x.f1.size ≤ maxLen) (hp1 : ∀ x ∈ l1, x.f1.size ≤ maxLen) :
    Calls Tryd.prog 40 #[.slice A0 l0.length c0, .slice A1 l1.length c1] w fun e w' => ∃ A c B d, e = .returned (.tuple #[.slice A (tds l0 l1).length c, .slice B (tcs l0 l1).length d]) ∧ Kd.C k78 w' A (tds l0 l1).length (tds l0 l1) ∧ (tds l0 l1).length ≤ c ∧ Kd.C k79 w' B (tcs l0 l1).length (tcs l0 l1) ∧ Below w.heap.size w w' := by
  refine (merged_calls w A0 A1 c0 c1 l0 l1 h0 h1 hl0 hl1 hx0 hx1 (fun x hx => (List.mem_append.1 hx).elim (hp0 x) (hp1 x))).mono ?_
  rintro e w' ⟨v1, v2, gs, hs, rfl, hg, hh, up, hR1, hR2, hb⟩
  obtain ⟨e1, e2⟩ := merged_said hg hh up
  rw [e1] at hR1
  rw [e2] at hR2
  obtain ⟨A, c, rfl⟩ := Kd.R_slice hR1
  obtain ⟨B, d, rfl⟩ := Kd.R_slice hR2
  exact ⟨A, c, B, d, rfl, (Kd.R_reads' hR1).2.2, (Kd.R_reads' hR1).2.1, (Kd.R_reads' hR2).2.2, hb⟩
theorem reads_blockK (k : IntKind) {W : World} {g t : Nat} {hs : List Int} (h : W.heap[g]? = some (.cells (nums k hs).toArray t (0, 0))) (hm : hs.length ≤ 9223372036854775807) : Kd.C (Kd.int k) W (some ⟨g, 0, none⟩) hs.length hs := by
  refine Kd.C_of_reads (enc := Value.int k) (d := (0 : Int)) (h1 := fun _ => rfl) ⟨rfl, hm, fun _ => ⟨_, rfl, fun j hj => ?_⟩⟩
  have e : (⟨g, 0, none⟩ : Addr).add j = ⟨g, j, none⟩ := by
    unfold Addr.add
    split
    · next h => rw [h]
    · simp
  rw [e, cell_of_row _ _ _ _ _ _ h]
  simp [nums, List.getElem?_eq_getElem hj, List.getD_eq_getElem?_getD]
def z79 : S78 × S78 := (z78, z78)
def rd_T79 (xs : List (S78 × S78)) (i : Int) : S78 × S78 := xs.getD i.toNat z79
theorem rd79_eq (l : List (S78 × S78)) (j : Nat) (hj : j < l.length) : rd_T79 l (j : Int) = l[j] := by
  unfold rd_T79
  rw [Int.toNat_natCast, List.getD_eq_getElem?_getD, List.getElem?_eq_getElem hj]
  rfl
/-- The eight cells of a pair in a row. -/
structure At79 (w : World) (m : Addr) (p q : S78) (B2 : Option Addr) (d2 : Nat) (B3 : Option Addr) (d3 : Nat) (E2 : Option Addr) (e2 : Nat) (E3 : Option Addr) (e3 : Nat) : Prop where
  c0 : w.cell? m = some (.int .i64 p.f0)
  c1 : w.cell? ⟨m.block, m.off + 1, none⟩ = some (.string p.f1)
  c2 : w.cell? ⟨m.block, m.off + 2, none⟩ = some (.slice B2 p.f2.length d2)
  c3 : w.cell? ⟨m.block, m.off + 3, none⟩ = some (.slice B3 p.f3.length d3)
  c4 : w.cell? ⟨m.block, m.off + 4, none⟩ = some (.int .i64 q.f0)
  c5 : w.cell? ⟨m.block, m.off + 5, none⟩ = some (.string q.f1)
  c6 : w.cell? ⟨m.block, m.off + 6, none⟩ = some (.slice E2 q.f2.length e2)
  c7 : w.cell? ⟨m.block, m.off + 7, none⟩ = some (.slice E3 q.f3.length e3)
  p2 : (Kd.int .u8).C w B2 p.f2.length p.f2 ∧ p.f2.length ≤ d2 ∧ (Kd.int .u8).C w B3 p.f3.length p.f3 ∧ p.f3.length ≤ d3
  q2 : (Kd.int .u8).C w E2 q.f2.length q.f2 ∧ q.f2.length ≤ e2 ∧ (Kd.int .u8).C w E3 q.f3.length q.f3 ∧ q.f3.length ≤ e3
theorem at_T79 {w : World} {A : Option Addr} {n : Nat} {xs : List (S78 × S78)} (h : Kd.C k79 w A n xs) (i : Int) (h0 : 0 ≤ i) (h1 : i < n) : ∃ ad B2 d2 B3 d3 E2 e2 E3 e3, A = some ad ∧ At79 w (ad.add (i.toNat * 8)) (rd_T79 xs i).1 (rd_T79 xs i).2 B2 d2 B3 d3 E2 e2 E3 e3 := by
  obtain ⟨ad, c, e, _, hK, hc0⟩ := Kd.C_get h z79 i h0 h1
  have hc : ∀ j u, c[j]? = some u → w.cell? (ad.add (i.toNat * 8 + j)) = some u := hc0
  obtain ⟨x0, x1, rfl, hk0, hk1⟩ := hK
  obtain ⟨B2, d2, B3, d3, rfl, l2, g2, l3, g3⟩ := k78_open hk0
  obtain ⟨E2, e2, E3, e3, rfl, m2, o2, m3, o3⟩ := k78_open hk1
  exact ⟨ad, B2, d2, B3, d3, E2, e2, E3, e3, e, hc 0 _ rfl, by rw [← add_field _ _ 1 (by omega)]; exact hc 1 _ rfl, by rw [← add_field _ _ 2 (by omega)]; exact hc 2 _ rfl, by rw [← add_field _ _ 3 (by omega)]; exact hc 3 _ rfl, by rw [← add_field _ _ 4 (by omega)]; exact hc 4 _ rfl, by rw [← add_field _ _ 5 (by omega)]; exact hc 5 _ rfl, by rw [← add_field _ _ 6 (by omega)]; exact hc 6 _ rfl, by rw [← add_field _ _ 7 (by omega)]; exact hc 7 _ rfl, ⟨g2, l2, g3, l3⟩, ⟨o2, m2, o3, m3⟩⟩
theorem live_eq : tds (chgs [0, 6]) (chgs [1, 3]) = [chg 6, chg 3] ∧ tcs (chgs [0, 6]) (chgs [1, 3]) = [(chg 0, chg 1)] := by
  constructor <;> kernel_rfl
theorem addr_zero (ad : Addr) (n : Nat) : ad.add ((0 : Int).toNat * n) = ad := by
  unfold Addr.add
  simp
set_option maxHeartbeats 8000000 in
set_option maxRecDepth 100000 in
theorem live_calls (w : World) : Calls Tryd.prog 38 #[] w fun e w' => e = .returned (.bool true) ∧ Below w.heap.size w w' := by
  go_enter Tryd.func38, Tryd.ntmps38
  go_upto_region 2 with (first
    | (go_at_call 40; refine (merged2_calls _ A1 A2 c1 c2 (chgs [0, 6]) (chgs [1, 3]) (Kd.C_below (Kd.C_alloc HR1.out _) HB2.out) HR2.out (by decide) (by decide) (chgs_ok _) (chgs_ok _) (chgs_path _) (chgs_path _)).mono ?_; rintro e w3 ⟨A7, c7, A8, c8, rfl, h7, _, h8, hb⟩; rw [live_eq.1] at h7; rw [live_eq.2] at h8; rw [live_eq.1, live_eq.2]; have H7 := Aside0.mk h7; have H8 := Aside0.mk h8; have HB3 := Aside0.mk (below_step HB12.out hb); clear h7 h8 hb)
    | (go_at_call 39; refine (changes_calls (w1.alloc _) (some ⟨w1.heap.size, 0, none⟩) 2 [1, 3] (reads_blockK .u16 (blk_new w1 _) (by decide)) (by decide) (by decide)).mono ?_; rintro e w2 ⟨v2, rfl, hR, hb⟩; obtain ⟨A2, c2, rfl⟩ := Kd.R_slice hR; have HR2 := Aside0.mk (Kd.R_reads' hR).2.2; have HB2 := Aside0.mk hb; have HB12 := Aside0.mk (below_step (below_alloc HB1.out _) hb); clear hR hb)
    | (go_at_call 39; refine (changes_calls (w.alloc _) (some ⟨w.heap.size, 0, none⟩) 2 [0, 6] (reads_blockK .u16 (blk_new w _) (by decide)) (by decide) (by decide)).mono ?_; rintro e w1 ⟨v1, rfl, hR, hb⟩; obtain ⟨A1, c1, rfl⟩ := Kd.R_slice hR; have HR1 := Aside0.mk (Kd.R_reads' hR).2.2; have HB1 := Aside0.mk (below_step (below_alloc (Below.refl _ _) _) hb); clear hR hb))
  obtain ⟨ad, D2, k2, D3, k3, eA, hx0, hx1, hx2, hx3, _, _, _, _⟩ := at_T78 H7.out 0 (by decide) (by decide)
  obtain ⟨ad', D2', k2', D3', k3', eA', hy0, hy1, hy2, hy3, _, _, _, _⟩ := at_T78 H7.out 1 (by decide) (by decide)
  obtain ⟨ae, B2, d2, B3, d3, E2, e2, E3, e3, eB, hz⟩ := at_T79 H8.out 0 (by decide) (by decide)
  subst eA
  injection eA' with eA'
  subst eA'
  subst eB
  have hz0 : w3.cell? (ae.add ((0 : Int).toNat * 8)) = some (.int .i64 0) := hz.c0
  have hz1 : w3.cell? ⟨(ae.add ((0 : Int).toNat * 8)).block, (ae.add ((0 : Int).toNat * 8)).off + 4, none⟩ = some (.int .i64 1) := hz.c4
  have hv0 : w3.cell? ⟨(ad.add ((0 : Int).toNat * 4)).block, (ad.add ((0 : Int).toNat * 4)).off + 1, none⟩ = some (.string ⟨#[97, 47, 98]⟩) := hx1
  have hv1 : w3.cell? ⟨ad.block, ad.off + 4 + 1, none⟩ = some (.string ⟨#[98]⟩) := hy1
  rw [addr_zero] at hz0 hz1 hv0
  clear hx0 hx1 hx2 hx3 hy0 hy1 hy2 hy3 hz
  go_wp2_with fail
  go_ret
  exact ⟨rfl, HB3.out⟩
end Go.Proofs.YtnhnlodmkbiiiaaDoor.HandDif
