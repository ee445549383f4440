/- A node of a file behind edits: FSEdited, by what it hands back. -/
import Derived.Test.YtnhnlodmkbiiiaaDoorRS0
import Derived.Test.YtnhnlodmkbiiiaaDoorRPScrx0
import Derived.Test.YtnhnlodmkbiiiaaDoorRN3
namespace Go.Proofs.YtnhnlodmkbiiiaaDoor.HandFields
open Go Go.RowKit Go.Proofs.YtnhnlodmkbiiiaaDoorL Go.Proofs.YtnhnlodmkbiiiaaDoorW.PrintWords Go.Proofs.YtnhnlodmkbiiiaaDoorW.PrintLast Go.Proofs.YtnhnlodmkbiiiaaDoorW.PrintMore Go.Proofs.YtnhnlodmkbiiiaaDoor.PFieldsBase Go.Proofs.YtnhnlodmkbiiiaaDoor.PScr
attribute [local go_sem] max2_int min2_int max_two min_two max_three min_three max_four min_four
set_option linter.unusedVariables false
set_option linter.unusedSimpArgs false
/-- An edit of a node of a file. -/
def edit (d : Dat) (x : S65) : Dat :=
 if x.f0 = 0 then { d with size := some (newSz d.size (wrap64 ((x.f1.length : Int) - (((d.data.getD []).length : Nat) : Int)))), data := some x.f1 }
 else if x.f0 = 1 then { d with size := some (newSz d.size (wrap64 x.f2)), blocks := d.blocks ++ [x.f2] }
 else if x.f0 = 2 then (if 0 ≤ x.f3 ∧ x.f3 < (d.blocks.length : Int) then { d with size := some (newSz d.size (wrap64 (-(wrap64 (rd d.blocks x.f3))))), blocks := d.blocks.eraseIdx x.f3.toNat } else d)
 else if x.f0 = 3 then { d with size := some (d.data.getD []).length, blocks := [] }
 else if x.f0 = 4 then { d with size := some (newSz d.size (wrap64 x.f2)) }
 else d
def edits (d : Dat) (l : List S65) : Dat := l.foldl edit d
/-- An edit's numbers are in bounds. -/
structure OkE (x : S65) : Prop where
 d : x.f1.length ≤ 100
 s0 : 0 ≤ x.f2
 s1 : x.f2 < 18446744073709551616
structure EI (d : Dat) (j : Nat) : Prop where
 fit : Fit d
 few : d.blocks.length ≤ j
 size : d.size ≠ none
theorem mem_erase {l : List Int} {i : Nat} {x : Int} (h : x ∈ l.eraseIdx i) : x ∈ l := List.mem_of_mem_eraseIdx h
theorem EI.edit {d : Dat} {j : Nat} (h : EI d j) (hj : j < 1000000) {x : S65} (hx : OkE x) : EI (edit d x) (j + 1) := by
 obtain ⟨⟨a, b, c, e, f⟩, g, s⟩ := h
 have szf : ∀ (o : Option Nat) (y : Int) (n : Nat), some (newSz o y) = some n → n < 2 ^ 64 := fun o y n hn => by injection hn with hn; rw [← hn]; exact newSz_lt o y
 have hd := hx.d
 unfold HandFields.edit
 split
 ·exact ⟨⟨a, fun xs h => by injection h with h; rw [← h]; omega, fun n => szf _ _ n, e, f⟩, Nat.le_succ_of_le g, fun h => by cases h⟩
 split
 ·refine ⟨⟨a, b, fun n => szf _ _ n, fun y hy => ?_, ?_⟩, ?_, fun h => by cases h⟩
  ·rcases List.mem_append.1 hy with hy | hy
   ·exact e y hy
   ·obtain rfl := List.mem_singleton.1 hy
    exact ⟨hx.s0, by have := hx.s1; omega⟩
  ·rw [List.length_append, List.length_singleton]; omega
  ·rw [List.length_append, List.length_singleton]; omega
 split
 ·split
  ·have hle : (d.blocks.eraseIdx x.f3.toNat).length ≤ d.blocks.length := List.length_eraseIdx_le ..
   exact ⟨⟨a, b, fun n => szf _ _ n, fun y hy => e y (mem_erase hy), Nat.le_trans hle f⟩, Nat.le_succ_of_le (Nat.le_trans hle g), fun h => by cases h⟩
  ·exact ⟨⟨a, b, c, e, f⟩, Nat.le_succ_of_le g, s⟩
 split
 ·refine ⟨⟨a, b, fun n hn => ?_, fun y hy => (by cases hy), Nat.zero_le _⟩, Nat.zero_le _, fun h => by cases h⟩
  injection hn with hn
  have : (d.data.getD []).length ≤ 1000000 := by
   cases hd : d.data with
   | none => exact Nat.zero_le _
   | some xs => exact b xs hd
  omega
 split
 ·exact ⟨⟨a, b, fun n => szf _ _ n, e, f⟩, Nat.le_succ_of_le g, fun h => by cases h⟩
 ·exact ⟨⟨a, b, c, e, f⟩, Nat.le_succ_of_le g, s⟩
theorem rdT_eq (l : List S65) (j : Nat) (hj : j < l.length) : rd_T65 l (j : Int) = l[j] := by
 unfold rd_T65
 rw [Int.toNat_natCast, List.getD_eq_getElem?_getD, List.getElem?_eq_getElem hj]
 rfl
theorem edits_next (d : Dat) (l : List S65) (j : Nat) (hj : j < l.length) : edits d (l.take (j + 1)) = edit (edits d (l.take j)) (rd_T65 l (j : Int)) := by
 unfold edits
 rw [List.take_succ_eq_append_getElem hj, List.foldl_append, rdT_eq l j hj]
 rfl
theorem EI.edits {d : Dat} (h : EI d 0) {l : List S65} (hl : ∀ x ∈ l, OkE x) : ∀ j, j ≤ l.length → j < 1000000 → EI (edits d (l.take j)) j
 | 0, _, _ => h
 | j + 1, hj, hm => by
  rw [edits_next d l j (by omega)]
  refine (EI.edits h hl j (by omega) (by omega)).edit (by omega) ?_
  rw [rdT_eq l j (by omega)]
  exact hl _ (List.getElem_mem _)
section
variable (d : Dat) (a : Int) (xs : List Int) (s i : Int)
theorem edit_0 : edit d ⟨0, xs, s, i⟩ = { d with size := some (newSz d.size (wrap64 ((xs.length : Int) - (((d.data.getD []).length : Nat) : Int)))), data := some xs } := rfl
theorem edit_1 : edit d ⟨1, xs, s, i⟩ = { d with size := some (newSz d.size (wrap64 s)), blocks := d.blocks ++ [s] } := rfl
theorem edit_2 (h : 0 ≤ i ∧ i < (d.blocks.length : Int)) : edit d ⟨2, xs, s, i⟩ = { d with size := some (newSz d.size (wrap64 (-(wrap64 (rd d.blocks i))))), blocks := d.blocks.eraseIdx i.toNat } := if_pos h
theorem edit_2n (h : ¬ (0 ≤ i ∧ i < (d.blocks.length : Int))) : edit d ⟨2, xs, s, i⟩ = d := if_neg h
theorem edit_3 : edit d ⟨3, xs, s, i⟩ = { d with size := some (d.data.getD []).length, blocks := [] } := rfl
theorem edit_4 : edit d ⟨4, xs, s, i⟩ = { d with size := some (newSz d.size (wrap64 s)) } := rfl
theorem edit_n (h0 : a ≠ 0) (h1 : a ≠ 1) (h2 : a ≠ 2) (h3 : a ≠ 3) (h4 : a ≠ 4) : edit d ⟨a, xs, s, i⟩ = d := by
 unfold edit
 rw [if_neg h0, if_neg h1, if_neg h2, if_neg h3, if_neg h4]
end
set_option maxHeartbeats 16000000 in
set_option maxRecDepth 100000 in
theorem FSEd_calls (w : World) (k : Nat) (A : Option Addr) (c : Nat) (l : List S65) (hC : Kd.C k65 w A l.length l) (hk : k < 1000) (hl : l.length ≤ 1000) (hx : ∀ x ∈ l, OkE x) :
  Calls Tryd.prog 36 #[.int .i64 (k : Int), .slice A l.length c] w fun e w' => ∃ v1 v3 vb, e = .returned (.tuple #[.agg #[.int .i64 ((edits ⟨k, none, some 0, []⟩ l).ty : Int), v1, .int .u64 (fsz (edits ⟨k, none, some 0, []⟩ l)), v3, .int .u64 0, .int .u64 0], .int .i64 ((edits ⟨k, none, some 0, []⟩ l).blocks.length : Int), vb]) ∧
   Kd.R (Kd.int .u8) 5 w' w.heap.size (fun _ => True) v1 ((edits ⟨k, none, some 0, []⟩ l).data.getD []) ∧ Kd.R (Kd.int .u64) 24 w' w.heap.size (fun _ => True) v3 (edits ⟨k, none, some 0, []⟩ l).blocks ∧ Kd.R (Kd.int .u8) 5 w' w.heap.size (fun _ => True) vb (marsh (edits ⟨k, none, some 0, []⟩ l)) ∧ Below w.heap.size w w' := by
 have HC := Aside0.mk hC
 have HL := Aside0.mk hl
 have HX := Aside0.mk hx
 have hkw : IntKind.i32.wrap (k : Int) = (k : Int) := words_i32 _ (by omega) (by omega)
 have hkw2 : wrap32 (k : Int) = (k : Int) := (i32_w _).symm.trans hkw
 obtain ⟨wz, hwz⟩ : ∃ wz, wz = (w.alloc (.cells #[.int .i64 0, .slice none 0 0, .int .u64 0, .slice none 0 0, .int .u64 0, .int .u64 0] 56)) := ⟨_, rfl⟩
 have HWZ := Aside0.mk hwz
 have hei : EI (⟨k, none, some 0, []⟩ : Dat) 0 := ⟨⟨hk, fun _ h => (by cases h), fun n h => by injection h with h; omega, fun y hy => (by cases hy), Nat.zero_le _⟩, Nat.zero_le _, fun h => by cases h⟩
 have HE0 := Aside0.mk hei
 have HCZ : Aside0 (Kd.C k65 wz A l.length l) := ⟨by rw [hwz]; exact Kd.C_alloc hC _⟩
 have HEI : Aside0 (∀ j, j ≤ l.length → EI (edits ⟨k, none, some 0, []⟩ (l.take j)) j) := ⟨fun j hj => hei.edits hx j hj (by omega)⟩
 have HEA := HEI
 obtain ⟨D0, hD0⟩ : ∃ D : Dat, D = ⟨k, none, some 0, []⟩ := ⟨_, rfl⟩
 have HD0 := Aside0.mk hD0
 rw [← hD0] at HEA HE0 ⊢
 obtain ⟨D, hD⟩ : ∃ D, D = edits D0 l := ⟨_, rfl⟩
 have HDD := Aside0.mk hD
 rw [← hD]
 have HED : Aside0 (EI D l.length) := ⟨by have := HEA.out l.length (Nat.le_refl _); rwa [List.take_length, ← hD] at this⟩
 clear hC hl hx hei HEI hwz hk hD0 hD
 go_enter Tryd.func36, Tryd.ntmps36
 go_wp2_with (go_at_call 67; refine (NewFS_calls wz _ k (by rw [HWZ.out]; exact Below.refl _ _)).mono ?_; rintro e w1 ⟨g, p, c2', rfl, hN⟩; have HN := Aside0.mk hN; clear hN)
 go_loopg [17] l.length (fun kq v17 w' => ∃ i : Int, v17 = .int .i64 i ∧ Aside0 (∃ j : Nat, i = (j : Int) ∧ j + kq = l.length ∧ ∃ p c1 c2 c3, Nd wz w' g (edits D0 (l.take j)) p c1 c2 c3))
 case atStart => exact ⟨0, rfl, ⟨0, rfl, by omega, by rw [HD0.out]; exact ⟨_, _, _, _, HN.out⟩⟩⟩
 case round =>
  obtain ⟨i, rfl, HJ⟩ := hrel
  by_cases hi : i < (l.length : Int)
  ·have q0 : decide (i < (l.length : Int)) = true := decide_eq_true hi
   obtain ⟨j, hij, hjk, p9, d1, d2, d3, hN⟩ := HJ.out
   have hjl : j < l.length := by omega
   have hst := edits_next D0 l j hjl
   have hxm : OkE (rd_T65 l (j : Int)) := by rw [rdT_eq l j hjl]; exact HX.out _ (List.getElem_mem _)
   obtain ⟨ad, A1, c1, eA, hx0, hx1, hx2, hx3, hlx, hrx⟩ := at_T65 (Kd.C_below HCZ.out hN.below) i (by omega) hi
   subst eA
   rw [← hij] at hst hxm
   obtain ⟨x, hxx⟩ : ∃ x, x = rd_T65 l i := ⟨_, rfl⟩
   rw [← hxx] at hx0 hx1 hx2 hx3 hlx hrx hst hxm
   clear hxx
   obtain ⟨a, xs, s, ix⟩ := x
   have HRX := Aside0.mk hrx
   have HXL := Aside0.mk (show xs.length ≤ 100 from hxm.d)
   have HXB := Aside0.mk (show 0 ≤ s ∧ s < 18446744073709551616 from ⟨hxm.s0, hxm.s1⟩)
   have hei := HEA.out j (by omega)
   obtain ⟨d, hd⟩ : ∃ d, d = edits D0 (l.take j) := ⟨_, rfl⟩
   rw [← hd] at hst hN hei
   have HST := Aside0.mk hst
   have HEI := Aside0.mk hei
   have HFW : Aside0 (d.blocks.length ≤ 1000000) := ⟨hei.fit.many⟩
   have hi0 : ((0 : Int) ≤ i) = True := eq_true (by omega)
   have hi1 : (i < (l.length : Int)) = True := eq_true hi
   obtain ⟨i1, hi1e⟩ : ∃ y : Int, wrap64 (i + 1) = y := ⟨_, rfl⟩
   have hi1w : IntKind.i64.wrap (i + 1) = i1 := (i64_w _).trans hi1e
   have HI1 := Aside0.mk (show i1 = ((j + 1 : Nat) : Int) by have := HL.out; rw [← hi1e]; unfold wrap64; omega)
   have HJ2 := Aside0.mk (show j + gk = l.length ∧ j < l.length from ⟨hjk, hjl⟩)
   have HN2 := Aside0.mk hN
   replace hx0 : _ = some (Value.int .i64 a) := hx0
   replace hx1 : _ = some (Value.slice A1 xs.length c1) := hx1
   replace hx2 : _ = some (Value.int .u64 s) := hx2
   replace hx3 : _ = some (Value.int .i64 ix) := hx3
   replace HRX : Aside0 (Kd.C (Kd.int .u8) wr A1 xs.length xs) := HRX
   clear hij hjk hjl hi hN HJ hst hei hxm hrx hlx hd
   go_upto_region 6 with ((with_reducible refine gate_dst (N := 9) rfl ?_); refine box_event ?hg (N := 9) ?hd (cs := #[.int .i64 0, .slice none 0 0, .int .u64 0, .int .i64 0]) (t := 65) ?hr ?_; (case hd => rfl); (case hg => rfl); (case hr => first | (go_simp; done) | (go_simp; rfl)); intro gb hgb w8 hbox hb; have BK := Aside0.mk hbox; have GE : Aside0 (wr.heap.size ≤ gb) := ⟨by rw [hgb]; exact Nat.le_refl _⟩; have HB8 := Aside0.mk hb; have hcz0 : w8.cell? ⟨gb, 0, none⟩ = some (.int .i64 0) := (blk_cell BK.out 0).trans rfl; have hfz0 := blk_frozen BK.out 0; have hcz1 : w8.cell? ⟨gb, 1, none⟩ = some (.slice none 0 0) := (blk_cell BK.out 1).trans rfl; have hfz1 := blk_frozen BK.out 1; have hcz2 : w8.cell? ⟨gb, 2, none⟩ = some (.int .u64 0) := (blk_cell BK.out 2).trans rfl; have hfz2 := blk_frozen BK.out 2; have hcz3 : w8.cell? ⟨gb, 3, none⟩ = some (.int .i64 0) := (blk_cell BK.out 3).trans rfl; have hfz3 := blk_frozen BK.out 3; clear hb hbox hgb)
   obtain ⟨W7, hW7⟩ : ∃ W7, W7 = ((((w8.setCell ⟨gb, 0, none⟩ (.int .i64 a)).setCell ⟨gb, 1, none⟩ (.slice A1 xs.length c1)).setCell ⟨gb, 2, none⟩ (.int .u64 s)).setCell ⟨gb, 3, none⟩ (.int .i64 ix)) := ⟨_, rfl⟩
   rw [← hW7]
   have HB7 : Aside0 (Below wr.heap.size wr W7) := ⟨by rw [hW7]; exact (by repeat (first | (with_reducible first | exact HB8.out | apply below_alloc | apply pw_below_drewN | apply below_drew1 | refine below_set ?_ GE.out) | exact HB8.out))⟩
   have HK7 : Aside0 (W7.heap[gb]? = some (.cells #[.int .i64 a, .slice A1 xs.length c1, .int .u64 s, .int .i64 ix] 65 (0, 0))) := ⟨by rw [hW7]; exact (blk_put (blk_put (blk_put (blk_put BK.out 0 _ rfl) 1 _ rfl) 2 _ rfl) 3 _ rfl)⟩
   have HN7 := Aside0.mk (HN2.out.more HB7.out)
   have HR7 := Aside0.mk (Kd.C_below HRX.out HB7.out)
   have hq0 := (blk_cell HK7.out 0).trans rfl
   have hq1 := (blk_cell HK7.out 1).trans rfl
   have hq2 := (blk_cell HK7.out 2).trans rfl
   have hq3 := (blk_cell HK7.out 3).trans rfl
   clear hW7 hcz0 hcz1 hcz2 hcz3 hfz0 hfz1 hfz2 hfz3 hx0 hx1 hx2 hx3
   by_cases h0 : a = 0
   ·subst h0
    have hbA : (W7.alloc (.cells #[] 5)).cell? ⟨gb, 1, none⟩ = some (.slice A1 xs.length c1) := (blk_cell (blk_alloc HK7.out (.cells #[] 5)) 1).trans rfl
    go_wp2_with (first
     | (at_builtin; refine Kd.R_append_rows (Kd.int .u8) (Rr := fun x cs => cs = [Value.int .u8 x]) (w0 := wz) wz.heap.size rfl (.tmp 26) (.tmp 28) 22 5 (.int .u8 0) 1 rfl Tryd.underlying22 infoE5 rfl (by decide) (by decide) (.slice (some ⟨W7.heap.size, 0, none⟩) ([] : List Int).length 0) [] xs A1 xs.length c1 (fun k => k ≠ g) (fun _ => False) rfl rfl (Kd.R_of_own (xs := ([] : List Int)) (World.ownsRow_made W7 #[] 0 HN7.out.below.size (Nat.zero_le _) rfl) (fun k hk => by have h1 : W7.heap.size = k := (by simpa [Value.ownBlock] using hk); have h2 := blk_lt HN7.out.blk; omega)) (Kd.C_alloc HR7.out _) (fun x cs hx => hx) (fun _ hk => hk.elim) (fun k hk => by have h2 := blk_lt HN7.out.blk; simp at hk; omega) (below_alloc HN7.out.below _) (below_size (below_alloc HN7.out.below _)) (by have := HXL.out; simp only [List.length_nil]; omega) ?_; intro v1 wa hR hb hg hat; rw [List.nil_append] at hR; obtain ⟨A9, c9, rfl, hn1, _⟩ := made_some hR (by simp [Value.ownBlock]) (hat.imp_right (fun ⟨b, h1, h2⟩ => ⟨b, h1, Nat.le_trans (Nat.le_trans HN7.out.below.size (by simp)) h2⟩)); have HRa := Aside0.mk hR; have HNa := Aside0.mk (HN7.out.moreK (W' := wa) (grown_new hg rfl) hb); clear hR hb hg hat hn1)
     | (go_at_call 68; refine (SetData_calls HNa.out A9 xs.length c9 xs rfl HRa.out).mono ?_; rintro e w2 ⟨rfl, e2, z, hz, hN⟩; have HN3 := Aside0.mk hN; have HZ := Aside0.mk hz; clear hN hz))
    go_roundg (gk - 1)
    case measure => have := HJ2.out; omega
    case rel =>
     refine ⟨i1, rfl, ⟨j + 1, HI1.out, by have := HJ2.out; omega, ?_⟩⟩
     have h1 := HST.out
     rw [edit_0] at h1
     rw [h1]
     have h2 := HN3.out
     rw [HZ.out] at h2
     exact ⟨_, _, _, _, h2⟩
   by_cases h1 : a = 1
   ·subst h1
    clear h0
    go_wp2_with (first
     | (go_at_call 69; refine (AddBlk_calls HN7.out s HXB.out HFW.out).mono ?_; rintro e w4 ⟨rfl, e2, e3, hN⟩; have HN3 := Aside0.mk hN; clear hN))
    go_roundg (gk - 1)
    case measure => have := HJ2.out; omega
    case rel =>
     refine ⟨i1, rfl, ⟨j + 1, HI1.out, by have := HJ2.out; omega, ?_⟩⟩
     have h1 := HST.out
     rw [edit_1] at h1
     rw [h1]
     exact ⟨_, _, _, _, HN3.out⟩
   by_cases h2 : a = 2
   ·subst h2
    clear h0 h1
    by_cases hin : 0 ≤ ix ∧ ix < (d.blocks.length : Int)
    ·
     obtain ⟨ni, hni⟩ : ∃ n : Nat, ix = (n : Int) := ⟨ix.toNat, by omega⟩
     subst hni
     have HNI := Aside0.mk (show ni < d.blocks.length by omega)
     have HE2 := Aside0.mk (edit_2 d xs s (ni : Int) hin)
     have hp0 : ((0 : Int) ≤ (ni : Int)) = True := eq_true hin.1
     have hp1 : ((ni : Int) < (d.blocks.length : Int)) = True := eq_true hin.2
     have hp2 : (ni < d.blocks.length) = True := eq_true HNI.out
     clear hin
     have hq3d := (blk_cell (blk_drew HK7.out) 3).trans rfl
     go_upto_region 11 with fail
     refine start_ (n := 10) (S := fun w' => w'.cell? ⟨gb, 3, none⟩ = some (.int .i64 (ni : Int))) (ds := []) #[false, false, false, false, false, false, false, false, false, false] (by kernel_rfl) rfl rfl (hq3) (fun hHeld => ?_)
     refine pure_ (i := 0) (N := some 39) (v := ?_) (a' := ?_) #[true, false, false, false, false, false, false, false, false, false] rfl rfl (by kernel_rfl) (fun _ _ _ h => h) (Or.inl ⟨by rfl, ?_⟩) ?_ ?_
     rotate_left
     ·intro w'
      go_simp
      with_reducible rfl
     rotate_left
     ·simp only [Act.put, List.setIfInBounds_toArray, List.set_cons_zero, List.set_cons_succ, i64_w, i32_w]
      rfl
     refine take_ (i := 1) (N := some 40) (v := ?_) (a' := ?_) #[true, true, false, false, false, false, false, false, false, false] rfl rfl (by kernel_rfl) (fun _ _ _ h => h) (Or.inl ⟨by rfl, ?_⟩) hHeld ?_ ?_
     rotate_left
     ·intro w' s0
      go_simp
      with_reducible rfl
     rotate_left
     ·simp only [Act.put, List.setIfInBounds_toArray, List.set_cons_zero, List.set_cons_succ, i64_w, i32_w]
      rfl
     refine pure_ (i := 2) (N := some 41) (v := ?_) (a' := ?_) #[true, true, true, false, false, false, false, false, false, false] rfl rfl (by kernel_rfl) (fun _ _ _ h => h) (Or.inl ⟨by rfl, ?_⟩) ?_ ?_
     rotate_left
     ·intro w'
      go_simp
      with_reducible rfl
     rotate_left
     ·simp only [Act.put, List.setIfInBounds_toArray, List.set_cons_zero, List.set_cons_succ, i64_w, i32_w]
      rfl
     refine pure_ (i := 3) (N := some 42) (v := ?_) (a' := ?_) #[true, true, true, true, false, false, false, false, false, false] rfl rfl (by kernel_rfl) (fun _ _ _ h => h) (Or.inl ⟨by rfl, ?_⟩) ?_ ?_
     rotate_left
     ·intro w'
      go_simp
      with_reducible rfl
     rotate_left
     ·simp only [Act.put, List.setIfInBounds_toArray, List.set_cons_zero, List.set_cons_succ, i64_w, i32_w]
      rfl
     refine pure_ (i := 4) (N := some 43) (v := ?_) (a' := ?_) #[true, true, true, true, true, false, false, false, false, false] rfl rfl (by kernel_rfl) (fun _ _ _ h => h) (Or.inl ⟨by rfl, ?_⟩) ?_ ?_
     rotate_left
     ·intro w'
      go_simp
      with_reducible rfl
     rotate_left
     ·simp only [Act.put, List.setIfInBounds_toArray, List.set_cons_zero, List.set_cons_succ, i64_w, i32_w]
      rfl
     refine pure_ (i := 6) (N := some 45) (v := ?_) (a' := ?_) #[true, true, true, true, true, false, true, false, false, false] rfl rfl (by kernel_rfl) (fun _ _ _ h => h) (Or.inl ⟨by rfl, ?_⟩) ?_ ?_
     rotate_left
     ·intro w'
      go_simp
      with_reducible rfl
     rotate_left
     ·simp only [Act.put, List.setIfInBounds_toArray, List.set_cons_zero, List.set_cons_succ, i64_w, i32_w]
      rfl
     refine take_ (i := 5) (N := some 44) (v := ?_) (a' := ?_) #[true, true, true, true, true, true, true, false, false, false] rfl rfl (by kernel_rfl) (fun _ _ _ h => h) (Or.inl ⟨by rfl, ?_⟩) hHeld ?_ ?_
     rotate_left
     ·intro w' s0
      go_simp
      with_reducible rfl
     rotate_left
     ·simp only [Act.put, List.setIfInBounds_toArray, List.set_cons_zero, List.set_cons_succ, i64_w, i32_w]
      rfl
     refine one_ (i := 7) (N := some 46) #[true, true, true, true, true, true, true, true, false, false] rfl rfl (by kernel_rfl) (by decide) (fun K hK => ?_)
     refine goes_ Tryd.func75 (by kernel_rfl) rfl #[.pointer (some ⟨g, 0, none⟩)] (by rfl) rfl rfl (by simp only [List.map_toArray, List.map_cons, List.map_nil]; rfl) ?_
     with_reducible refine (NumCh_calls (HN7.out.more (below_drew (Below.refl _ _)))).mono ?_
     rintro e w4 ⟨rfl, hw⟩
     rw [hw]
     clear hw
     refine ⟨_, rfl, ?_⟩
     refine hK.out _ _ (hq3d) (fun hHeld => ?_)
     clear hK K
     refine norm_ (a' := ?_) ?_ ?_
     rotate_left
     ·show Act.put _ (some 46) _ = _
      simp only [Act.put, List.setIfInBounds_toArray, List.set_cons_zero, List.set_cons_succ, i64_w, i32_w]
      rfl
     refine pure_ (i := 8) (N := some 47) (v := ?_) (a' := ?_) #[true, true, true, true, true, true, true, true, true, false] rfl rfl (by kernel_rfl) (fun _ _ _ h => h) (Or.inl ⟨by rfl, ?_⟩) ?_ ?_
     rotate_left
     ·intro w'
      go_simp
      with_reducible rfl
     rotate_left
     ·simp only [Act.put, List.setIfInBounds_toArray, List.set_cons_zero, List.set_cons_succ, i64_w, i32_w]
      rfl
     refine pure_ (i := 9) (N := some 48) (v := ?_) (a' := ?_) #[true, true, true, true, true, true, true, true, true, true] rfl rfl (by kernel_rfl) (fun _ _ _ h => h) (Or.inl ⟨by rfl, ?_⟩) ?_ ?_
     rotate_left
     ·intro w'
      go_simp
      with_reducible rfl
     rotate_left
     ·simp only [Act.put, List.setIfInBounds_toArray, List.set_cons_zero, List.set_cons_succ, i64_w, i32_w]
      rfl
     refine done_ (by kernel_rfl) ?_

     go_wp2_with (go_at_call 76; refine (RmBlk_calls (HN7.out.more (below_drew (Below.refl _ _))) ni HNI.out HFW.out).mono ?_; rintro e w4 ⟨rfl, e2, e3, hN⟩; have HN3 := Aside0.mk hN; clear hN)
     go_roundg (gk - 1)
     case measure => have := HJ2.out; omega
     case rel =>
      refine ⟨i1, rfl, ⟨j + 1, HI1.out, by have := HJ2.out; omega, ?_⟩⟩
      have h1 := HST.out
      rw [HE2.out, Int.toNat_natCast] at h1
      rw [h1]
      exact ⟨_, _, _, _, HN3.out⟩
    by_cases h00 : 0 ≤ ix
    ·
     have HE2 := Aside0.mk (edit_2n d xs s ix hin)
     have hp0 : ((0 : Int) ≤ ix) = True := eq_true h00
     have hp1 : (ix < (d.blocks.length : Int)) = False := eq_false (fun h => hin ⟨h00, h⟩)
     clear hin h00
     have hq3d := (blk_cell (blk_drew HK7.out) 3).trans rfl
     go_upto_region 11 with fail
     refine start_ (n := 10) (S := fun w' => w'.cell? ⟨gb, 3, none⟩ = some (.int .i64 ix)) (ds := []) #[false, false, false, false, false, false, false, false, false, false] (by kernel_rfl) rfl rfl (hq3) (fun hHeld => ?_)
     refine pure_ (i := 0) (N := some 39) (v := ?_) (a' := ?_) #[true, false, false, false, false, false, false, false, false, false] rfl rfl (by kernel_rfl) (fun _ _ _ h => h) (Or.inl ⟨by rfl, ?_⟩) ?_ ?_
     rotate_left
     ·intro w'
      go_simp
      with_reducible rfl
     rotate_left
     ·simp only [Act.put, List.setIfInBounds_toArray, List.set_cons_zero, List.set_cons_succ, i64_w, i32_w]
      rfl
     refine take_ (i := 1) (N := some 40) (v := ?_) (a' := ?_) #[true, true, false, false, false, false, false, false, false, false] rfl rfl (by kernel_rfl) (fun _ _ _ h => h) (Or.inl ⟨by rfl, ?_⟩) hHeld ?_ ?_
     rotate_left
     ·intro w' s0
      go_simp
      with_reducible rfl
     rotate_left
     ·simp only [Act.put, List.setIfInBounds_toArray, List.set_cons_zero, List.set_cons_succ, i64_w, i32_w]
      rfl
     refine pure_ (i := 2) (N := some 41) (v := ?_) (a' := ?_) #[true, true, true, false, false, false, false, false, false, false] rfl rfl (by kernel_rfl) (fun _ _ _ h => h) (Or.inl ⟨by rfl, ?_⟩) ?_ ?_
     rotate_left
     ·intro w'
      go_simp
      with_reducible rfl
     rotate_left
     ·simp only [Act.put, List.setIfInBounds_toArray, List.set_cons_zero, List.set_cons_succ, i64_w, i32_w]
      rfl
     refine pure_ (i := 3) (N := some 42) (v := ?_) (a' := ?_) #[true, true, true, true, false, false, false, false, false, false] rfl rfl (by kernel_rfl) (fun _ _ _ h => h) (Or.inl ⟨by rfl, ?_⟩) ?_ ?_
     rotate_left
     ·intro w'
      go_simp
      with_reducible rfl
     rotate_left
     ·simp only [Act.put, List.setIfInBounds_toArray, List.set_cons_zero, List.set_cons_succ, i64_w, i32_w]
      rfl
     refine pure_ (i := 4) (N := some 43) (v := ?_) (a' := ?_) #[true, true, true, true, true, false, false, false, false, false] rfl rfl (by kernel_rfl) (fun _ _ _ h => h) (Or.inl ⟨by rfl, ?_⟩) ?_ ?_
     rotate_left
     ·intro w'
      go_simp
      with_reducible rfl
     rotate_left
     ·simp only [Act.put, List.setIfInBounds_toArray, List.set_cons_zero, List.set_cons_succ, i64_w, i32_w]
      rfl
     refine pure_ (i := 6) (N := some 45) (v := ?_) (a' := ?_) #[true, true, true, true, true, false, true, false, false, false] rfl rfl (by kernel_rfl) (fun _ _ _ h => h) (Or.inl ⟨by rfl, ?_⟩) ?_ ?_
     rotate_left
     ·intro w'
      go_simp
      with_reducible rfl
     rotate_left
     ·simp only [Act.put, List.setIfInBounds_toArray, List.set_cons_zero, List.set_cons_succ, i64_w, i32_w]
      rfl
     refine take_ (i := 5) (N := some 44) (v := ?_) (a' := ?_) #[true, true, true, true, true, true, true, false, false, false] rfl rfl (by kernel_rfl) (fun _ _ _ h => h) (Or.inl ⟨by rfl, ?_⟩) hHeld ?_ ?_
     rotate_left
     ·intro w' s0
      go_simp
      with_reducible rfl
     rotate_left
     ·simp only [Act.put, List.setIfInBounds_toArray, List.set_cons_zero, List.set_cons_succ, i64_w, i32_w]
      rfl
     refine one_ (i := 7) (N := some 46) #[true, true, true, true, true, true, true, true, false, false] rfl rfl (by kernel_rfl) (by decide) (fun K hK => ?_)
     refine goes_ Tryd.func75 (by kernel_rfl) rfl #[.pointer (some ⟨g, 0, none⟩)] (by rfl) rfl rfl (by simp only [List.map_toArray, List.map_cons, List.map_nil]; rfl) ?_
     with_reducible refine (NumCh_calls (HN7.out.more (below_drew (Below.refl _ _)))).mono ?_
     rintro e w4 ⟨rfl, hw⟩
     rw [hw]
     clear hw
     refine ⟨_, rfl, ?_⟩
     refine hK.out _ _ (hq3d) (fun hHeld => ?_)
     clear hK K
     refine norm_ (a' := ?_) ?_ ?_
     rotate_left
     ·show Act.put _ (some 46) _ = _
      simp only [Act.put, List.setIfInBounds_toArray, List.set_cons_zero, List.set_cons_succ, i64_w, i32_w]
      rfl
     refine pure_ (i := 8) (N := some 47) (v := ?_) (a' := ?_) #[true, true, true, true, true, true, true, true, true, false] rfl rfl (by kernel_rfl) (fun _ _ _ h => h) (Or.inl ⟨by rfl, ?_⟩) ?_ ?_
     rotate_left
     ·intro w'
      go_simp
      with_reducible rfl
     rotate_left
     ·simp only [Act.put, List.setIfInBounds_toArray, List.set_cons_zero, List.set_cons_succ, i64_w, i32_w]
      rfl
     refine pure_ (i := 9) (N := some 48) (v := ?_) (a' := ?_) #[true, true, true, true, true, true, true, true, true, true] rfl rfl (by kernel_rfl) (fun _ _ _ h => h) (Or.inl ⟨by rfl, ?_⟩) ?_ ?_
     rotate_left
     ·intro w'
      go_simp
      with_reducible rfl
     rotate_left
     ·simp only [Act.put, List.setIfInBounds_toArray, List.set_cons_zero, List.set_cons_succ, i64_w, i32_w]
      rfl
     refine done_ (by kernel_rfl) ?_

     go_wp2_with fail
     go_roundg (gk - 1)
     case measure => have := HJ2.out; omega
     case rel =>
      refine ⟨i1, rfl, ⟨j + 1, HI1.out, by have := HJ2.out; omega, ?_⟩⟩
      have h1 := HST.out
      rw [HE2.out] at h1
      rw [h1]
      exact ⟨_, _, _, _, HN7.out.more (below_drew (Below.refl _ _))⟩
    ·
     have HE2 := Aside0.mk (edit_2n d xs s ix hin)
     have hp0 : ((0 : Int) ≤ ix) = False := eq_false h00
     clear hin h00
     have hq3d := (blk_cell (blk_drew HK7.out) 3).trans rfl
     go_upto_region 11 with fail
     refine start_ (n := 10) (S := fun w' => w'.cell? ⟨gb, 3, none⟩ = some (.int .i64 ix)) (ds := []) #[false, false, false, false, false, false, false, false, false, false] (by kernel_rfl) rfl rfl (hq3) (fun hHeld => ?_)
     refine pure_ (i := 0) (N := some 39) (v := ?_) (a' := ?_) #[true, false, false, false, false, false, false, false, false, false] rfl rfl (by kernel_rfl) (fun _ _ _ h => h) (Or.inl ⟨by rfl, ?_⟩) ?_ ?_
     rotate_left
     ·intro w'
      go_simp
      with_reducible rfl
     rotate_left
     ·simp only [Act.put, List.setIfInBounds_toArray, List.set_cons_zero, List.set_cons_succ, i64_w, i32_w]
      rfl
     refine take_ (i := 1) (N := some 40) (v := ?_) (a' := ?_) #[true, true, false, false, false, false, false, false, false, false] rfl rfl (by kernel_rfl) (fun _ _ _ h => h) (Or.inl ⟨by rfl, ?_⟩) hHeld ?_ ?_
     rotate_left
     ·intro w' s0
      go_simp
      with_reducible rfl
     rotate_left
     ·simp only [Act.put, List.setIfInBounds_toArray, List.set_cons_zero, List.set_cons_succ, i64_w, i32_w]
      rfl
     refine pure_ (i := 2) (N := some 41) (v := ?_) (a' := ?_) #[true, true, true, false, false, false, false, false, false, false] rfl rfl (by kernel_rfl) (fun _ _ _ h => h) (Or.inl ⟨by rfl, ?_⟩) ?_ ?_
     rotate_left
     ·intro w'
      go_simp
      with_reducible rfl
     rotate_left
     ·simp only [Act.put, List.setIfInBounds_toArray, List.set_cons_zero, List.set_cons_succ, i64_w, i32_w]
      rfl
     refine pure_ (i := 3) (N := some 42) (v := ?_) (a' := ?_) #[true, true, true, true, false, false, false, false, false, false] rfl rfl (by kernel_rfl) (fun _ _ _ h => h) (Or.inl ⟨by rfl, ?_⟩) ?_ ?_
     rotate_left
     ·intro w'
      go_simp
      with_reducible rfl
     rotate_left
     ·simp only [Act.put, List.setIfInBounds_toArray, List.set_cons_zero, List.set_cons_succ, i64_w, i32_w]
      rfl
     refine pure_ (i := 4) (N := some 43) (v := undef) (a' := ?_) #[true, true, true, true, true, false, false, false, false, false] rfl rfl (by kernel_rfl) (fun _ _ _ h => h) (Or.inr ⟨by rfl, rfl⟩) ?_ ?_
     rotate_left
     ·simp only [Act.put, List.setIfInBounds_toArray, List.set_cons_zero, List.set_cons_succ, i64_w, i32_w]
      rfl
     refine pure_ (i := 5) (N := some 44) (v := undef) (a' := ?_) #[true, true, true, true, true, true, false, false, false, false] rfl rfl (by kernel_rfl) (fun _ _ _ h => h) (Or.inr ⟨by rfl, rfl⟩) ?_ ?_
     rotate_left
     ·simp only [Act.put, List.setIfInBounds_toArray, List.set_cons_zero, List.set_cons_succ, i64_w, i32_w]
      rfl
     refine pure_ (i := 6) (N := some 45) (v := undef) (a' := ?_) #[true, true, true, true, true, true, true, false, false, false] rfl rfl (by kernel_rfl) (fun _ _ _ h => h) (Or.inr ⟨by rfl, rfl⟩) ?_ ?_
     rotate_left
     ·simp only [Act.put, List.setIfInBounds_toArray, List.set_cons_zero, List.set_cons_succ, i64_w, i32_w]
      rfl
     refine pure_ (i := 7) (N := some 46) (v := undef) (a' := ?_) #[true, true, true, true, true, true, true, true, false, false] rfl rfl (by kernel_rfl) (fun _ _ _ h => h) (Or.inr ⟨by rfl, rfl⟩) ?_ ?_
     rotate_left
     ·simp only [Act.put, List.setIfInBounds_toArray, List.set_cons_zero, List.set_cons_succ, i64_w, i32_w]
      rfl
     refine pure_ (i := 8) (N := some 47) (v := undef) (a' := ?_) #[true, true, true, true, true, true, true, true, true, false] rfl rfl (by kernel_rfl) (fun _ _ _ h => h) (Or.inr ⟨by rfl, rfl⟩) ?_ ?_
     rotate_left
     ·simp only [Act.put, List.setIfInBounds_toArray, List.set_cons_zero, List.set_cons_succ, i64_w, i32_w]
      rfl
     refine pure_ (i := 9) (N := some 48) (v := ?_) (a' := ?_) #[true, true, true, true, true, true, true, true, true, true] rfl rfl (by kernel_rfl) (fun _ _ _ h => h) (Or.inl ⟨by rfl, ?_⟩) ?_ ?_
     rotate_left
     ·intro w'
      go_simp
      with_reducible rfl
     rotate_left
     ·simp only [Act.put, List.setIfInBounds_toArray, List.set_cons_zero, List.set_cons_succ, i64_w, i32_w]
      rfl
     refine done_ (by kernel_rfl) ?_

     go_wp2_with fail
     go_roundg (gk - 1)
     case measure => have := HJ2.out; omega
     case rel =>
      refine ⟨i1, rfl, ⟨j + 1, HI1.out, by have := HJ2.out; omega, ?_⟩⟩
      have h1 := HST.out
      rw [HE2.out] at h1
      rw [h1]
      exact ⟨_, _, _, _, HN7.out.more (below_drew (Below.refl _ _))⟩
   by_cases h3 : a = 3
   ·subst h3
    clear h0 h1 h2
    go_wp2_with (first
     | (go_at_call 77; refine (RmAll_calls HN7.out HEI.out.fit).mono ?_; rintro e w4 ⟨rfl, e2, e3, hN⟩; have HN3 := Aside0.mk hN; clear hN))
    go_roundg (gk - 1)
    case measure => have := HJ2.out; omega
    case rel =>
     refine ⟨i1, rfl, ⟨j + 1, HI1.out, by have := HJ2.out; omega, ?_⟩⟩
     have h1 := HST.out
     rw [edit_3] at h1
     rw [h1]
     exact ⟨_, _, _, _, HN3.out⟩
   by_cases h4 : a = 4
   ·subst h4
    clear h0 h1 h2 h3
    obtain ⟨y, hy⟩ : ∃ y : Int, wrap64 s = y := ⟨_, rfl⟩
    have hyw : IntKind.i64.wrap s = y := (i64_w _).trans hy
    have HY := Aside0.mk hy
    clear hy
    go_wp2_with (first
     | (go_at_call 78; refine (UpdSize_calls HN7.out y).mono ?_; rintro e w4 ⟨rfl, ⟨e2, hN⟩, hKp⟩; have HN3 := Aside0.mk hN; clear hN hKp))
    go_roundg (gk - 1)
    case measure => have := HJ2.out; omega
    case rel =>
     refine ⟨i1, rfl, ⟨j + 1, HI1.out, by have := HJ2.out; omega, ?_⟩⟩
     have h1 := HST.out
     rw [edit_4, HY.out] at h1
     rw [h1]
     exact ⟨_, _, _, _, HN3.out⟩
   ·
    have hn0 : (a == 0) = false := beq_false_of_ne h0
    have hn1 : (a == 1) = false := beq_false_of_ne h1
    have hn2 : (a == 2) = false := beq_false_of_ne h2
    have hn3 : (a == 3) = false := beq_false_of_ne h3
    have hn4 : (a == 4) = false := beq_false_of_ne h4
    have HNE := Aside0.mk (edit_n d a xs s ix h0 h1 h2 h3 h4)
    clear h0 h1 h2 h3 h4
    go_wp2_with fail
    go_roundg (gk - 1)
    case measure => have := HJ2.out; omega
    case rel =>
     refine ⟨i1, rfl, ⟨j + 1, HI1.out, by have := HJ2.out; omega, ?_⟩⟩
     have h1 := HST.out
     rw [HNE.out] at h1
     rw [h1]
     exact ⟨_, _, _, _, HN7.out⟩
  ·have q0 : decide (i < (l.length : Int)) = false := decide_eq_false hi
   have HNE : Aside0 (∃ p c1 c2 c3, Nd wz wr g D p c1 c2 c3) := ⟨by obtain ⟨j, hij, hjk, hN⟩ := HJ.out; have : j = l.length := (by omega); rw [this, List.take_length, ← HDD.out] at hN; exact hN⟩
   clear hi HJ
   obtain ⟨p9, d1, d2, d3, hN⟩ := HNE.out
   have HN2 := Aside0.mk hN
   have HFT := Aside0.mk HED.out.fit
   have hcl : bytes_Clone.f (marsh D) = some (marsh D) := by unfold bytes_Clone.f; rw [if_pos (by have := (marsh_len HFT.out).2; omega)]
   have HCL := Aside0.mk hcl
   have HZW : Aside0 (wz.heap[w.heap.size]? = some (.cells #[.int .i64 0, .slice none 0 0, .int .u64 0, .slice none 0 0, .int .u64 0, .int .u64 0] 56 (0, 0))) := ⟨by rw [HWZ.out]; exact blk_new w _⟩
   have HBW : Aside0 (Below w.heap.size w wz) := ⟨by rw [HWZ.out]; exact below_alloc (Below.refl _ _) _⟩
   have HSZ : Aside0 (w.heap.size < wz.heap.size) := ⟨by rw [HWZ.out, size_alloc]; omega⟩
   clear hN HNE hcl
   go_wp2_with (first
    | (go_at_call 70; refine (GetBytes_calls HN2.out HFT.out HED.out.size).mono ?_; rintro e w5 ⟨gb, cap, rfl, hR, hB⟩; have HR5 := Aside0.mk hR; have HB5 := Aside0.mk hB; have HN5 := Aside0.mk (HN2.out.more hB); clear hR hB)
    | (go_at_call 72; refine (plainFS_calls HN5.out.rd HFT.out).mono ?_; rintro e w6 ⟨v1, v3, rfl, hR1, hR3, hB⟩; obtain ⟨A1, k1, rfl⟩ := Kd.R_slice hR1; obtain ⟨A3, k3, rfl⟩ := Kd.R_slice hR3; have HR61 := Aside0.mk hR1; have HR63 := Aside0.mk hR3; have HB6 := Aside0.mk hB; have HN6 := Aside0.mk (HN5.out.more hB); have HR6 := Aside0.mk (Kd.R_below HR5.out hB); clear hR1 hR3 hB)
    | (go_at_call 75; refine (NumCh_calls HN6.out).mono ?_; rintro e w7 ⟨rfl, hw⟩; rw [hw]; clear hw)
    | (go_at_call 51; refine (bytes_Clone.calls (some ⟨gb, 0, none⟩) cap (marsh D) (marsh D) _ (Kd.R_reads' HR6.out).2.2 (Kd.R_reads' HR6.out).2.1 HCL.out).mono ?_; rintro e w8 ⟨v8, rfl, hR, hB⟩; have HR8 := Aside0.mk hR; have HB8 := Aside0.mk hB; have HN8 := Aside0.mk (HN6.out.more hB); have hz := (HN8.out.below.block _ HSZ.out).trans HZW.out; have HG8 := Aside0.mk hz; have hk0 := (blk_cell hz 0).trans rfl; have hk1 := (blk_cell hz 1).trans rfl; have hk2 := (blk_cell hz 2).trans rfl; have hk3 := (blk_cell hz 3).trans rfl; have hk4 := (blk_cell hz 4).trans rfl; have hk5 := (blk_cell hz 5).trans rfl; have hkf := blk_frozen hz; clear hR hB hz))
   have hb5 := set6_blk HG8.out (.int .i64 (D.ty : Int)) (.slice A1 (D.data.getD []).length k1) (.int .u64 (fsz D)) (.slice A3 D.blocks.length k3) (.int .u64 0) (.int .u64 0)
   have hz8 := HN8.out.below.size
   have hz6 := HN6.out.below.size
   have hz5 := HN5.out.below.size
   have hzz := HSZ.out
   refine bodyPost_ret (results_ctt rfl _ _ w.heap.size 56 #[.int .i64 (D.ty : Int), .slice A1 (D.data.getD []).length k1, .int .u64 (fsz D), .slice A3 D.blocks.length k3, .int .u64 0, .int .u64 0] (0, 0) _ rfl hb5 Tryd.underlying56 rfl (by kernel_rfl)) rfl ?_
   exact ⟨_, _, _, rfl, R_lowI (set6_row (Kd.R_below HR61.out HB8.out) (by omega) _ _ _ _ _ _) (by omega), R_lowI (set6_row (Kd.R_below HR63.out HB8.out) (by omega) _ _ _ _ _ _) (by omega), R_lowI (set6_row HR8.out (by omega) _ _ _ _ _ _) (by omega), set6_below (below_step HBW.out HN8.out.below) (Nat.le_refl _) _ _ _ _ _ _⟩

end Go.Proofs.YtnhnlodmkbiiiaaDoor.HandFields
