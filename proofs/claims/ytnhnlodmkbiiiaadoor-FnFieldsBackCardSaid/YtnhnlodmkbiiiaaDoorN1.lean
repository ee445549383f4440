/- The bytes of a node of a file with data and sizes of parts are those of its message. -/
import Derived.Test.YtnhnlodmkbiiiaaDoorN0
namespace Go.Proofs.YtnhnlodmkbiiiaaDoor.HandFields
open Go Go.RowKit Go.Proofs.YtnhnlodmkbiiiaaDoorL Go.Proofs.YtnhnlodmkbiiiaaDoorW.PrintWords Go.Proofs.YtnhnlodmkbiiiaaDoorW.PrintLast Go.Proofs.YtnhnlodmkbiiiaaDoorW.PrintMore Go.Proofs.YtnhnlodmkbiiiaaDoor.PFieldsBase
attribute [local go_sem] max2_int min2_int max_two min_two max_three min_three max_four min_four
set_option linter.unusedVariables false
set_option linter.unusedSimpArgs false
def fsbF (k : Nat) (has : Bool) (xs l : List Int) : List Int := marsh (fsDat k has xs l)
/-- A row grown in a block that was made just now. -/
theorem grown_new {w1 wa : World} {o : Obj} {v : Value} (hg : (w1.alloc o).grownBy wa v.ownBlock) (hv : v.ownBlock = some w1.heap.size) (k : Nat) (hk : k < w1.heap.size) : wa.heap[k]? = w1.heap[k]? :=
  (hg.block k (by rw [size_alloc]; omega) (by rw [hv]; intro e; injection e with e; omega)).trans ((below_alloc (Below.refl _ w1) o).block k hk)
theorem rd_mem {l : List Int} {j : Nat} (hj : j < l.length) : rd l (j : Int) ∈ l := by
  unfold rd
  rw [Int.toNat_natCast, List.getD_eq_getElem?_getD, List.getElem?_eq_getElem hj]
  exact List.getElem_mem hj
set_option maxHeartbeats 16000000 in
theorem FSBytes_true (w : World) (k : Nat) (A2 : Option Addr) (c2 : Nat) (xs : List Int) (A3 : Option Addr) (c3 : Nat) (l : List Int) (hr2 : Kd.C (Kd.int .u8) w A2 xs.length xs) (hr3 : Kd.C (Kd.int .u64) w A3 l.length l) (hk : k < 1000) (hx : xs.length ≤ 1000000) (hl : l.length ≤ 1000000) (hb : ∀ x ∈ l, 0 ≤ x ∧ x < 18446744073709551616) :
    Calls Tryd.prog 30 #[.int .i64 (k : Int), .bool true, .slice A2 xs.length c2, .slice A3 l.length c3] w fun e w' => ∃ v0_ : Value, e = .returned (.tuple #[v0_, .bool true]) ∧ Kd.R (Kd.int .u8) 5 w' w.heap.size (fun _ => True) v0_ (fsbF k true xs l) ∧ Below w.heap.size w w' := by
  have HR2 := Aside0.mk hr2
  have HR3 := Aside0.mk hr3
  have HX := Aside0.mk hx
  have HL := Aside0.mk hl
  have HK := Aside0.mk hk
  have HBD := Aside0.mk hb
  have hkw : IntKind.i32.wrap (k : Int) = (k : Int) := words_i32 _ (by omega) (by omega)
  have hkw2 : wrap32 (k : Int) = (k : Int) := (i32_w _).symm.trans hkw
  obtain ⟨D, hD⟩ : ∃ D, D = fsDat k true xs l := ⟨_, rfl⟩
  have HDD := Aside0.mk hD
  have hds : D.size ≠ none := by rw [hD, fsDat_true]; simp
  have HDS := Aside0.mk hds
  unfold fsbF
  have HFT := Aside0.mk (fsDat_fit (has := true) hk hx hl hb)
  rw [← hD] at HFT ⊢
  clear hr2 hr3 hk hl hb hx hD hds
  go_enter Tryd.func30, Tryd.ntmps30
  go_wp2_with (first | (go_at_call 67; refine (NewFS_calls w w k (Below.refl _ _)).mono ?_; rintro e w1 ⟨g, p, c2', rfl, hN⟩; have HN := Aside0.mk hN; clear hN) | (at_builtin; refine Kd.R_append_rows (Kd.int .u8) (Rr := fun x cs => cs = [Value.int .u8 x]) (w0 := w) w.heap.size rfl (.tmp 20) (.tmp 21) 22 5 (.int .u8 0) 1 rfl Tryd.underlying22 infoE5 rfl (by decide) (by decide) (.slice (some ⟨w1.heap.size, 0, none⟩) ([] : List Int).length 0) [] xs A2 xs.length c2 (fun k => k ≠ g) (fun _ => False) rfl rfl (Kd.R_of_own (xs := ([] : List Int)) (World.ownsRow_made w1 #[] 0 HN.out.below.size (Nat.zero_le _) rfl) (fun k hk => by have h1 : w1.heap.size = k := (by simpa [Value.ownBlock] using hk); have := blk_lt HN.out.blk; omega)) (Kd.C_alloc (Kd.C_below HR2.out HN.out.below) _) (fun x cs hx => hx) (fun _ hk => hk.elim) (fun k hk => by have := blk_lt HN.out.blk; simp at hk; omega) (below_alloc HN.out.below _) (below_size (below_alloc HN.out.below _)) (by have := HX.out; simp only [List.length_nil]; omega) ?_; intro v1 wa hR hb hg hat; rw [List.nil_append] at hR; obtain ⟨A1, c1, rfl, hn1, _⟩ := made_some hR (by simp [Value.ownBlock]) (hat.imp_right (fun ⟨b, h1, h2⟩ => ⟨b, h1, Nat.le_trans (Nat.le_trans HN.out.below.size (by simp)) h2⟩)); have HRa := Aside0.mk hR; have HNa := Aside0.mk (HN.out.moreK (W' := wa) (grown_new hg rfl) hb); clear hR hb hg hat hn1) | (go_at_call 68; refine (SetData_calls HNa.out A1 xs.length c1 xs rfl HRa.out).mono ?_; rintro e w2 ⟨rfl, c2'', z, hz, hN⟩; have HNS : Aside0 (NS w w2 g k (some xs) (newSz (some 0) (xs.length : Int)) l 0) := ⟨by have ez : z = (xs.length : Int) := (by have := HX.out; rw [hz]; simp; unfold wrap64; omega); rw [ez] at hN; exact NS.start hN⟩; clear hN hz))
  go_loopg [26] l.length (fun kq v26 w' => ∃ i : Int, v26 = .int .i64 i ∧ Aside0 (∃ j : Nat, i = (j : Int) ∧ j + kq = l.length ∧ NS w w' g k (some xs) (newSz (some 0) (xs.length : Int)) l j))
  case atStart => exact ⟨0, rfl, ⟨0, rfl, by omega, HNS.out⟩⟩
  case round =>
    obtain ⟨i, rfl, HJ⟩ := hrel
    by_cases hi : i < (l.length : Int)
    · have q0 : decide (i < (l.length : Int)) = true := decide_eq_true hi
      obtain ⟨j, hij, hjk, p9, d1, d2, d3, hN⟩ := HJ.out
      have hjl : j < l.length := by omega
      obtain ⟨ad, eA, hx⟩ := Kd.at_int (Kd.C_below HR3.out hN.below) i (by omega) hi
      subst eA
      obtain ⟨x, hxx⟩ : ∃ x, x = rd l i := ⟨_, rfl⟩
      rw [← hxx] at hx
      have HXX := Aside0.mk (show x = rd l (j : Int) by rw [hxx, hij])
      have hxm : x ∈ l := by rw [HXX.out]; exact rd_mem hjl
      have HXB := Aside0.mk (HBD.out x hxm)
      have hi0 : ((0 : Int) ≤ i) = True := eq_true (by omega)
      have hi1 : (i < (l.length : Int)) = True := eq_true hi
      obtain ⟨i1, hi1e⟩ : ∃ y : Int, wrap64 (i + 1) = y := ⟨_, rfl⟩
      have hi1w : IntKind.i64.wrap (i + 1) = i1 := (i64_w _).trans hi1e
      have HI1 := Aside0.mk (show i1 = ((j + 1 : Nat) : Int) by have := HL.out; rw [← hi1e]; unfold wrap64; omega)
      have HJ2 := Aside0.mk (show j + gk = l.length ∧ j < l.length from ⟨hjk, hjl⟩)
      have HN2 := Aside0.mk hN
      clear hxx hxm hij hjk hjl hi hN HJ
      go_wp2_with (go_at_call 69; refine (AddBlk_calls HN2.out x HXB.out (by show (l.take j).length ≤ _; have := HL.out; rw [List.length_take]; omega)).mono ?_; rintro e w4 ⟨rfl, e2, e3, hN⟩; have HN3 := Aside0.mk hN; clear hN)
      go_roundg (gk - 1)
      case measure => have := HJ2.out; omega
      case rel =>
        refine ⟨i1, rfl, ⟨j + 1, HI1.out, by have := HJ2.out; omega, ?_⟩⟩
        have h1 := HN3.out
        rw [HXX.out] at h1
        exact NS.next HJ2.out.2 h1
    · have q0 : decide (i < (l.length : Int)) = false := decide_eq_false hi
      have HNE : Aside0 (NS w wr g k (some xs) (newSz (some 0) (xs.length : Int)) l l.length) := ⟨by obtain ⟨j, hij, hjk, hN⟩ := HJ.out; have : j = l.length := (by omega); rw [← this]; exact hN⟩
      clear hi HJ
      obtain ⟨p9, d1, d2, d3, hN⟩ := HNE.out
      rw [List.take_length, ← fsDat_true, ← HDD.out] at hN
      have HN2 := Aside0.mk hN
      have hcl : bytes_Clone.f (marsh D) = some (marsh D) := by unfold bytes_Clone.f; rw [if_pos (by have := (marsh_len HFT.out).2; omega)]
      have HCL := Aside0.mk hcl
      clear hN HNE hcl
      go_wp2_with (go_at_call 70; refine (GetBytes_calls HN2.out HFT.out HDS.out).mono ?_; rintro e w5 ⟨gb, cap, rfl, hR, hB⟩; have HR5 := Aside0.mk (Kd.R_reads' hR); have HB5 := Aside0.mk (below_step HN2.out.below hB); clear hR hB)
      go_region_with (go_at_call 51; refine (bytes_Clone.calls (some ⟨gb, 0, none⟩) cap (marsh D) (marsh D) _ (Kd.C_drew HR5.out.2.2) HR5.out.2.1 HCL.out).mono ?_; rintro e w6 ⟨v6, rfl, hR, hB⟩; have HR6 := Aside0.mk hR; have HB6 := Aside0.mk hB; clear hR hB)
      all_goals
        go_wp2
        go_ret2
        exact ⟨_, rfl, R_any HR6.out (below_size (below_drew HB5.out)), below_step (below_drew HB5.out) HB6.out⟩
set_option maxHeartbeats 16000000 in
theorem FSBytes_false (w : World) (k : Nat) (A2 : Option Addr) (c2 : Nat) (xs : List Int) (A3 : Option Addr) (c3 : Nat) (l : List Int) (hr2 : Kd.C (Kd.int .u8) w A2 xs.length xs) (hr3 : Kd.C (Kd.int .u64) w A3 l.length l) (hk : k < 1000) (hx : xs.length ≤ 1000000) (hl : l.length ≤ 1000000) (hb : ∀ x ∈ l, 0 ≤ x ∧ x < 18446744073709551616) :
    Calls Tryd.prog 30 #[.int .i64 (k : Int), .bool false, .slice A2 xs.length c2, .slice A3 l.length c3] w fun e w' => ∃ v0_ : Value, e = .returned (.tuple #[v0_, .bool true]) ∧ Kd.R (Kd.int .u8) 5 w' w.heap.size (fun _ => True) v0_ (fsbF k false xs l) ∧ Below w.heap.size w w' := by
  have HR2 := Aside0.mk hr2
  have HR3 := Aside0.mk hr3
  have HX := Aside0.mk hx
  have HL := Aside0.mk hl
  have HK := Aside0.mk hk
  have HBD := Aside0.mk hb
  have hkw : IntKind.i32.wrap (k : Int) = (k : Int) := words_i32 _ (by omega) (by omega)
  have hkw2 : wrap32 (k : Int) = (k : Int) := (i32_w _).symm.trans hkw
  obtain ⟨D, hD⟩ : ∃ D, D = fsDat k false xs l := ⟨_, rfl⟩
  have HDD := Aside0.mk hD
  have hds : D.size ≠ none := by rw [hD, fsDat_false]; simp
  have HDS := Aside0.mk hds
  unfold fsbF
  have HFT := Aside0.mk (fsDat_fit (has := false) hk hx hl hb)
  rw [← hD] at HFT ⊢
  clear hr2 hr3 hk hl hb hx hD hds
  go_enter Tryd.func30, Tryd.ntmps30
  go_wp2_with (first | (go_at_call 67; refine (NewFS_calls w w k (Below.refl _ _)).mono ?_; rintro e w1 ⟨g, p, c2', rfl, hN⟩; have HN := Aside0.mk hN; clear hN))
  have HNS : Aside0 (NS w w1 g k none 0 l 0) := ⟨NS.start HN.out⟩
  go_loopg [26] l.length (fun kq v26 w' => ∃ i : Int, v26 = .int .i64 i ∧ Aside0 (∃ j : Nat, i = (j : Int) ∧ j + kq = l.length ∧ NS w w' g k none 0 l j))
  case atStart => exact ⟨0, rfl, ⟨0, rfl, by omega, HNS.out⟩⟩
  case round =>
    obtain ⟨i, rfl, HJ⟩ := hrel
    by_cases hi : i < (l.length : Int)
    · have q0 : decide (i < (l.length : Int)) = true := decide_eq_true hi
      obtain ⟨j, hij, hjk, p9, d1, d2, d3, hN⟩ := HJ.out
      have hjl : j < l.length := by omega
      obtain ⟨ad, eA, hx⟩ := Kd.at_int (Kd.C_below HR3.out hN.below) i (by omega) hi
      subst eA
      obtain ⟨x, hxx⟩ : ∃ x, x = rd l i := ⟨_, rfl⟩
      rw [← hxx] at hx
      have HXX := Aside0.mk (show x = rd l (j : Int) by rw [hxx, hij])
      have hxm : x ∈ l := by rw [HXX.out]; exact rd_mem hjl
      have HXB := Aside0.mk (HBD.out x hxm)
      have hi0 : ((0 : Int) ≤ i) = True := eq_true (by omega)
      have hi1 : (i < (l.length : Int)) = True := eq_true hi
      obtain ⟨i1, hi1e⟩ : ∃ y : Int, wrap64 (i + 1) = y := ⟨_, rfl⟩
      have hi1w : IntKind.i64.wrap (i + 1) = i1 := (i64_w _).trans hi1e
      have HI1 := Aside0.mk (show i1 = ((j + 1 : Nat) : Int) by have := HL.out; rw [← hi1e]; unfold wrap64; omega)
      have HJ2 := Aside0.mk (show j + gk = l.length ∧ j < l.length from ⟨hjk, hjl⟩)
      have HN2 := Aside0.mk hN
      clear hxx hxm hij hjk hjl hi hN HJ
      go_wp2_with (go_at_call 69; refine (AddBlk_calls HN2.out x HXB.out (by show (l.take j).length ≤ _; have := HL.out; rw [List.length_take]; omega)).mono ?_; rintro e w4 ⟨rfl, e2, e3, hN⟩; have HN3 := Aside0.mk hN; clear hN)
      go_roundg (gk - 1)
      case measure => have := HJ2.out; omega
      case rel =>
        refine ⟨i1, rfl, ⟨j + 1, HI1.out, by have := HJ2.out; omega, ?_⟩⟩
        have h1 := HN3.out
        rw [HXX.out] at h1
        exact NS.next HJ2.out.2 h1
    · have q0 : decide (i < (l.length : Int)) = false := decide_eq_false hi
      have HNE : Aside0 (NS w wr g k none 0 l l.length) := ⟨by obtain ⟨j, hij, hjk, hN⟩ := HJ.out; have : j = l.length := (by omega); rw [← this]; exact hN⟩
      clear hi HJ
      obtain ⟨p9, d1, d2, d3, hN⟩ := HNE.out
      rw [List.take_length, ← fsDat_false, ← HDD.out] at hN
      have HN2 := Aside0.mk hN
      have hcl : bytes_Clone.f (marsh D) = some (marsh D) := by unfold bytes_Clone.f; rw [if_pos (by have := (marsh_len HFT.out).2; omega)]
      have HCL := Aside0.mk hcl
      clear hN HNE hcl
      go_wp2_with (go_at_call 70; refine (GetBytes_calls HN2.out HFT.out HDS.out).mono ?_; rintro e w5 ⟨gb, cap, rfl, hR, hB⟩; have HR5 := Aside0.mk (Kd.R_reads' hR); have HB5 := Aside0.mk (below_step HN2.out.below hB); clear hR hB)
      go_region_with (go_at_call 51; refine (bytes_Clone.calls (some ⟨gb, 0, none⟩) cap (marsh D) (marsh D) _ (Kd.C_drew HR5.out.2.2) HR5.out.2.1 HCL.out).mono ?_; rintro e w6 ⟨v6, rfl, hR, hB⟩; have HR6 := Aside0.mk hR; have HB6 := Aside0.mk hB; clear hR hB)
      all_goals
        go_wp2
        go_ret2
        exact ⟨_, rfl, R_any HR6.out (below_size (below_drew HB5.out)), below_step (below_drew HB5.out) HB6.out⟩
end Go.Proofs.YtnhnlodmkbiiiaaDoor.HandFields
