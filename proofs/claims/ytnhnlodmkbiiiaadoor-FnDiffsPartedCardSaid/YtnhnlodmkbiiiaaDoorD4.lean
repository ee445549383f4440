/- slices.Concat at changes and at pointers. -/
import Derived.Test.YtnhnlodmkbiiiaaDoorD3
namespace Go.Proofs.YtnhnlodmkbiiiaaDoor.HandDif
open Go Go.RowKit Go.Proofs.YtnhnlodmkbiiiaaDoorL Go.Proofs.YtnhnlodmkbiiiaaDoorW.PrintWords Go.Proofs.YtnhnlodmkbiiiaaDoorW.PrintLast Go.Proofs.YtnhnlodmkbiiiaaDoorW.PrintMore Go.Proofs.YtnhnlodmkbiiiaaDoor.PDif
attribute [local go_sem] max2_int min2_int max_two min_two max_three min_three max_four min_four
set_option linter.unusedVariables false
set_option linter.unusedSimpArgs false
set_option maxHeartbeats 16000000 in
set_option maxRecDepth 100000 in
theorem concatD_calls (w : World) (g : Nat) (A1 A2 : Option Addr) (c1 c2 : Nat) (l1 l2 : List S78) (hg : w.heap[g]? = some (.cells #[.slice A1 l1.length c1, .slice A2 l2.length c2] 71 (0, 0))) (h1 : Kd.F k78 w (fun k => k < w.heap.size) A1 l1.length l1) (h2 : Kd.F k78 w (fun k => k < w.heap.size) A2 l2.length l2) (hl1 : l1.length ≤ 10000) (hl2 : l2.length ≤ 10000) :
    Calls Tryd.prog 80 #[.slice (some ⟨g, 0, none⟩) 2 2] w fun e w' => ∃ A c, e = .returned (.slice A (l1 ++ l2).length c) ∧ Kd.N k78 78 w' w.heap.size (fun _ => True) (.slice A (l1 ++ l2).length c) (l1 ++ l2) ∧ Below w.heap.size w w' := by
  have HG := Aside0.mk hg
  have HF1 := Aside0.mk h1
  have HF2 := Aside0.mk h2
  have HL1 := Aside0.mk hl1
  have HL2 := Aside0.mk hl2
  have I := Aside0.mk infoD
  have f1 : wrap64 (l1.length : Int) = (l1.length : Int) := by unfold wrap64; omega
  have f2 : wrap64 ((l1.length : Int) + (l2.length : Int)) = ((l1.length + l2.length : Nat) : Int) := by unfold wrap64; omega
  have f1w : IntKind.i64.wrap (l1.length : Int) = (l1.length : Int) := (i64_w _).trans f1
  have f2w : IntKind.i64.wrap ((l1.length : Int) + (l2.length : Int)) = ((l1.length + l2.length : Nat) : Int) := (i64_w _).trans f2
  have g1 : ((l1.length : Int) < 0) = False := eq_false (by omega)
  have g2 : (((l1.length + l2.length : Nat) : Int) < 0) = False := eq_false (by omega)
  have k1 : wrap64 1 = 1 := by decide +kernel
  have k2 : wrap64 2 = 2 := by decide +kernel
  clear hg h1 h2 hl1 hl2
  go_enter Tryd.func80, Tryd.ntmps80
  go_wp2_with fail
  go_loopg [3, 11] 2 (fun kq v3 v11 w' => ∃ i s : Int, v3 = .int .i64 s ∧ v11 = .int .i64 i ∧ Aside0 (((i = 0 ∧ s = 0) ∨ (i = 1 ∧ s = (l1.length : Int)) ∨ (i = 2 ∧ s = ((l1.length + l2.length : Nat) : Int))) ∧ i + kq = 2 ∧ Below w.heap.size w w'))
  case atStart => exact ⟨0, 0, rfl, rfl, ⟨.inl ⟨rfl, rfl⟩, by omega, Below.refl _ _⟩⟩
  case round =>
    obtain ⟨i, s, rfl, rfl, HJ⟩ := hrel
    obtain ⟨hd, hk, hB⟩ := HJ.out
    have HKQ := Aside0.mk hk
    have HBR := Aside0.mk hB
    have hgr := (hB.block g (blk_lt HG.out)).trans HG.out
    rcases hd with ⟨rfl, rfl⟩ | ⟨rfl, rfl⟩ | ⟨rfl, rfl⟩
    · clear hk hB HJ
      have hx0 := (blk_cell hgr 0).trans rfl
      go_wp2_with fail
      go_roundg (gk - 1)
      case measure => have := HKQ.out; omega
      case rel => exact ⟨1, (l1.length : Int), rfl, rfl, ⟨.inr (.inl ⟨rfl, rfl⟩), by have := HKQ.out; omega, HBR.out⟩⟩
    · clear hk hB HJ
      have hx1 := (blk_cell hgr 1).trans rfl
      go_wp2_with fail
      go_roundg (gk - 1)
      case measure => have := HKQ.out; omega
      case rel => exact ⟨2, ((l1.length + l2.length : Nat) : Int), rfl, rfl, ⟨.inr (.inr ⟨rfl, rfl⟩), by have := HKQ.out; omega, HBR.out⟩⟩
    · clear hk hB HJ hgr
      go_wp2_with (go_at_call 114; refine (growD_calls _ (l1.length + l2.length) (by have h1 := HL1.out; have h2 := HL2.out; omega)).mono ?_; rintro e w3 ⟨A9, c9, rfl, hR, hb⟩; have HR9 := Aside0.mk (Kd.R_lower hR HBR.out.size); have HB9 := Aside0.mk (below_step HBR.out hb); clear hR hb)
      go_loopg [6, 27] 2 (fun kq v6 v27 w' => ∃ i : Int, v27 = .int .i64 i ∧ Aside0 (i + kq = 2 ∧ Below w.heap.size w w' ∧ ((i = 0 ∧ Kd.N k78 78 w' w.heap.size (fun _ => True) v6 []) ∨ (i = 1 ∧ Kd.N k78 78 w' w.heap.size (fun _ => True) v6 l1) ∨ (i = 2 ∧ Kd.N k78 78 w' w.heap.size (fun _ => True) v6 (l1 ++ l2)))))
      case atStart => exact ⟨0, rfl, ⟨by omega, HB9.out, .inl ⟨rfl, Kd.R_N HR9.out⟩⟩⟩
      case round =>
      clear HBR HKQ
      obtain ⟨i, rfl, HJ⟩ := hrel
      obtain ⟨hk, hB, hd⟩ := HJ.out
      have HKQ := Aside0.mk hk
      have HBR := Aside0.mk hB
      have hgr := (hB.block g (blk_lt HG.out)).trans HG.out
      rcases hd with ⟨rfl, hN⟩ | ⟨rfl, hN⟩ | ⟨rfl, hN⟩
      · clear hk hB HJ
        have hx0 := (blk_cell hgr 0).trans rfl
        obtain ⟨A6, c6, e6⟩ := Kd.N_slice hN
        subst e6
        have HN6 := Aside0.mk hN
        clear hN
        go_wp2_with (at_builtin; refine Kd.N_append_rows k78 (w0 := w) w.heap.size rfl (.tmp 31) (.tmp 32) 71 78 (.agg #[.int .i64 0, .string ⟨#[]⟩, .slice none 0 0, .slice none 0 0]) 72 rfl Tryd.underlying71 I.out rfl (by decide) (by decide) (.slice A6 [].length c6) [] l1 A1 l1.length c1 (fun _ => True) (fun k => k < w.heap.size) rfl rfl HN6.out (Kd.F_below HF1.out HBR.out) (fun k hk => ⟨trivial, fun e => by have := Kd.N_base HN6.out k e.symm; omega⟩) (fun _ _ => trivial) HBR.out HBR.out.size (by have h1 := HL1.out; have h2 := HL2.out; (try simp only [List.length_nil]); omega) ?_; intro v1 wz hN hb hg hat; have HFN := Aside0.mk hN; have HFB := Aside0.mk hb; clear hN hb hg hat)
        go_roundg (gk - 1)
        case measure => have := HKQ.out; omega
        case rel => exact ⟨1, rfl, ⟨by have := HKQ.out; omega, HFB.out, .inr (.inl ⟨rfl, HFN.out⟩)⟩⟩
      · clear hk hB HJ
        have hx1 := (blk_cell hgr 1).trans rfl
        obtain ⟨A6, c6, e6⟩ := Kd.N_slice hN
        subst e6
        have HN6 := Aside0.mk hN
        clear hN
        go_wp2_with (at_builtin; refine Kd.N_append_rows k78 (w0 := w) w.heap.size rfl (.tmp 31) (.tmp 32) 71 78 (.agg #[.int .i64 0, .string ⟨#[]⟩, .slice none 0 0, .slice none 0 0]) 72 rfl Tryd.underlying71 I.out rfl (by decide) (by decide) (.slice A6 l1.length c6) l1 l2 A2 l2.length c2 (fun _ => True) (fun k => k < w.heap.size) rfl rfl HN6.out (Kd.F_below HF2.out HBR.out) (fun k hk => ⟨trivial, fun e => by have := Kd.N_base HN6.out k e.symm; omega⟩) (fun _ _ => trivial) HBR.out HBR.out.size (by have h1 := HL1.out; have h2 := HL2.out; (try simp only [List.length_nil]); omega) ?_; intro v1 wz hN hb hg hat; have HFN := Aside0.mk hN; have HFB := Aside0.mk hb; clear hN hb hg hat)
        go_roundg (gk - 1)
        case measure => have := HKQ.out; omega
        case rel => exact ⟨2, rfl, ⟨by have := HKQ.out; omega, HFB.out, .inr (.inr ⟨rfl, HFN.out⟩)⟩⟩
      · clear hk hB HJ hgr
        obtain ⟨A6, c6, e6⟩ := Kd.N_slice hN
        subst e6
        have HN6 := Aside0.mk hN
        clear hN
        go_wp2_with fail
        go_ret
        have h6 := HN6.out
        rw [List.length_append] at h6
        exact ⟨_, _, rfl, h6, HBR.out⟩
set_option maxHeartbeats 16000000 in
set_option maxRecDepth 100000 in
theorem concatP_calls (w : World) (g : Nat) (A1 A2 : Option Addr) (c1 c2 : Nat) (l1 l2 : List Nat) (hg : w.heap[g]? = some (.cells #[.slice A1 l1.length c1, .slice A2 l2.length c2] 134 (0, 0))) (h1 : Kd.F kpt w (fun k => k < w.heap.size) A1 l1.length l1) (h2 : Kd.F kpt w (fun k => k < w.heap.size) A2 l2.length l2) (hl1 : l1.length ≤ 10000) (hl2 : l2.length ≤ 10000) :
    Calls Tryd.prog 82 #[.slice (some ⟨g, 0, none⟩) 2 2] w fun e w' => ∃ A c, e = .returned (.slice A (l1 ++ l2).length c) ∧ Kd.N kpt 137 w' w.heap.size (fun _ => True) (.slice A (l1 ++ l2).length c) (l1 ++ l2) ∧ Below w.heap.size w w' := by
  have HG := Aside0.mk hg
  have HF1 := Aside0.mk h1
  have HF2 := Aside0.mk h2
  have HL1 := Aside0.mk hl1
  have HL2 := Aside0.mk hl2
  have I := Aside0.mk infoP
  have f1 : wrap64 (l1.length : Int) = (l1.length : Int) := by unfold wrap64; omega
  have f2 : wrap64 ((l1.length : Int) + (l2.length : Int)) = ((l1.length + l2.length : Nat) : Int) := by unfold wrap64; omega
  have f1w : IntKind.i64.wrap (l1.length : Int) = (l1.length : Int) := (i64_w _).trans f1
  have f2w : IntKind.i64.wrap ((l1.length : Int) + (l2.length : Int)) = ((l1.length + l2.length : Nat) : Int) := (i64_w _).trans f2
  have g1 : ((l1.length : Int) < 0) = False := eq_false (by omega)
  have g2 : (((l1.length + l2.length : Nat) : Int) < 0) = False := eq_false (by omega)
  have k1 : wrap64 1 = 1 := by decide +kernel
  have k2 : wrap64 2 = 2 := by decide +kernel
  clear hg h1 h2 hl1 hl2
  go_enter Tryd.func82, Tryd.ntmps82
  go_wp2_with fail
  go_loopg [3, 11] 2 (fun kq v3 v11 w' => ∃ i s : Int, v3 = .int .i64 s ∧ v11 = .int .i64 i ∧ Aside0 (((i = 0 ∧ s = 0) ∨ (i = 1 ∧ s = (l1.length : Int)) ∨ (i = 2 ∧ s = ((l1.length + l2.length : Nat) : Int))) ∧ i + kq = 2 ∧ Below w.heap.size w w'))
  case atStart => exact ⟨0, 0, rfl, rfl, ⟨.inl ⟨rfl, rfl⟩, by omega, Below.refl _ _⟩⟩
  case round =>
    obtain ⟨i, s, rfl, rfl, HJ⟩ := hrel
    obtain ⟨hd, hk, hB⟩ := HJ.out
    have HKQ := Aside0.mk hk
    have HBR := Aside0.mk hB
    have hgr := (hB.block g (blk_lt HG.out)).trans HG.out
    rcases hd with ⟨rfl, rfl⟩ | ⟨rfl, rfl⟩ | ⟨rfl, rfl⟩
    · clear hk hB HJ
      have hx0 := (blk_cell hgr 0).trans rfl
      go_wp2_with fail
      go_roundg (gk - 1)
      case measure => have := HKQ.out; omega
      case rel => exact ⟨1, (l1.length : Int), rfl, rfl, ⟨.inr (.inl ⟨rfl, rfl⟩), by have := HKQ.out; omega, HBR.out⟩⟩
    · clear hk hB HJ
      have hx1 := (blk_cell hgr 1).trans rfl
      go_wp2_with fail
      go_roundg (gk - 1)
      case measure => have := HKQ.out; omega
      case rel => exact ⟨2, ((l1.length + l2.length : Nat) : Int), rfl, rfl, ⟨.inr (.inr ⟨rfl, rfl⟩), by have := HKQ.out; omega, HBR.out⟩⟩
    · clear hk hB HJ hgr
      go_wp2_with (go_at_call 116; refine (growP_calls _ (l1.length + l2.length) (by have h1 := HL1.out; have h2 := HL2.out; omega)).mono ?_; rintro e w3 ⟨A9, c9, rfl, hR, hb⟩; have HR9 := Aside0.mk (Kd.R_lower hR HBR.out.size); have HB9 := Aside0.mk (below_step HBR.out hb); clear hR hb)
      go_loopg [6, 27] 2 (fun kq v6 v27 w' => ∃ i : Int, v27 = .int .i64 i ∧ Aside0 (i + kq = 2 ∧ Below w.heap.size w w' ∧ ((i = 0 ∧ Kd.N kpt 137 w' w.heap.size (fun _ => True) v6 []) ∨ (i = 1 ∧ Kd.N kpt 137 w' w.heap.size (fun _ => True) v6 l1) ∨ (i = 2 ∧ Kd.N kpt 137 w' w.heap.size (fun _ => True) v6 (l1 ++ l2)))))
      case atStart => exact ⟨0, rfl, ⟨by omega, HB9.out, .inl ⟨rfl, Kd.R_N HR9.out⟩⟩⟩
      case round =>
      clear HBR HKQ
      obtain ⟨i, rfl, HJ⟩ := hrel
      obtain ⟨hk, hB, hd⟩ := HJ.out
      have HKQ := Aside0.mk hk
      have HBR := Aside0.mk hB
      have hgr := (hB.block g (blk_lt HG.out)).trans HG.out
      rcases hd with ⟨rfl, hN⟩ | ⟨rfl, hN⟩ | ⟨rfl, hN⟩
      · clear hk hB HJ
        have hx0 := (blk_cell hgr 0).trans rfl
        obtain ⟨A6, c6, e6⟩ := Kd.N_slice hN
        subst e6
        have HN6 := Aside0.mk hN
        clear hN
        go_wp2_with (at_builtin; refine Kd.N_append_rows kpt (w0 := w) w.heap.size rfl (.tmp 31) (.tmp 32) 134 137 (.pointer none) 8 rfl Tryd.underlying134 I.out rfl (by decide) (by decide) (.slice A6 [].length c6) [] l1 A1 l1.length c1 (fun _ => True) (fun k => k < w.heap.size) rfl rfl HN6.out (Kd.F_below HF1.out HBR.out) (fun k hk => ⟨trivial, fun e => by have := Kd.N_base HN6.out k e.symm; omega⟩) (fun _ _ => trivial) HBR.out HBR.out.size (by have h1 := HL1.out; have h2 := HL2.out; (try simp only [List.length_nil]); omega) ?_; intro v1 wz hN hb hg hat; have HFN := Aside0.mk hN; have HFB := Aside0.mk hb; clear hN hb hg hat)
        go_roundg (gk - 1)
        case measure => have := HKQ.out; omega
        case rel => exact ⟨1, rfl, ⟨by have := HKQ.out; omega, HFB.out, .inr (.inl ⟨rfl, HFN.out⟩)⟩⟩
      · clear hk hB HJ
        have hx1 := (blk_cell hgr 1).trans rfl
        obtain ⟨A6, c6, e6⟩ := Kd.N_slice hN
        subst e6
        have HN6 := Aside0.mk hN
        clear hN
        go_wp2_with (at_builtin; refine Kd.N_append_rows kpt (w0 := w) w.heap.size rfl (.tmp 31) (.tmp 32) 134 137 (.pointer none) 8 rfl Tryd.underlying134 I.out rfl (by decide) (by decide) (.slice A6 l1.length c6) l1 l2 A2 l2.length c2 (fun _ => True) (fun k => k < w.heap.size) rfl rfl HN6.out (Kd.F_below HF2.out HBR.out) (fun k hk => ⟨trivial, fun e => by have := Kd.N_base HN6.out k e.symm; omega⟩) (fun _ _ => trivial) HBR.out HBR.out.size (by have h1 := HL1.out; have h2 := HL2.out; (try simp only [List.length_nil]); omega) ?_; intro v1 wz hN hb hg hat; have HFN := Aside0.mk hN; have HFB := Aside0.mk hb; clear hN hb hg hat)
        go_roundg (gk - 1)
        case measure => have := HKQ.out; omega
        case rel => exact ⟨2, rfl, ⟨by have := HKQ.out; omega, HFB.out, .inr (.inr ⟨rfl, HFN.out⟩)⟩⟩
      · clear hk hB HJ hgr
        obtain ⟨A6, c6, e6⟩ := Kd.N_slice hN
        subst e6
        have HN6 := Aside0.mk hN
        clear hN
        go_wp2_with fail
        go_ret
        have h6 := HN6.out
        rw [List.length_append] at h6
        exact ⟨_, _, rfl, h6, HBR.out⟩
end Go.Proofs.YtnhnlodmkbiiiaaDoor.HandDif
