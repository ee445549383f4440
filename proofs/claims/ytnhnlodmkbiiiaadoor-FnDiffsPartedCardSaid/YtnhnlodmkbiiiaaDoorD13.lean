/- The closures of the law, and slices.ContainsFunc at them. -/
import Derived.Test.YtnhnlodmkbiiiaaDoorD11
namespace Go.Proofs.YtnhnlodmkbiiiaaDoor.HandDif
open Go Go.RowKit Go.Proofs.YtnhnlodmkbiiiaaDoorL Go.Proofs.YtnhnlodmkbiiiaaDoorW.PrintWords Go.Proofs.YtnhnlodmkbiiiaaDoorW.PrintLast Go.Proofs.YtnhnlodmkbiiiaaDoorW.PrintMore Go.Proofs.YtnhnlodmkbiiiaaDoor.PDif
attribute [local go_sem] max2_int min2_int max_two min_two max_three min_three max_four min_four
set_option linter.unusedVariables false
set_option linter.unusedSimpArgs false
def sdF (x y : S78) : Option Bool := laws_sameDiff.f x.f0 x.f1 x.f2 x.f3 y.f0 y.f1 y.f2 y.f3
theorem sd_some (x y : S78) : ∃ b, sdF x y = some b := by
  unfold sdF laws_sameDiff.f bytes_Equal.f
  simp only [Option.bind_some]
  repeat' split
  all_goals exact ⟨_, rfl⟩
theorem sd_refl (x : S78) : sdF x x = some true := by
  unfold sdF laws_sameDiff.f bytes_Equal.f
  simp
/-- A change that stands in the first four cells of a pair, or in the last four. -/
structure PBox (W : World) (g : Nat) (p q : S78) : Prop where
  ex : ∃ B2 d2 B3 d3 E2 e2 E3 e3, W.heap[g]? = some (.cells #[.int .i64 p.f0, .string p.f1, .slice B2 p.f2.length d2, .slice B3 p.f3.length d3, .int .i64 q.f0, .string q.f1, .slice E2 q.f2.length e2, .slice E3 q.f3.length e3] 79 (0, 0)) ∧ (Kd.C (Kd.int .u8) W B2 p.f2.length p.f2 ∧ p.f2.length ≤ d2 ∧ Kd.C (Kd.int .u8) W B3 p.f3.length p.f3 ∧ p.f3.length ≤ d3) ∧ (Kd.C (Kd.int .u8) W E2 q.f2.length q.f2 ∧ q.f2.length ≤ e2 ∧ Kd.C (Kd.int .u8) W E3 q.f3.length q.f3 ∧ q.f3.length ≤ e3)
theorem PBox.more {W W1 : World} {g : Nat} {p q : S78} (h : PBox W g p q) (hb : Below W.heap.size W W1) : PBox W1 g p q := by
  obtain ⟨B2, d2, B3, d3, E2, e2, E3, e3, h1, ⟨h2, h3, h4, h5⟩, ⟨h6, h7, h8, h9⟩⟩ := h.ex
  exact ⟨B2, d2, B3, d3, E2, e2, E3, e3, (hb.block _ (blk_lt h1)).trans h1, ⟨Kd.C_below h2 hb, h3, Kd.C_below h4 hb, h5⟩, ⟨Kd.C_below h6 hb, h7, Kd.C_below h8 hb, h9⟩⟩
set_option maxHeartbeats 8000000 in
set_option maxRecDepth 100000 in
theorem clos43_calls (w : World) (g : Nat) (p q x : S78) (r : Bool) (A2 A3 : Option Addr) (c2 c3 : Nat) (hp : PBox w g p q) (h2 : Kd.C (Kd.int .u8) w A2 x.f2.length x.f2) (l2 : x.f2.length ≤ c2) (h3 : Kd.C (Kd.int .u8) w A3 x.f3.length x.f3) (l3 : x.f3.length ≤ c3) (h : sdF x p = some r) :
    Calls Tryd.prog 43 #[.agg #[.int .i64 x.f0, .string x.f1, .slice A2 x.f2.length c2, .slice A3 x.f3.length c3], .pointer (some ⟨g, 0, none⟩)] w fun e w' => e = .returned (.bool r) ∧ Below w.heap.size w w' := by
  obtain ⟨B2, d2, B3, d3, E2, e2, E3, e3, hc, ⟨k2, m2, k3, m3⟩, ⟨n2, o2, n3, o3⟩⟩ := hp.ex
  have hca : (w.alloc (.cells #[.int .i64 x.f0, .string x.f1, .slice A2 x.f2.length c2, .slice A3 x.f3.length c3] 78)).heap[g]? = _ := blk_alloc hc _
  have hy0 := (blk_cell hca 0).trans rfl
  have hy1 := (blk_cell hca 1).trans rfl
  have hy2 := (blk_cell hca 2).trans rfl
  have hy3 := (blk_cell hca 3).trans rfl
  have hy4 := (blk_cell hca 4).trans rfl
  have hy5 := (blk_cell hca 5).trans rfl
  have hy6 := (blk_cell hca 6).trans rfl
  have hy7 := (blk_cell hca 7).trans rfl
  have HH2 := Aside0.mk h2
  have HH3 := Aside0.mk h3
  have HL2 := Aside0.mk l2
  have HL3 := Aside0.mk l3
  have HK2 := Aside0.mk k2
  have HK3 := Aside0.mk k3
  have HM2 := Aside0.mk m2
  have HM3 := Aside0.mk m3
  have H := Aside0.mk h
  have HBa : Aside0 (Below w.heap.size w (w.alloc (.cells #[.int .i64 x.f0, .string x.f1, .slice A2 x.f2.length c2, .slice A3 x.f3.length c3] 78))) := ⟨below_alloc (Below.refl _ _) _⟩
  clear h2 h3 l2 l3 k2 k3 m2 m3 n2 n3 o2 o3 h hca hc hp
  go_enter Tryd.func43, Tryd.ntmps43
  go_wp2_with (go_at_call 44; refine (laws_sameDiff.calls x.f0 x.f1 A2 c2 x.f2 A3 c3 x.f3 p.f0 p.f1 B2 d2 p.f2 B3 d3 p.f3 r _ (Kd.C_below HH2.out HBa.out) HL2.out (Kd.C_below HH3.out HBa.out) HL3.out (Kd.C_below HK2.out HBa.out) HM2.out (Kd.C_below HK3.out HBa.out) HM3.out H.out).mono ?_; rintro e w1 ⟨rfl, hb⟩; have HB1 := Aside0.mk (below_step HBa.out hb); clear hb)
  go_ret
  exact ⟨rfl, HB1.out⟩
set_option maxHeartbeats 8000000 in
set_option maxRecDepth 100000 in
theorem index43_calls (w : World) (g : Nat) (p q : S78) (A : Option Addr) (c : Nat) (ys : List S78) (hp : PBox w g p q) (hy : Kd.C k78 w A ys.length ys) (hl : ys.length ≤ 1000000) :
    Calls Tryd.prog 86 #[.slice A ys.length c, .func (.func 43) #[] #[.pointer (some ⟨g, 0, none⟩)]] w fun e w' => ∃ i : Int, e = .returned (.int .i64 i) ∧ (p ∈ ys → 0 ≤ i) ∧ Below w.heap.size w w' := by
  have HP := Aside0.mk hp
  have HY := Aside0.mk hy
  have HL := Aside0.mk hl
  clear hp hy hl
  go_enter Tryd.func86, Tryd.ntmps86
  go_wp2_with fail
  go_loopg [8] ys.length (fun kq v8 w' => ∃ i : Int, v8 = .int .i64 i ∧ Aside0 (∃ j : Nat, i = (j : Int) ∧ j + kq = ys.length ∧ (p ∈ ys → p ∈ ys.drop j) ∧ Below w.heap.size w w'))
  case atStart => exact ⟨0, rfl, ⟨0, rfl, by omega, fun h => h, Below.refl _ _⟩⟩
  case round =>
    obtain ⟨i, rfl, HJ⟩ := hrel
    by_cases hi : i < (ys.length : Int)
    · have q0 : decide (i < (ys.length : Int)) = true := decide_eq_true hi
      obtain ⟨j, hij, hjk, hm, hB⟩ := HJ.out
      have hjl : j < ys.length := by omega
      have hi0 : ((0 : Int) ≤ i) = True := eq_true (by omega)
      have hi1 : (i < (ys.length : Int)) = True := eq_true (by omega)
      obtain ⟨ad, A2, c2, A3, c3, eA, hx0, hx1, hx2, hx3, hl2, hr2, hl3, hr3⟩ := at_T78 (Kd.C_below HY.out hB) i (by omega) (by omega)
      subst eA
      obtain ⟨x, hxx⟩ : ∃ x, x = rd_T78 ys i := ⟨_, rfl⟩
      rw [← hxx] at hx0 hx1 hx2 hx3 hl2 hr2 hl3 hr3
      have hxj : x = ys[j] := by rw [hxx, hij, rd78_eq ys j hjl]
      obtain ⟨r, hr⟩ := sd_some x p
      have HNX : Aside0 (r = false → p ∈ ys → p ∈ ys.drop (j + 1)) := ⟨fun hf hmem => by
        have h1 := hm hmem
        rw [List.drop_eq_getElem_cons hjl] at h1
        rcases List.mem_cons.1 h1 with h1 | h1
        · rw [hxj, ← h1, sd_refl] at hr
          rw [hf] at hr
          cases hr
        · exact h1⟩
      have HC := Aside0.mk (clos43_calls wr g p q x r A2 A3 c2 c3 (HP.out.more hB) hr2 hl2 hr3 hl3 hr)
      have HB := Aside0.mk hB
      have HI0 := Aside0.mk (show 0 ≤ i by omega)
      obtain ⟨i1, hi1e⟩ : ∃ y : Int, wrap64 (i + 1) = y := ⟨_, rfl⟩
      have hi1w : IntKind.i64.wrap (i + 1) = i1 := (i64_w _).trans hi1e
      have HI1 := Aside0.mk (show i1 = ((j + 1 : Nat) : Int) by have := HL.out; rw [← hi1e]; unfold wrap64; omega)
      have HJ2 := Aside0.mk (show j + gk = ys.length ∧ j < ys.length from ⟨hjk, hjl⟩)
      clear hij hjk hjl hm hB hi HJ hl2 hr2 hl3 hr3 hxx hxj hr
      cases r with
      | true =>
        go_wp2_with (go_at_call 43; refine HC.out.mono ?_; rintro e w1 ⟨rfl, hb⟩; have HB1 := Aside0.mk (below_step HB.out hb); clear hb)
        go_ret
        exact ⟨i, rfl, fun _ => HI0.out, HB1.out⟩
      | false =>
        go_wp2_with (go_at_call 43; refine HC.out.mono ?_; rintro e w1 ⟨rfl, hb⟩; have HB1 := Aside0.mk (below_step HB.out hb); clear hb)
        go_roundg (gk - 1)
        case measure => have := HJ2.out; omega
        case rel => exact ⟨i1, rfl, ⟨j + 1, HI1.out, by have := HJ2.out; omega, HNX.out trivial, HB1.out⟩⟩
    · have q0 : decide (i < (ys.length : Int)) = false := decide_eq_false hi
      obtain ⟨j, hij, hjk, hm, hB⟩ := HJ.out
      have hje : j = ys.length := by omega
      rw [hje, List.drop_length] at hm
      have HB := Aside0.mk hB
      have HM := Aside0.mk hm
      clear hij hjk hje hB hm HJ hi
      go_wp2_with fail
      go_ret
      exact ⟨-1, rfl, fun h => (by cases HM.out h), HB.out⟩
set_option maxHeartbeats 8000000 in
set_option maxRecDepth 100000 in
theorem contains43_calls (w : World) (g : Nat) (p q : S78) (A : Option Addr) (c : Nat) (ys : List S78) (hp : PBox w g p q) (hy : Kd.C k78 w A ys.length ys) (hl : ys.length ≤ 1000000) (hm : p ∈ ys) :
    Calls Tryd.prog 42 #[.slice A ys.length c, .func (.func 43) #[] #[.pointer (some ⟨g, 0, none⟩)]] w fun e w' => e = .returned (.bool true) ∧ Below w.heap.size w w' := by
  have HC := Aside0.mk (index43_calls w g p q A c ys hp hy hl)
  have HM := Aside0.mk hm
  clear hp hy hl hm
  go_enter Tryd.func42, Tryd.ntmps42
  go_wp2_with (go_at_call 86; refine HC.out.mono ?_; rintro e w1 ⟨i, rfl, h0, hb⟩; have hi0 : decide (i ≥ 0) = true := decide_eq_true (h0 HM.out); have hi1 : decide (0 ≤ i) = true := decide_eq_true (h0 HM.out); have HB1 := Aside0.mk hb; clear hb h0)
  go_ret
  exact ⟨rfl, HB1.out⟩
set_option maxHeartbeats 8000000 in
set_option maxRecDepth 100000 in
theorem clos45_calls (w : World) (g : Nat) (p q x : S78) (r : Bool) (A2 A3 : Option Addr) (c2 c3 : Nat) (hp : PBox w g p q) (h2 : Kd.C (Kd.int .u8) w A2 x.f2.length x.f2) (l2 : x.f2.length ≤ c2) (h3 : Kd.C (Kd.int .u8) w A3 x.f3.length x.f3) (l3 : x.f3.length ≤ c3) (h : sdF x q = some r) :
    Calls Tryd.prog 45 #[.agg #[.int .i64 x.f0, .string x.f1, .slice A2 x.f2.length c2, .slice A3 x.f3.length c3], .pointer (some ⟨g, 0, none⟩)] w fun e w' => e = .returned (.bool r) ∧ Below w.heap.size w w' := by
  obtain ⟨B2, d2, B3, d3, E2, e2, E3, e3, hc, ⟨k2, m2, k3, m3⟩, ⟨n2, o2, n3, o3⟩⟩ := hp.ex
  have hca : (w.alloc (.cells #[.int .i64 x.f0, .string x.f1, .slice A2 x.f2.length c2, .slice A3 x.f3.length c3] 78)).heap[g]? = _ := blk_alloc hc _
  have hy0 := (blk_cell hca 0).trans rfl
  have hy1 := (blk_cell hca 1).trans rfl
  have hy2 := (blk_cell hca 2).trans rfl
  have hy3 := (blk_cell hca 3).trans rfl
  have hy4 := (blk_cell hca 4).trans rfl
  have hy5 := (blk_cell hca 5).trans rfl
  have hy6 := (blk_cell hca 6).trans rfl
  have hy7 := (blk_cell hca 7).trans rfl
  have HH2 := Aside0.mk h2
  have HH3 := Aside0.mk h3
  have HL2 := Aside0.mk l2
  have HL3 := Aside0.mk l3
  have HK2 := Aside0.mk n2
  have HK3 := Aside0.mk n3
  have HM2 := Aside0.mk o2
  have HM3 := Aside0.mk o3
  have H := Aside0.mk h
  have HBa : Aside0 (Below w.heap.size w (w.alloc (.cells #[.int .i64 x.f0, .string x.f1, .slice A2 x.f2.length c2, .slice A3 x.f3.length c3] 78))) := ⟨below_alloc (Below.refl _ _) _⟩
  clear h2 h3 l2 l3 k2 k3 m2 m3 n2 n3 o2 o3 h hca hc hp
  go_enter Tryd.func45, Tryd.ntmps45
  go_wp2_with (go_at_call 44; refine (laws_sameDiff.calls x.f0 x.f1 A2 c2 x.f2 A3 c3 x.f3 q.f0 q.f1 E2 e2 q.f2 E3 e3 q.f3 r _ (Kd.C_below HH2.out HBa.out) HL2.out (Kd.C_below HH3.out HBa.out) HL3.out (Kd.C_below HK2.out HBa.out) HM2.out (Kd.C_below HK3.out HBa.out) HM3.out H.out).mono ?_; rintro e w1 ⟨rfl, hb⟩; have HB1 := Aside0.mk (below_step HBa.out hb); clear hb)
  go_ret
  exact ⟨rfl, HB1.out⟩
set_option maxHeartbeats 8000000 in
set_option maxRecDepth 100000 in
theorem index45_calls (w : World) (g : Nat) (p q : S78) (A : Option Addr) (c : Nat) (ys : List S78) (hp : PBox w g p q) (hy : Kd.C k78 w A ys.length ys) (hl : ys.length ≤ 1000000) :
    Calls Tryd.prog 86 #[.slice A ys.length c, .func (.func 45) #[] #[.pointer (some ⟨g, 0, none⟩)]] w fun e w' => ∃ i : Int, e = .returned (.int .i64 i) ∧ (q ∈ ys → 0 ≤ i) ∧ Below w.heap.size w w' := by
  have HP := Aside0.mk hp
  have HY := Aside0.mk hy
  have HL := Aside0.mk hl
  clear hp hy hl
  go_enter Tryd.func86, Tryd.ntmps86
  go_wp2_with fail
  go_loopg [8] ys.length (fun kq v8 w' => ∃ i : Int, v8 = .int .i64 i ∧ Aside0 (∃ j : Nat, i = (j : Int) ∧ j + kq = ys.length ∧ (q ∈ ys → q ∈ ys.drop j) ∧ Below w.heap.size w w'))
  case atStart => exact ⟨0, rfl, ⟨0, rfl, by omega, fun h => h, Below.refl _ _⟩⟩
  case round =>
    obtain ⟨i, rfl, HJ⟩ := hrel
    by_cases hi : i < (ys.length : Int)
    · have q0 : decide (i < (ys.length : Int)) = true := decide_eq_true hi
      obtain ⟨j, hij, hjk, hm, hB⟩ := HJ.out
      have hjl : j < ys.length := by omega
      have hi0 : ((0 : Int) ≤ i) = True := eq_true (by omega)
      have hi1 : (i < (ys.length : Int)) = True := eq_true (by omega)
      obtain ⟨ad, A2, c2, A3, c3, eA, hx0, hx1, hx2, hx3, hl2, hr2, hl3, hr3⟩ := at_T78 (Kd.C_below HY.out hB) i (by omega) (by omega)
      subst eA
      obtain ⟨x, hxx⟩ : ∃ x, x = rd_T78 ys i := ⟨_, rfl⟩
      rw [← hxx] at hx0 hx1 hx2 hx3 hl2 hr2 hl3 hr3
      have hxj : x = ys[j] := by rw [hxx, hij, rd78_eq ys j hjl]
      obtain ⟨r, hr⟩ := sd_some x q
      have HNX : Aside0 (r = false → q ∈ ys → q ∈ ys.drop (j + 1)) := ⟨fun hf hmem => by
        have h1 := hm hmem
        rw [List.drop_eq_getElem_cons hjl] at h1
        rcases List.mem_cons.1 h1 with h1 | h1
        · rw [hxj, ← h1, sd_refl] at hr
          rw [hf] at hr
          cases hr
        · exact h1⟩
      have HC := Aside0.mk (clos45_calls wr g p q x r A2 A3 c2 c3 (HP.out.more hB) hr2 hl2 hr3 hl3 hr)
      have HB := Aside0.mk hB
      have HI0 := Aside0.mk (show 0 ≤ i by omega)
      obtain ⟨i1, hi1e⟩ : ∃ y : Int, wrap64 (i + 1) = y := ⟨_, rfl⟩
      have hi1w : IntKind.i64.wrap (i + 1) = i1 := (i64_w _).trans hi1e
      have HI1 := Aside0.mk (show i1 = ((j + 1 : Nat) : Int) by have := HL.out; rw [← hi1e]; unfold wrap64; omega)
      have HJ2 := Aside0.mk (show j + gk = ys.length ∧ j < ys.length from ⟨hjk, hjl⟩)
      clear hij hjk hjl hm hB hi HJ hl2 hr2 hl3 hr3 hxx hxj hr
      cases r with
      | true =>
        go_wp2_with (go_at_call 45; refine HC.out.mono ?_; rintro e w1 ⟨rfl, hb⟩; have HB1 := Aside0.mk (below_step HB.out hb); clear hb)
        go_ret
        exact ⟨i, rfl, fun _ => HI0.out, HB1.out⟩
      | false =>
        go_wp2_with (go_at_call 45; refine HC.out.mono ?_; rintro e w1 ⟨rfl, hb⟩; have HB1 := Aside0.mk (below_step HB.out hb); clear hb)
        go_roundg (gk - 1)
        case measure => have := HJ2.out; omega
        case rel => exact ⟨i1, rfl, ⟨j + 1, HI1.out, by have := HJ2.out; omega, HNX.out trivial, HB1.out⟩⟩
    · have q0 : decide (i < (ys.length : Int)) = false := decide_eq_false hi
      obtain ⟨j, hij, hjk, hm, hB⟩ := HJ.out
      have hje : j = ys.length := by omega
      rw [hje, List.drop_length] at hm
      have HB := Aside0.mk hB
      have HM := Aside0.mk hm
      clear hij hjk hje hB hm HJ hi
      go_wp2_with fail
      go_ret
      exact ⟨-1, rfl, fun h => (by cases HM.out h), HB.out⟩
set_option maxHeartbeats 8000000 in
set_option maxRecDepth 100000 in
theorem contains45_calls (w : World) (g : Nat) (p q : S78) (A : Option Addr) (c : Nat) (ys : List S78) (hp : PBox w g p q) (hy : Kd.C k78 w A ys.length ys) (hl : ys.length ≤ 1000000) (hm : q ∈ ys) :
    Calls Tryd.prog 42 #[.slice A ys.length c, .func (.func 45) #[] #[.pointer (some ⟨g, 0, none⟩)]] w fun e w' => e = .returned (.bool true) ∧ Below w.heap.size w w' := by
  have HC := Aside0.mk (index45_calls w g p q A c ys hp hy hl)
  have HM := Aside0.mk hm
  clear hp hy hl hm
  go_enter Tryd.func42, Tryd.ntmps42
  go_wp2_with (go_at_call 86; refine HC.out.mono ?_; rintro e w1 ⟨i, rfl, h0, hb⟩; have hi0 : decide (i ≥ 0) = true := decide_eq_true (h0 HM.out); have hi1 : decide (0 ≤ i) = true := decide_eq_true (h0 HM.out); have HB1 := Aside0.mk hb; clear hb h0)
  go_ret
  exact ⟨rfl, HB1.out⟩
end Go.Proofs.YtnhnlodmkbiiiaaDoor.HandDif
