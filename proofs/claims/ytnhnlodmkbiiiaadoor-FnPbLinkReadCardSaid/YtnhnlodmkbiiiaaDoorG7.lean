/- The law FnPbLinkRead, walked: it tells true at any bytes. -/
import Derived.Test.YtnhnlodmkbiiiaaDoorG6
namespace Go.Proofs.YtnhnlodmkbiiiaaDoor.HandPb
open Go Go.RowKit Go.Proofs.YtnhnlodmkbiiiaaDoorL Go.Proofs.YtnhnlodmkbiiiaaDoorW.PrintWords Go.Proofs.YtnhnlodmkbiiiaaDoorW.PrintLast Go.Proofs.YtnhnlodmkbiiiaaDoorW.PrintMore Go.Proofs.YtnhnlodmkbiiiaaDoor.HandFields Go.Proofs.YtnhnlodmkbiiiaaDoor.PPbShare
attribute [local go_sem] max2_int min2_int max_two min_two max_three min_three max_four min_four
set_option linter.unusedVariables false
set_option linter.unusedSimpArgs false
theorem V_of_C {w : World} {A : Option Addr} {c : Nat} {l : List Int} (h : Kd.C (Kd.int .u8) w A l.length l) (hc : l.length ≤ c) {W : World} (hB : Below w.heap.size w W) : Kd.V (Kd.int .u8) 5 W W.heap.size (fun _ => True) (.slice A l.length c) l :=
  Kd.V_mono (Kd.V_mk hc (Kd.F_below (Kd.C_F (Kd.heap_int .u8) h) hB)) (fun _ _ => trivial)
section
set_option maxHeartbeats 8000000
set_option maxRecDepth 100000
theorem law_big (w : World) (A0 : Option Addr) (c0 : Nat) (l : List Int) (h : 2147483647 < l.length) : Calls Tryd.prog 3 #[.slice A0 l.length c0] w fun e w' => e = .returned (.bool true) ∧ Below w.heap.size w w' := by
  have q0 : decide ((2147483647 : Int) < (l.length : Int)) = true := decide_eq_true (by omega)
  have q0n : decide (2147483647 < l.length) = true := decide_eq_true (by omega)
  clear h
  go_enter Tryd.func3, Tryd.ntmps3
  go_wp2_with fail
  go_ret
  exact ⟨rfl, Below.refl _ _⟩
theorem law_mid (w : World) (A0 : Option Addr) (c0 : Nat) (l : List Int) (h : ¬ 2147483647 < l.length) (h5 : 500 < l.length) : Calls Tryd.prog 3 #[.slice A0 l.length c0] w fun e w' => e = .returned (.bool true) ∧ Below w.heap.size w w' := by
  have q0 : decide ((2147483647 : Int) < (l.length : Int)) = false := decide_eq_false (by omega)
  have q0n : decide (2147483647 < l.length) = false := decide_eq_false (by omega)
  have q1 : decide ((500 : Int) < (l.length : Int)) = true := decide_eq_true (by omega)
  have q1n : decide (500 < l.length) = true := decide_eq_true (by omega)
  clear h h5
  go_enter Tryd.func3, Tryd.ntmps3
  go_wp2_with (go_at_call 12; refine (pbAwake_calls _).mono ?_; rintro e w1 ⟨rfl, hB⟩; have HB := Aside0.mk hB; clear hB)
  go_ret
  exact ⟨rfl, HB.out⟩
theorem law_no (w : World) (A0 : Option Addr) (c0 : Nat) (l : List Int) (hC : Kd.C (Kd.int .u8) w A0 l.length l) (hc : l.length ≤ c0) (h5 : ¬ 500 < l.length) (k : Nat) (hO : spec_PbOurs.f k l 3 = some false) : Calls Tryd.prog 3 #[.slice A0 l.length c0] w fun e w' => e = .returned (.bool true) ∧ Below w.heap.size w w' := by
  have q0 : decide ((2147483647 : Int) < (l.length : Int)) = false := decide_eq_false (by omega)
  have q0n : decide (2147483647 < l.length) = false := decide_eq_false (by omega)
  have q1 : decide ((500 : Int) < (l.length : Int)) = false := decide_eq_false (by omega)
  have q1n : decide (500 < l.length) = false := decide_eq_false (by omega)
  have HO := Aside0.mk hO
  have HC := Aside0.mk hC
  have HN := Aside0.mk hc
  clear h5 hO hC hc
  go_enter Tryd.func3, Tryd.ntmps3
  go_wp2_with (first
    | (go_at_call 11; refine (spec_PbOurs.calls k (fun _ => True) A0 c0 l 3 false w (V_of_C HC.out HN.out (Below.refl _ _)) HO.out).mono ?_; rintro e w1 ⟨rfl, hB⟩; have HB := Aside0.mk hB; clear hB)
    | (go_at_call 12; refine (pbAwake_calls _).mono ?_; rintro e w2 ⟨rfl, hB⟩; have HB2 := Aside0.mk (below_step HB.out hB); clear hB))
  go_ret
  exact ⟨rfl, HB2.out⟩
end
section
set_option maxHeartbeats 16000000
set_option maxRecDepth 100000
theorem law_none (w : World) (hge : GE w) (A0 : Option Addr) (c0 : Nat) (l : List Int) (hb : ∀ x ∈ l, 0 ≤ x ∧ x ≤ 255) (hC : Kd.C (Kd.int .u8) w A0 l.length l) (hc : l.length ≤ c0) (h5 : ¬ 500 < l.length) (k : Nat) (hO : spec_PbOurs.f k l 3 = some true) (kf : Nat) (hU : umL kf l ⟨none, none, none⟩ = some none) (k' : Nat) (hL : spec_PbLinkOf.f k' l = some (LkR none)) : Calls Tryd.prog 3 #[.slice A0 l.length c0] w fun e w' => e = .returned (.bool true) ∧ Below w.heap.size w w' := by
  have q0 : decide ((2147483647 : Int) < (l.length : Int)) = false := decide_eq_false (by omega)
  have q0n : decide (2147483647 < l.length) = false := decide_eq_false (by omega)
  have q1 : decide ((500 : Int) < (l.length : Int)) = false := decide_eq_false (by omega)
  have q1n : decide (500 < l.length) = false := decide_eq_false (by omega)
  have HO := Aside0.mk hO
  have HC := Aside0.mk hC
  have HN := Aside0.mk hc
  have HL := Aside0.mk hL
  have HU := Aside0.mk hU
  have HBB := Aside0.mk hb
  have HGE := Aside0.mk hge
  have H5 := Aside0.mk h5
  clear h5 hO hC hc hL hU hb hge
  go_enter Tryd.func3, Tryd.ntmps3
  go_wp2_with (first
    | (go_at_call 11; refine (spec_PbOurs.calls k (fun _ => True) A0 c0 l 3 true w (V_of_C HC.out HN.out (Below.refl _ _)) HO.out).mono ?_; rintro e w1 ⟨rfl, hB⟩; have HB1 := Aside0.mk hB; clear hB)
    | (go_at_call 13; refine (Decoded_calls _ (HGE.out.below HB1.out) A0 c0 l HBB.out (by have := H5.out; omega) (Kd.C_below HC.out HB1.out) HN.out kf none HU.out).mono ?_; rintro e w2 ⟨rfl, hB⟩; have HB2 := Aside0.mk (below_alloc (below_step HB1.out hB) (.cells #[.bool false, .bool false, .bool false, .slice none 0 0, .string ⟨#[]⟩, .int .u64 0] 27)); clear hB)
    | (go_at_call 14; refine (spec_PbLinkOf.calls k' (fun _ => True) A0 c0 l _ _ _ _ _ _ _ _ (V_of_C HC.out HN.out HB2.out) HL.out).mono ?_; rintro e w3 ⟨v3, rfl, hR, hB⟩; obtain ⟨A3, c3, rfl⟩ := Kd.R_slice hR; have HB3 := Aside0.mk (below_alloc (below_step HB2.out hB) (.cells #[.bool false, .bool false, .bool false, .slice A3 0 c3, .string ⟨#[]⟩, .int .u64 0] 27)); clear hB hR)
    | (go_at_call 12; refine (pbAwake_calls _).mono ?_; rintro e w4 ⟨rfl, hB⟩; have HB4 := Aside0.mk (below_step HB3.out hB); clear hB))
  go_ret
  exact ⟨rfl, HB4.out⟩
end
section
set_option maxHeartbeats 16000000
set_option maxRecDepth 100000
theorem law_some (w : World) (hge : GE w) (A0 : Option Addr) (c0 : Nat) (l : List Int) (hb : ∀ x ∈ l, 0 ≤ x ∧ x ≤ 255) (hC : Kd.C (Kd.int .u8) w A0 l.length l) (hc : l.length ≤ c0) (h5 : ¬ 500 < l.length) (k : Nat) (hO : spec_PbOurs.f k l 3 = some true) (kf : Nat) (s : Lnk) (hU : umL kf l ⟨none, none, none⟩ = some (some s)) (k' : Nat) (hL : spec_PbLinkOf.f k' l = some (LkR (some s))) : Calls Tryd.prog 3 #[.slice A0 l.length c0] w fun e w' => e = .returned (.bool true) ∧ Below w.heap.size w w' := by
  have q0 : decide ((2147483647 : Int) < (l.length : Int)) = false := decide_eq_false (by omega)
  have q0n : decide (2147483647 < l.length) = false := decide_eq_false (by omega)
  have q1 : decide ((500 : Int) < (l.length : Int)) = false := decide_eq_false (by omega)
  have q1n : decide (500 < l.length) = false := decide_eq_false (by omega)
  have HO := Aside0.mk hO
  have HC := Aside0.mk hC
  have HN := Aside0.mk hc
  have HL := Aside0.mk hL
  have HU := Aside0.mk hU
  have HBB := Aside0.mk hb
  have HGE := Aside0.mk hge
  have H5 := Aside0.mk h5
  obtain ⟨b0, hb0⟩ : ∃ b, b = s.hash.isSome := ⟨_, rfl⟩
  obtain ⟨b1, hb1⟩ : ∃ b, b = s.name.isSome := ⟨_, rfl⟩
  obtain ⟨b2, hb2⟩ : ∃ b, b = s.ts.isSome := ⟨_, rfl⟩
  obtain ⟨xh, hxh⟩ : ∃ b, b = s.hash.getD [] := ⟨_, rfl⟩
  obtain ⟨st, hst⟩ : ∃ b, b = strOfNums (s.name.getD []) := ⟨_, rfl⟩
  obtain ⟨z, hz⟩ : ∃ b, b = ((s.ts.getD 0 : Nat) : Int) := ⟨_, rfl⟩
  have HS := Aside0.mk (sameLink_refl s)
  have HDP : Aside0 (∀ W e w', DecPost W (some s) e w' → ∃ v3, e = .returned (.tuple #[.agg #[.bool b0, .bool b1, .bool b2, v3, .string st, .int .u64 z], .bool true]) ∧ Kd.R (Kd.int .u8) 5 w' W.heap.size (fun _ => True) v3 xh ∧ Below W.heap.size W w') := ⟨fun W e w' h => by rw [hb0, hb1, hb2, hxh, hst, hz]; exact h⟩
  simp only [LkR, ← hb0, ← hb1, ← hb2, ← hxh, ← hst, ← hz] at hL
  have HL := Aside0.mk hL
  have hs := sameLink_refl s
  rw [← hb0, ← hb1, ← hb2, ← hxh, ← hst, ← hz] at hs
  have HS := Aside0.mk hs
  clear h5 hO hC hc hL hU hb hge hb0 hb1 hb2 hxh hst hz hs
  go_enter Tryd.func3, Tryd.ntmps3
  go_wp2_with (first
    | (go_at_call 11; refine (spec_PbOurs.calls k (fun _ => True) A0 c0 l 3 true w (V_of_C HC.out HN.out (Below.refl _ _)) HO.out).mono ?_; rintro e w1 ⟨rfl, hB⟩; have HB1 := Aside0.mk hB; clear hB)
    | (go_at_call 13; refine (Decoded_calls _ (HGE.out.below HB1.out) A0 c0 l HBB.out (by have := H5.out; omega) (Kd.C_below HC.out HB1.out) HN.out kf (some s) HU.out).mono ?_; intro e w2 hd; obtain ⟨v2, rfl, hR, hB⟩ := HDP.out _ _ _ hd; clear hd; obtain ⟨A2, c2, rfl⟩ := Kd.R_slice hR; have HR2 := Aside0.mk (Kd.R_reads' hR); have HB2 := Aside0.mk (below_alloc (below_step HB1.out hB) (.cells #[.bool b0, .bool b1, .bool b2, .slice A2 xh.length c2, .string st, .int .u64 z] 27)); have HG2 := Aside0.mk (blk_new w2 (.cells #[.bool b0, .bool b1, .bool b2, .slice A2 xh.length c2, .string st, .int .u64 z] 27)); clear hB hR)
    | (go_at_call 14; refine (spec_PbLinkOf.calls k' (fun _ => True) A0 c0 l _ _ _ _ _ _ _ _ (V_of_C HC.out HN.out HB2.out) HL.out).mono ?_; rintro e w3 ⟨v3, rfl, hR, hB⟩; obtain ⟨A3, c3, rfl⟩ := Kd.R_slice hR; have HR3 := Aside0.mk (Kd.R_reads' hR); have HB3 := Aside0.mk (below_alloc (below_step HB2.out hB) (.cells #[.bool b0, .bool b1, .bool b2, .slice A3 xh.length c3, .string st, .int .u64 z] 27)); have hg3 := (hB.block _ (blk_lt HG2.out)).trans HG2.out; have HR2b := Aside0.mk (Kd.C_below (Kd.C_alloc HR2.out.2.2 _) hB); have hk0 := (blk_cell hg3 0).trans rfl; have hk1 := (blk_cell hg3 1).trans rfl; have hk2 := (blk_cell hg3 2).trans rfl; have hk3 := (blk_cell hg3 3).trans rfl; have hk4 := (blk_cell hg3 4).trans rfl; have hk5 := (blk_cell hg3 5).trans rfl; have hlt : w2.heap.size < w3.heap.size := blk_lt hg3; have hne : (w2.heap.size = w3.heap.size) = False := eq_false (by omega); clear hB hR hg3)
    | (go_at_call 15; refine (spec_PbSameLink.calls b0 b1 b2 A2 c2 xh st z b0 b1 b2 A3 c3 xh st z true _ (Kd.C_alloc HR2b.out _) HR2.out.2.1 (Kd.C_alloc HR3.out.2.2 _) HR3.out.2.1 HS.out).mono ?_; rintro e w4 ⟨rfl, hB⟩; have HB4 := Aside0.mk (below_step HB3.out hB); clear hB)
    | (go_at_call 12; refine (pbAwake_calls _).mono ?_; rintro e w5 ⟨rfl, hB⟩; have HB5 := Aside0.mk (below_step HB4.out hB); clear hB))
  go_ret
  exact ⟨rfl, HB5.out⟩
end
theorem law_calls (w : World) (hge : GE w) (A0 : Option Addr) (c0 : Nat) (l : List Int) (hb : ∀ x ∈ l, 0 ≤ x ∧ x ≤ 255) (hC : Kd.C (Kd.int .u8) w A0 l.length l) (hc : l.length ≤ c0) : Calls Tryd.prog 3 #[.slice A0 l.length c0] w fun e w' => e = .returned (.bool true) ∧ Below w.heap.size w w' := by
  by_cases h1 : 2147483647 < l.length
  · exact law_big w A0 c0 l h1
  by_cases h5 : 500 < l.length
  · exact law_mid w A0 c0 l h1 h5
  obtain ⟨k, r, hO, hT⟩ := link_law l (by omega) hb
  cases r with
  | false => exact law_no w A0 c0 l hC hc h5 k hO
  | true =>
    obtain ⟨kf, RT, hU, k', hL⟩ := hT rfl
    cases RT with
    | none => exact law_none w hge A0 c0 l hb hC hc h5 k hO kf hU k' hL
    | some s => exact law_some w hge A0 c0 l hb hC hc h5 k hO kf s hU k' hL
theorem read_walk (a0 : Option Addr) (len0 cap0 : Nat) (z0 : List Int) (w : World) (w0 : (a0 = none ∧ len0 = 0 ∧ cap0 = 0 ∧ z0 = []) ∨ ∃ x, a0 = some x ∧ len0 ≤ cap0 ∧ cap0 ≤ maxLen ∧ z0.length = cap0 ∧ (∀ i, i < z0.length → w.cell? (x.add i) = some (.int .u8 (z0.getD i 0))) ∧ ∀ n ∈ z0, (Lit.int .u8 n).wf = true) (y0 : len0 * 1 ≤ 140737488351232) (h0 : ∃ T X, w.cell? ⟨0, 0, none⟩ = some (.iface T X)) (h1 : ∃ T X, w.cell? ⟨1, 0, none⟩ = some (.iface T X)) (h2 : ∃ T X, w.cell? ⟨2, 0, none⟩ = some (.iface T X)) :
    Calls Tryd.prog 3 #[.slice a0 len0 cap0] w fun e w' => e = .returned (.bool true) ∧ Below w.heap.size w w' := by
  obtain ⟨l0, rfl, hr0, hm0, hw0, hc0⟩ := ReadsInt.ofRowC w0
  refine law_calls w ⟨h0, h1, h2⟩ a0 cap0 l0 (fun x hx => ?_) (Kd.C_of_reads (d := (0 : Int)) (h1 := fun _ => rfl) hr0) hc0
  have := hw0 x hx
  simp [Lit.wf, IntKind.bits, IntKind.signed, IntKind.min, IntKind.max] at this
  omega
end Go.Proofs.YtnhnlodmkbiiiaaDoor.HandPb
