/- The law FnPbLinkWrite, walked: it tells true at any link. -/
import Derived.Test.YtnhnlodmkbiiiaaDoorG9
namespace Go.Proofs.YtnhnlodmkbiiiaaDoor.HandPb
open Go Go.RowKit Go.Proofs.YtnhnlodmkbiiiaaDoorL Go.Proofs.YtnhnlodmkbiiiaaDoorW.PrintWords Go.Proofs.YtnhnlodmkbiiiaaDoorW.PrintLast Go.Proofs.YtnhnlodmkbiiiaaDoorW.PrintMore Go.Proofs.YtnhnlodmkbiiiaaDoor.HandFields Go.Proofs.YtnhnlodmkbiiiaaDoor.PPbShare
attribute [local go_sem] max2_int min2_int max_two min_two max_three min_three max_four min_four
set_option linter.unusedVariables false
set_option linter.unusedSimpArgs false
theorem one_K27 (W : World) (g : Nat) (b0 b1 b2 : Bool) (A : Option Addr) (cp : Nat) (xs : List Int) (st : ByteArray) (z : Int) (h : W.heap[g]? = some (.cells #[.bool b0, .bool b1, .bool b2, .slice A xs.length cp, .string st, .int .u64 z] 27 (0, 0))) (hC : Kd.C (Kd.int .u8) W A xs.length xs) (hc : xs.length ≤ cp) : Kd.C PPbWrite.k27 W (some ⟨g, 0, none⟩) 1 [(⟨b0, b1, b2, xs, st, z⟩ : PPbWrite.S27)] := by
  refine ⟨rfl, by decide, fun _ => ⟨⟨g, 0, none⟩, rfl, fun j p hj => ?_⟩⟩
  match j, hj with
  | 0, hj =>
    obtain rfl := Option.some.inj hj
    refine ⟨_, rfl, PPbWrite.k27_mk W ⟨b0, b1, b2, xs, st, z⟩ hc hC, fun i u hu => ?_⟩
    have hk := fun j => cell_of_row W g j _ 27 (0, 0) h
    match i, hu with
    | 0, hu => rw [← Option.some.inj hu]; exact hk 0
    | 1, hu => rw [← Option.some.inj hu]; exact hk 1
    | 2, hu => rw [← Option.some.inj hu]; exact hk 2
    | 3, hu => rw [← Option.some.inj hu]; exact hk 3
    | 4, hu => rw [← Option.some.inj hu]; exact hk 4
    | 5, hu => rw [← Option.some.inj hu]; exact hk 5
  | j + 1, hj => cases hj
theorem small_eq (b0 b1 b2 : Bool) (xs : List Int) (st : ByteArray) (z : Int) : PPbWrite.laws_pbSmall.f 6 false [] [(⟨b0, b1, b2, xs, st, z⟩ : PPbWrite.S27)] = some (decide (xs.length ≤ 100 ∧ st.size ≤ 100)) := by
  have w1 : wrap64 ((0 : Int) + 1) = 1 := by unfold wrap64; omega
  have hln : (([(⟨b0, b1, b2, xs, st, z⟩ : PPbWrite.S27)].length : Nat) : Int) = 1 := rfl
  have e : PPbWrite.rd_T27 [(⟨b0, b1, b2, xs, st, z⟩ : PPbWrite.S27)] 0 = ⟨b0, b1, b2, xs, st, z⟩ := rfl
  unfold PPbWrite.laws_pbSmall.f
  rw [if_neg (by decide), hln]
  simp only [PPbWrite.laws_pbSmall.j0]
  rw [if_neg (by decide), hln]
  simp only [PPbWrite.laws_pbSmall.l0, e, w1]
  rw [hln]
  rw [if_pos (by decide), if_pos (by decide), if_pos (by decide)]
  by_cases h0 : (xs.length : Int) > 100
  · rw [if_pos h0, decide_eq_false (by omega)]
  · rw [if_neg h0]
    by_cases h1 : (st.size : Int) > 100
    · rw [if_pos h1, decide_eq_false (by omega)]
    · rw [if_neg h1, if_neg (by decide), decide_eq_true (by omega)]
theorem fits_eq (b0 b1 b2 : Bool) (xs : List Int) (st : ByteArray) (z : Int) : PPbWrite.laws_zzFits22.f b0 b1 b2 xs st z = some (decide (xs.length ≤ 2147483647 ∧ st.size ≤ 2147483647)) := by
  unfold PPbWrite.laws_zzFits22.f
  by_cases h0 : (xs.length : Int) > 2147483647
  · rw [if_pos h0, decide_eq_false (by omega)]
  · rw [if_neg h0]
    by_cases h1 : (st.size : Int) > 2147483647
    · rw [if_pos h1, decide_eq_false (by omega)]
    · rw [if_neg h1, decide_eq_true (by omega)]
/-- What is read is what was written. -/
theorem sameLink_mk (b0 b1 b2 : Bool) (xs : List Int) (st : ByteArray) (m : Nat) : spec_PbSameLink.f (mkL b0 b1 b2 xs st m).hash.isSome (mkL b0 b1 b2 xs st m).name.isSome (mkL b0 b1 b2 xs st m).ts.isSome ((mkL b0 b1 b2 xs st m).hash.getD []) (strOfNums ((mkL b0 b1 b2 xs st m).name.getD [])) (((mkL b0 b1 b2 xs st m).ts.getD 0 : Nat) : Int) b0 b1 b2 xs st (m : Int) = some true := by
  cases b0 <;> cases b1 <;> cases b2 <;> simp [spec_PbSameLink.f, spec_PbPlain.f, same_reflM, mkL, strOfNums_bytesOf, beq_self_eq_true] <;> rfl
theorem uv_bytes : ∀ (n v : Nat), v < 128 ^ (n + 1) → ∀ x ∈ uvF n v, 0 ≤ x ∧ x ≤ 255
  | n, v, hv, x, hx => by
    by_cases h : v < 128
    · have e : uvF n v = [(v : Int)] := by
        match n with
        | 0 => rfl
        | n + 1 => unfold uvF; rw [if_pos h]
      rw [e] at hx
      simp only [List.mem_singleton] at hx
      omega
    · match n with
      | 0 => simp at hv; omega
      | n + 1 =>
        have e : uvF (n + 1) v = ((v % 128 + 128 : Nat) : Int) :: uvF n (v / 128) := by
          conv => { lhs; unfold uvF }
          rw [if_neg h]
        have hd : v / 128 < 128 ^ (n + 1) := by rw [Nat.div_lt_iff_lt_mul (by decide), ← Nat.pow_succ]; exact hv
        rw [e] at hx
        rcases List.mem_cons.1 hx with rfl | hx
        · clear hv hd; omega
        · exact uv_bytes n (v / 128) hd x hx
theorem uv_by (v : Nat) (h : v < 2 ^ 64) : ∀ x ∈ uv v, 0 ≤ x ∧ x ≤ 255 := uv_bytes 10 v (Nat.lt_of_lt_of_le h (by decide))
theorem bytesOf_by (st : ByteArray) : ∀ x ∈ bytesOf st, 0 ≤ x ∧ x ≤ 255 := fun x hx => by
  unfold bytesOf at hx
  obtain ⟨b, _, rfl⟩ := List.mem_map.1 hx
  have := b.toNat_lt
  omega
theorem hsF_len2 (b : Bool) (xs : List Int) (h : xs.length ≤ 100) : (hsF' b xs).length ≤ 111 := by
  have := uv_len xs.length (by omega)
  unfold hsF'; cases b <;> simp; omega
theorem nmF_len2 (b : Bool) (st : ByteArray) (h : st.size ≤ 100) : (nmF' b st).length ≤ 111 := by
  have h2 := bytesOf_length st
  have := uv_len (bytesOf st).length (by omega)
  unfold nmF'; cases b <;> simp; omega
theorem tsF_len2 (b : Bool) (m : Nat) (h : m < 2 ^ 64) : (tsF' b m).length ≤ 11 := by
  have := uv_len m h
  unfold tsF'; cases b <;> simp; omega
theorem mlink_bytes (b0 b1 b2 : Bool) (xs : List Int) (st : ByteArray) (m : Nat) (hb : ∀ x ∈ xs, 0 ≤ x ∧ x ≤ 255) (h1 : xs.length ≤ 100) (h2 : st.size ≤ 100) (hm : m < 2 ^ 64) : ∀ x ∈ mlink (mkL b0 b1 b2 xs st m), 0 ≤ x ∧ x ≤ 255 := by
  rw [mlink_mkL]
  have k1 := uv_by xs.length (by omega)
  have k2 := uv_by (bytesOf st).length (by rw [bytesOf_length]; omega)
  have k3 := uv_by m hm
  have k4 := bytesOf_by st
  intro x hx
  simp only [List.mem_append] at hx
  rcases hx with (hx | hx) | hx
  · cases b0
    · cases hx
    · rcases List.mem_cons.1 hx with rfl | hx
      · decide
      · rcases List.mem_append.1 hx with hx | hx
        · exact k1 x hx
        · exact hb x hx
  · cases b1
    · cases hx
    · rcases List.mem_cons.1 hx with rfl | hx
      · decide
      · rcases List.mem_append.1 hx with hx | hx
        · exact k2 x hx
        · exact k4 x hx
  · cases b2
    · cases hx
    · rcases List.mem_cons.1 hx with rfl | hx
      · decide
      · exact k3 x hx
section
set_option maxHeartbeats 16000000
set_option maxRecDepth 100000
variable (w : World) (b0 b1 b2 : Bool) (A0 : Option Addr) (cp : Nat) (xs : List Int) (st : ByteArray) (m : Nat)
theorem law4_big (hC : Kd.C (Kd.int .u8) w A0 xs.length xs) (hc : xs.length ≤ cp) (hF : PPbWrite.laws_zzFits22.f b0 b1 b2 xs st (m : Int) = some false) : Calls Tryd.prog 4 #[.agg #[.bool b0, .bool b1, .bool b2, .slice A0 xs.length cp, .string st, .int .u64 (m : Int)]] w fun e w' => e = .returned (.bool true) ∧ Below w.heap.size w w' := by
  have HCz := Aside0.mk (Kd.C_alloc hC (.cells #[.bool b0, .bool b1, .bool b2, .slice A0 xs.length cp, .string st, .int .u64 (m : Int)] 27))
  have HBz := Aside0.mk (below_alloc (Below.refl w.heap.size w) (.cells #[.bool b0, .bool b1, .bool b2, .slice A0 xs.length cp, .string st, .int .u64 (m : Int)] 27))
  have HGz := Aside0.mk (blk_new w (.cells #[.bool b0, .bool b1, .bool b2, .slice A0 xs.length cp, .string st, .int .u64 (m : Int)] 27))
  have HN := Aside0.mk hc
  have HF := Aside0.mk hF
  clear hF
  clear hC hc
  go_enter Tryd.func4, Tryd.ntmps4
  go_wp2_with (go_at_call 16; refine (PPbWrite.laws_zzFits22.calls b0 b1 b2 A0 cp xs st (m : Int) false _ HCz.out HN.out HF.out).mono ?_; rintro e wa ⟨rfl, hB⟩; have HBa := Aside0.mk (below_step HBz.out hB); have HGa := Aside0.mk ((hB.block _ (blk_lt HGz.out)).trans HGz.out); have HCa := Aside0.mk (Kd.C_below HCz.out hB); clear hB; (try clear hk0 hk1 hk2 hk3 hk4 hk5); have hg_ := HGa.out; have hk0 := (blk_cell hg_ 0).trans rfl; have hk1 := (blk_cell hg_ 1).trans rfl; have hk2 := (blk_cell hg_ 2).trans rfl; have hk3 := (blk_cell hg_ 3).trans rfl; have hk4 := (blk_cell hg_ 4).trans rfl; have hk5 := (blk_cell hg_ 5).trans rfl; clear hg_)
  go_ret
  exact ⟨rfl, HBa.out⟩
theorem law4_mid (hC : Kd.C (Kd.int .u8) w A0 xs.length xs) (hc : xs.length ≤ cp) (hF : PPbWrite.laws_zzFits22.f b0 b1 b2 xs st (m : Int) = some true) (hS : PPbWrite.laws_pbSmall.f 6 false [] [(⟨b0, b1, b2, xs, st, (m : Int)⟩ : PPbWrite.S27)] = some false) : Calls Tryd.prog 4 #[.agg #[.bool b0, .bool b1, .bool b2, .slice A0 xs.length cp, .string st, .int .u64 (m : Int)]] w fun e w' => e = .returned (.bool true) ∧ Below w.heap.size w w' := by
  have HCz := Aside0.mk (Kd.C_alloc hC (.cells #[.bool b0, .bool b1, .bool b2, .slice A0 xs.length cp, .string st, .int .u64 (m : Int)] 27))
  have HBz := Aside0.mk (below_alloc (Below.refl w.heap.size w) (.cells #[.bool b0, .bool b1, .bool b2, .slice A0 xs.length cp, .string st, .int .u64 (m : Int)] 27))
  have HGz := Aside0.mk (blk_new w (.cells #[.bool b0, .bool b1, .bool b2, .slice A0 xs.length cp, .string st, .int .u64 (m : Int)] 27))
  have HN := Aside0.mk hc
  have HF := Aside0.mk hF
  have HS := Aside0.mk hS
  clear hF hS
  clear hC hc
  go_enter Tryd.func4, Tryd.ntmps4
  go_wp2_with (first | (go_at_call 16; refine (PPbWrite.laws_zzFits22.calls b0 b1 b2 A0 cp xs st (m : Int) true _ HCz.out HN.out HF.out).mono ?_; rintro e wa ⟨rfl, hB⟩; have HBa := Aside0.mk (below_step HBz.out hB); have HGa := Aside0.mk ((hB.block _ (blk_lt HGz.out)).trans HGz.out); have HCa := Aside0.mk (Kd.C_below HCz.out hB); clear hB; (try clear hk0 hk1 hk2 hk3 hk4 hk5); have hg_ := HGa.out; have hk0 := (blk_cell hg_ 0).trans rfl; have hk1 := (blk_cell hg_ 1).trans rfl; have hk2 := (blk_cell hg_ 2).trans rfl; have hk3 := (blk_cell hg_ 3).trans rfl; have hk4 := (blk_cell hg_ 4).trans rfl; have hk5 := (blk_cell hg_ 5).trans rfl; clear hg_) | (go_at_call 17; refine (PPbWrite.laws_pbSmall.calls 6 false none 0 [] (some ⟨wa.heap.size, 0, none⟩) 1 [(⟨b0, b1, b2, xs, st, (m : Int)⟩ : PPbWrite.S27)] false _ (Kd.C_nil _ _) (Nat.le_refl _) (one_K27 _ _ b0 b1 b2 A0 cp xs st (m : Int) (blk_new wa _) (Kd.C_alloc HCa.out _) HN.out) (Nat.le_refl _) HS.out).mono ?_; rintro e wb ⟨rfl, hB0⟩; have hB := below_then (below_alloc (Below.refl wa.heap.size wa) (.cells #[.bool b0, .bool b1, .bool b2, .slice A0 xs.length cp, .string st, .int .u64 (m : Int)] 27)) (by rw [size_alloc]; omega) hB0; clear hB0; have HBb := Aside0.mk (below_step HBa.out hB); have HGb := Aside0.mk ((hB.block _ (blk_lt HGa.out)).trans HGa.out); have HCb := Aside0.mk (Kd.C_below HCa.out hB); clear hB; (try clear hk0 hk1 hk2 hk3 hk4 hk5); have hg_ := HGb.out; have hk0 := (blk_cell hg_ 0).trans rfl; have hk1 := (blk_cell hg_ 1).trans rfl; have hk2 := (blk_cell hg_ 2).trans rfl; have hk3 := (blk_cell hg_ 3).trans rfl; have hk4 := (blk_cell hg_ 4).trans rfl; have hk5 := (blk_cell hg_ 5).trans rfl; clear hg_) | (go_at_call 12; refine (pbAwake_calls _).mono ?_; rintro e wd ⟨rfl, hB⟩; have HBd := Aside0.mk (below_step HBb.out hB); clear hB))
  go_ret
  exact ⟨rfl, HBd.out⟩
theorem law4_small (hC : Kd.C (Kd.int .u8) w A0 xs.length xs) (hc : xs.length ≤ cp) (hge : GE w) (hb : ∀ x ∈ xs, 0 ≤ x ∧ x ≤ 255) (hm : m < 2 ^ 64) (h1 : xs.length ≤ 100) (h2 : st.size ≤ 100) (hF : PPbWrite.laws_zzFits22.f b0 b1 b2 xs st (m : Int) = some true) (hS : PPbWrite.laws_pbSmall.f 6 false [] [(⟨b0, b1, b2, xs, st, (m : Int)⟩ : PPbWrite.S27)] = some true) : Calls Tryd.prog 4 #[.agg #[.bool b0, .bool b1, .bool b2, .slice A0 xs.length cp, .string st, .int .u64 (m : Int)]] w fun e w' => e = .returned (.bool true) ∧ Below w.heap.size w w' := by
  have HCz := Aside0.mk (Kd.C_alloc hC (.cells #[.bool b0, .bool b1, .bool b2, .slice A0 xs.length cp, .string st, .int .u64 (m : Int)] 27))
  have HBz := Aside0.mk (below_alloc (Below.refl w.heap.size w) (.cells #[.bool b0, .bool b1, .bool b2, .slice A0 xs.length cp, .string st, .int .u64 (m : Int)] 27))
  have HGz := Aside0.mk (blk_new w (.cells #[.bool b0, .bool b1, .bool b2, .slice A0 xs.length cp, .string st, .int .u64 (m : Int)] 27))
  have HN := Aside0.mk hc
  have HF := Aside0.mk hF
  have HS := Aside0.mk hS
  have H1 := Aside0.mk h1
  have H2 := Aside0.mk h2
  have HM := Aside0.mk hm
  have HGE := Aside0.mk hge
  have hfit := mkL_fit (b0 := b0) (b1 := b1) (b2 := b2) (xs := xs) (st := st) (m := m) (by omega) (by omega) hm
  have hul := um_mlink _ hfit
  have htl : (mlink (mkL b0 b1 b2 xs st m)).length ≤ 1000000 := by
    have e0 := hsF_len2 b0 xs h1
    have e1 := nmF_len2 b1 st h2
    have e2 := tsF_len2 b2 m hm
    rw [mlink_mkL, List.length_append, List.length_append]
    omega
  have hby := mlink_bytes b0 b1 b2 xs st m hb h1 h2 hm
  have hsl := sameLink_mk b0 b1 b2 xs st m
  obtain ⟨tot, htot⟩ : ∃ t, t = mlink (mkL b0 b1 b2 xs st m) := ⟨_, rfl⟩
  rw [← htot] at hul htl hby
  have TL := Aside0.mk htot
  have HU := Aside0.mk hul
  have HTL := Aside0.mk htl
  have HBY := Aside0.mk hby
  obtain ⟨k0, hk0⟩ : ∃ b, b = (mkL b0 b1 b2 xs st m).hash.isSome := ⟨_, rfl⟩
  obtain ⟨k1, hk1⟩ : ∃ b, b = (mkL b0 b1 b2 xs st m).name.isSome := ⟨_, rfl⟩
  obtain ⟨k2, hk2⟩ : ∃ b, b = (mkL b0 b1 b2 xs st m).ts.isSome := ⟨_, rfl⟩
  obtain ⟨xh, hxh⟩ : ∃ b, b = (mkL b0 b1 b2 xs st m).hash.getD [] := ⟨_, rfl⟩
  obtain ⟨sx, hsx⟩ : ∃ b, b = strOfNums ((mkL b0 b1 b2 xs st m).name.getD []) := ⟨_, rfl⟩
  obtain ⟨zx, hzx⟩ : ∃ b, b = (((mkL b0 b1 b2 xs st m).ts.getD 0 : Nat) : Int) := ⟨_, rfl⟩
  have HDP : Aside0 (∀ W e w', DecPost W (some (mkL b0 b1 b2 xs st m)) e w' → ∃ v3, e = .returned (.tuple #[.agg #[.bool k0, .bool k1, .bool k2, v3, .string sx, .int .u64 zx], .bool true]) ∧ Kd.R (Kd.int .u8) 5 w' W.heap.size (fun _ => True) v3 xh ∧ Below W.heap.size W w') := ⟨fun W e w' h => by rw [hk0, hk1, hk2, hxh, hsx, hzx]; exact h⟩
  rw [← hk0, ← hk1, ← hk2, ← hxh, ← hsx, ← hzx] at hsl
  have HSL := Aside0.mk hsl
  have tok1 : True := trivial
  clear hF hS h1 h2 hm hge hfit hul htl hby hsl htot hk0 hk1 hk2 hxh hsx hzx hb
  clear hC hc
  go_enter Tryd.func4, Tryd.ntmps4
  go_wp2_with (first
    | (go_at_call 16; refine (PPbWrite.laws_zzFits22.calls b0 b1 b2 A0 cp xs st (m : Int) true _ HCz.out HN.out HF.out).mono ?_; rintro e wa ⟨rfl, hB⟩; have HBa := Aside0.mk (below_step HBz.out hB); have HGa := Aside0.mk ((hB.block _ (blk_lt HGz.out)).trans HGz.out); have HCa := Aside0.mk (Kd.C_below HCz.out hB); clear hB; (try clear hk0 hk1 hk2 hk3 hk4 hk5); have hg_ := HGa.out; have hk0 := (blk_cell hg_ 0).trans rfl; have hk1 := (blk_cell hg_ 1).trans rfl; have hk2 := (blk_cell hg_ 2).trans rfl; have hk3 := (blk_cell hg_ 3).trans rfl; have hk4 := (blk_cell hg_ 4).trans rfl; have hk5 := (blk_cell hg_ 5).trans rfl; clear hg_)
    | (go_at_call 17; refine (PPbWrite.laws_pbSmall.calls 6 false none 0 [] (some ⟨wa.heap.size, 0, none⟩) 1 [(⟨b0, b1, b2, xs, st, (m : Int)⟩ : PPbWrite.S27)] true _ (Kd.C_nil _ _) (Nat.le_refl _) (one_K27 _ _ b0 b1 b2 A0 cp xs st (m : Int) (blk_new wa _) (Kd.C_alloc HCa.out _) HN.out) (Nat.le_refl _) HS.out).mono ?_; rintro e wb ⟨rfl, hB0⟩; have hB := below_then (below_alloc (Below.refl wa.heap.size wa) (.cells #[.bool b0, .bool b1, .bool b2, .slice A0 xs.length cp, .string st, .int .u64 (m : Int)] 27)) (by rw [size_alloc]; omega) hB0; clear hB0; have HBb := Aside0.mk (below_step HBa.out hB); have HGb := Aside0.mk ((hB.block _ (blk_lt HGa.out)).trans HGa.out); have HCb := Aside0.mk (Kd.C_below HCa.out hB); clear hB; (try clear hk0 hk1 hk2 hk3 hk4 hk5); have hg_ := HGb.out; have hk0 := (blk_cell hg_ 0).trans rfl; have hk1 := (blk_cell hg_ 1).trans rfl; have hk2 := (blk_cell hg_ 2).trans rfl; have hk3 := (blk_cell hg_ 3).trans rfl; have hk4 := (blk_cell hg_ 4).trans rfl; have hk5 := (blk_cell hg_ 5).trans rfl; clear hg_)
    | (go_at_call 18; refine (Encoded_calls _ b0 b1 b2 A0 xs.length cp xs st m HCb.out rfl (by have := H1.out; omega) (by have := H2.out; omega) HM.out).mono ?_; rintro e wc ⟨gb, cap, rfl, hCb, hcb, hB⟩; rw [← TL.out] at hCb hcb ⊢; have HRc := Aside0.mk hCb; have HNc := Aside0.mk hcb; clear hCb hcb; have HBc := Aside0.mk (below_step HBb.out hB); have HGc := Aside0.mk ((hB.block _ (blk_lt HGb.out)).trans HGb.out); have HCc := Aside0.mk (Kd.C_below HCb.out hB); clear hB; (try clear hk0 hk1 hk2 hk3 hk4 hk5); have hg_ := HGc.out; have hk0 := (blk_cell hg_ 0).trans rfl; have hk1 := (blk_cell hg_ 1).trans rfl; have hk2 := (blk_cell hg_ 2).trans rfl; have hk3 := (blk_cell hg_ 3).trans rfl; have hk4 := (blk_cell hg_ 4).trans rfl; have hk5 := (blk_cell hg_ 5).trans rfl; clear hg_)
    | (go_at_call 19; have tok1_ := tok1; refine (PbLinkBytes_calls _ b0 b1 b2 A0 cp xs st m HCc.out HN.out (by have := H1.out; omega) (by have := H2.out; omega) HM.out).mono ?_; rintro e wd ⟨vd, rfl, hR, hB⟩; rw [← TL.out] at hR; obtain ⟨Ad, cd, rfl⟩ := Kd.R_slice hR; have HRd := Aside0.mk (Kd.R_reads' hR); have HRcd := Aside0.mk (Kd.C_below HRc.out hB); clear hR tok1 tok1_; have HBd := Aside0.mk (below_step HBc.out hB); have HGd := Aside0.mk ((hB.block _ (blk_lt HGc.out)).trans HGc.out); have HCd := Aside0.mk (Kd.C_below HCc.out hB); clear hB; (try clear hk0 hk1 hk2 hk3 hk4 hk5); have hg_ := HGd.out; have hk0 := (blk_cell hg_ 0).trans rfl; have hk1 := (blk_cell hg_ 1).trans rfl; have hk2 := (blk_cell hg_ 2).trans rfl; have hk3 := (blk_cell hg_ 3).trans rfl; have hk4 := (blk_cell hg_ 4).trans rfl; have hk5 := (blk_cell hg_ 5).trans rfl; clear hg_)
    | (go_at_call 13; refine (Decoded_calls _ (HGE.out.below HBd.out) Ad cd tot HBY.out HTL.out HRd.out.2.2 HRd.out.2.1 4 (some (mkL b0 b1 b2 xs st m)) HU.out).mono ?_; intro e we hd; obtain ⟨v2, rfl, hR, hB⟩ := HDP.out _ _ _ hd; clear hd; obtain ⟨AX, cX, rfl⟩ := Kd.R_slice hR; have HX0 := Aside0.mk (Kd.R_reads' hR); have HRce := Aside0.mk (Kd.C_below HRcd.out hB); clear hR; have hB1 := below_then hB hB.size (below_alloc (Below.refl we.heap.size we) (.cells #[.bool k0, .bool k1, .bool k2, .slice AX xh.length cX, .string sx, .int .u64 zx] 27)); have HY0 := Aside0.mk (blk_new we (.cells #[.bool k0, .bool k1, .bool k2, .slice AX xh.length cX, .string sx, .int .u64 zx] 27)); have HX1 := Aside0.mk (Kd.C_alloc HX0.out.2.2 (.cells #[.bool k0, .bool k1, .bool k2, .slice AX xh.length cX, .string sx, .int .u64 zx] 27)); have HRcf := Aside0.mk (Kd.C_alloc HRce.out (.cells #[.bool k0, .bool k1, .bool k2, .slice AX xh.length cX, .string sx, .int .u64 zx] 27)); have HBf := Aside0.mk (below_step HBd.out hB1); have HGf := Aside0.mk ((hB1.block _ (blk_lt HGd.out)).trans HGd.out); have HCf := Aside0.mk (Kd.C_below HCd.out hB1); have hlt := blk_lt ((hB.block _ (blk_lt HGd.out)).trans HGd.out); have hne : (w.heap.size = we.heap.size) = False := eq_false (by omega); have tok2 : True := trivial; clear hB hB1; (try clear hk0 hk1 hk2 hk3 hk4 hk5);  have hg_ := (HGf.out); have hk0 := (blk_cell hg_ 0).trans rfl; have hk1 := (blk_cell hg_ 1).trans rfl; have hk2 := (blk_cell hg_ 2).trans rfl; have hk3 := (blk_cell hg_ 3).trans rfl; have hk4 := (blk_cell hg_ 4).trans rfl; have hk5 := (blk_cell hg_ 5).trans rfl; clear hg_)
    | (go_at_call 19; have tok2_ := tok2; refine (PbLinkBytes_calls _ b0 b1 b2 A0 cp xs st m HCf.out HN.out (by have := H1.out; omega) (by have := H2.out; omega) HM.out).mono ?_; rintro e wg ⟨vg, rfl, hR, hB⟩; rw [← TL.out] at hR; obtain ⟨Ag, cg, rfl⟩ := Kd.R_slice hR; have HRg := Aside0.mk (Kd.R_reads' hR); have HRcg := Aside0.mk (Kd.C_below HRcf.out hB); have HX2 := Aside0.mk (Kd.C_below HX1.out hB); have HY2 := Aside0.mk ((hB.block _ (blk_lt HY0.out)).trans HY0.out); clear hR tok2 tok2_; have HBg := Aside0.mk (below_step HBf.out hB); have HGg := Aside0.mk ((hB.block _ (blk_lt HGf.out)).trans HGf.out); have HCg := Aside0.mk (Kd.C_below HCf.out hB); clear hB; (try clear hk0 hk1 hk2 hk3 hk4 hk5); have hg_ := HGg.out; have hk0 := (blk_cell hg_ 0).trans rfl; have hk1 := (blk_cell hg_ 1).trans rfl; have hk2 := (blk_cell hg_ 2).trans rfl; have hk3 := (blk_cell hg_ 3).trans rfl; have hk4 := (blk_cell hg_ 4).trans rfl; have hk5 := (blk_cell hg_ 5).trans rfl; clear hg_)
    | (go_at_call 20; refine (spec_SameBytes.calls (some ⟨gb, 0, none⟩) cap tot Ag cg tot true _ HRcg.out HNc.out HRg.out.2.2 HRg.out.2.1 (same_reflM _)).mono ?_; rintro e wh ⟨rfl, hD⟩; have hB := hD.below; clear hD; have HX3 := Aside0.mk (Kd.C_below HX2.out hB); have hy_ := (hB.block _ (blk_lt HY2.out)).trans HY2.out; have hy0 := (blk_cell hy_ 0).trans rfl; have hy1 := (blk_cell hy_ 1).trans rfl; have hy2 := (blk_cell hy_ 2).trans rfl; have hy3 := (blk_cell hy_ 3).trans rfl; have hy4 := (blk_cell hy_ 4).trans rfl; have hy5 := (blk_cell hy_ 5).trans rfl; clear hy_; have HBh := Aside0.mk (below_step HBg.out hB); have HGh := Aside0.mk ((hB.block _ (blk_lt HGg.out)).trans HGg.out); have HCh := Aside0.mk (Kd.C_below HCg.out hB); clear hB; (try clear hk0 hk1 hk2 hk3 hk4 hk5); have hg_ := HGh.out; have hk0 := (blk_cell hg_ 0).trans rfl; have hk1 := (blk_cell hg_ 1).trans rfl; have hk2 := (blk_cell hg_ 2).trans rfl; have hk3 := (blk_cell hg_ 3).trans rfl; have hk4 := (blk_cell hg_ 4).trans rfl; have hk5 := (blk_cell hg_ 5).trans rfl; clear hg_)
    | (go_at_call 15; refine (spec_PbSameLink.calls k0 k1 k2 AX cX xh sx zx b0 b1 b2 A0 cp xs st (m : Int) true _ HX3.out HX0.out.2.1 HCh.out HN.out HSL.out).mono ?_; rintro e wi ⟨rfl, hB⟩; have HBi := Aside0.mk (below_step HBh.out hB); clear hB)
    | (go_at_call 12; refine (pbAwake_calls _).mono ?_; rintro e wj ⟨rfl, hB⟩; have HBj := Aside0.mk (below_step HBi.out hB); clear hB))
  go_ret
  exact ⟨rfl, HBj.out⟩
end
theorem write_walk (b0 b1 b2 : Bool) (a0 : Option Addr) (len0 cap0 : Nat) (z0 : List Int) (st : ByteArray) (z : Int) (w : World) (hz : (Lit.int .u64 z).wf = true) (w0 : (a0 = none ∧ len0 = 0 ∧ cap0 = 0 ∧ z0 = []) ∨ ∃ x, a0 = some x ∧ len0 ≤ cap0 ∧ cap0 ≤ maxLen ∧ z0.length = cap0 ∧ (∀ i, i < z0.length → w.cell? (x.add i) = some (.int .u8 (z0.getD i 0))) ∧ ∀ n ∈ z0, (Lit.int .u8 n).wf = true) (g0 : ∃ T X, w.cell? ⟨0, 0, none⟩ = some (.iface T X)) (g1 : ∃ T X, w.cell? ⟨1, 0, none⟩ = some (.iface T X)) (g2 : ∃ T X, w.cell? ⟨2, 0, none⟩ = some (.iface T X)) :
    Calls Tryd.prog 4 #[.agg #[.bool b0, .bool b1, .bool b2, .slice a0 len0 cap0, .string st, .int .u64 z]] w fun e w' => e = .returned (.bool true) ∧ Below w.heap.size w w' := by
  obtain ⟨xs, rfl, hr0, hm0, hw0, hc0⟩ := ReadsInt.ofRowC w0
  have hb : ∀ x ∈ xs, 0 ≤ x ∧ x ≤ 255 := fun x hx => by
    have := hw0 x hx
    simp [Lit.wf, IntKind.bits, IntKind.signed, IntKind.min, IntKind.max] at this
    omega
  have hC : Kd.C (Kd.int .u8) w a0 xs.length xs := Kd.C_of_reads (d := (0 : Int)) (h1 := fun _ => rfl) hr0
  simp [Lit.wf, IntKind.bits, IntKind.signed, IntKind.min, IntKind.max] at hz
  obtain ⟨m, rfl⟩ : ∃ m : Nat, z = (m : Int) := ⟨z.toNat, by omega⟩
  have hm : m < 2 ^ 64 := by omega
  have hF := fits_eq b0 b1 b2 xs st (m : Int)
  by_cases h : xs.length ≤ 2147483647 ∧ st.size ≤ 2147483647
  · rw [decide_eq_true h] at hF
    have hS := small_eq b0 b1 b2 xs st (m : Int)
    by_cases h2 : xs.length ≤ 100 ∧ st.size ≤ 100
    · rw [decide_eq_true h2] at hS
      exact law4_small w b0 b1 b2 a0 cap0 xs st m hC hc0 ⟨g0, g1, g2⟩ hb hm h2.1 h2.2 hF hS
    · rw [decide_eq_false h2] at hS
      exact law4_mid w b0 b1 b2 a0 cap0 xs st m hC hc0 hF hS
  · rw [decide_eq_false h] at hF
    exact law4_big w b0 b1 b2 a0 cap0 xs st m hC hc0 hF
end Go.Proofs.YtnhnlodmkbiiiaaDoor.HandPb
