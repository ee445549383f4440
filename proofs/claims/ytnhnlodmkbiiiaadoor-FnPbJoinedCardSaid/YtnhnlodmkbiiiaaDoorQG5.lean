/- The fixed example of the laws on messages of merkledag is told as it is: its bytes by Marshal, walked at one byte of data. -/
import Derived.Test.YtnhnlodmkbiiiaaDoorQJA
import Derived.Lib.SlBytesConst
import Derived.Test.YtnhnlodmkbiiiaaDoorQPPbSharex0
import Derived.Test.YtnhnlodmkbiiiaaDoorQPPbSharex1
import Derived.Test.YtnhnlodmkbiiiaaDoorQPPbSharex2
import Derived.Test.YtnhnlodmkbiiiaaDoorQPPbSharex3
import Derived.Test.YtnhnlodmkbiiiaaDoorQPPbSharex4
import Derived.Test.YtnhnlodmkbiiiaaDoorQPPbSharex7
import Derived.Test.YtnhnlodmkbiiiaaDoorQPPbSharex8
import Derived.Test.YtnhnlodmkbiiiaaDoorQPPbSharex9
namespace Go.Proofs.YtnhnlodmkbiiiaaDoor.HandPb
open Go Go.RowKit Go.Proofs.YtnhnlodmkbiiiaaDoorL Go.Proofs.YtnhnlodmkbiiiaaDoorW.PrintWords Go.Proofs.YtnhnlodmkbiiiaaDoorW.PrintLast Go.Proofs.YtnhnlodmkbiiiaaDoorW.PrintMore Go.Proofs.YtnhnlodmkbiiiaaDoor.HandFields Go.Proofs.YtnhnlodmkbiiiaaDoor.PPbShare
attribute [local go_sem] max2_int min2_int max_two min_two max_three min_three max_four min_four
set_option linter.unusedVariables false
set_option linter.unusedSimpArgs false
theorem sovF_eqM (k v : Nat) (hv : v < 2 ^ 64) : pb_sovMerkledag.f (v : Int) = some ((uv v).length : Int) := by
 unfold pb_sovMerkledag.f
 rw [or1 v hv]
 unfold bits_Len64.f
 have h1 : (v ||| 1) < 2 ^ 64 := (or_one_lt v 64 (by decide)).2 hv
 rw [if_pos (by omega), Option.bind_some, Int.toNat_natCast]
 have hb : Lib.bitLen (v ||| 1) ≤ 64 := by
  unfold Lib.bitLen
  rw [bitLenAux_le 64 _ 64 h1]
  exact h1
 have h2 : wrap64 ((Lib.bitLen (v ||| 1) : Int) + 6) = (Lib.bitLen (v ||| 1) : Int) + 6 := by unfold wrap64; omega
 have h3 := sov_eq v hv
 rw [h2, Int.tdiv_eq_ediv_of_nonneg (by omega)]
 have h4 : ((Lib.bitLen (v ||| 1) : Int) + 6) / 7 = ((uv v).length : Int) := by omega
 rw [h4]
 have h5 := uv_len v hv
 have h6 : wrap64 ((uv v).length : Int) = ((uv v).length : Int) := by unfold wrap64; omega
 rw [h6]
theorem encL_eqM : ∀ (n k : Nat) (xs : List Int) (o v : Nat) (base : Int), v < 128 ^ (n + 1) → v < 2 ^ 64 → o + (uvF n v).length ≤ xs.length → xs.length ≤ 4611686018427387904 → n < k →
  pb_encodeVarintMerkledag.l0 k xs (o : Int) (v : Int) base = some (base, putL xs o (uvF n v))
 | n, k, xs, o, v, base, hv, h64, hl, hx, hk => by
  obtain ⟨k, rfl⟩ : ∃ m, k = m + 1 := ⟨k - 1, by omega⟩
  have hp := uvF_pos n v
  unfold pb_encodeVarintMerkledag.l0
  by_cases h : v < 128
  ·have e : uvF n v = [(v : Int)] := by
    match n with
    | 0 => rfl
    | n + 1 => unfold uvF; rw [if_pos h]
   rw [e] at hl ⊢
   simp only [List.length_singleton] at hl
   rw [if_neg (by omega), if_pos (by omega), if_pos (by omega), Int.toNat_natCast, putL_one _ _ _ (by omega), Int.emod_eq_of_lt (by omega) (by omega)]
  ·match n with
   | 0 => simp at hv; omega
   | n + 1 =>
    have e : uvF (n + 1) v = ((v % 128 + 128 : Nat) : Int) :: uvF n (v / 128) := by
     conv => { lhs; unfold uvF }
     rw [if_neg h]
    rw [e] at hl ⊢
    simp only [List.length_cons] at hl
    have hpp := uvF_pos n (v / 128)
    have hw : wrap64 ((o : Int) + 1) = ((o + 1 : Nat) : Int) := by unfold wrap64; omega
    rw [if_pos (by omega), if_pos (by omega), if_pos (by omega), byte_eq v h64, Int.toNat_natCast, hw, show ((v : Int) / 128) = ((v / 128 : Nat) : Int) by omega]
    rw [encL_eqM n k (xs.set o _) (o + 1) (v / 128) base (by rw [Nat.div_lt_iff_lt_mul (by decide), ← Nat.pow_succ]; exact hv) (by omega) (by rw [List.length_set]; omega) (by rw [List.length_set]; exact hx) (by omega), putL_cons _ _ _ _ (by omega)]
theorem encF_eqM (xs : List Int) (o v : Nat) (h64 : v < 2 ^ 64) (ho : (uv v).length ≤ o) (hox : o ≤ xs.length) (hx : xs.length ≤ 4611686018427387904) :
  pb_encodeVarintMerkledag.f 20 xs (o : Int) (v : Int) = some (((o - (uv v).length : Nat) : Int), putL xs (o - (uv v).length) (uv v)) := by
 unfold pb_encodeVarintMerkledag.f
 rw [sovF_eqM 0 v h64, Option.bind_some]
 have hw : wrap64 ((o : Int) - ((uv v).length : Int)) = ((o - (uv v).length : Nat) : Int) := by unfold wrap64; omega
 rw [hw]
 exact encL_eqM 10 20 xs _ v _ (Nat.lt_of_lt_of_le h64 (by decide)) h64 (by show _ + (uv v).length ≤ _; omega) hx (by decide)
theorem enc_callsM (w0 w : World) (g cap : Nat) (xs : List Int) (hh : Array Obj) (hb : Buf w0 w g cap xs hh) (o v : Nat) (h64 : v < 2 ^ 64) (ho : (uv v).length ≤ o) (hox : o ≤ xs.length) (hx : xs.length ≤ 4611686018427387904) :
  Calls Tryd.prog 118 #[.slice (some ⟨g, 0, none⟩) xs.length cap, .int .i64 (o : Int), .int .u64 (v : Int)] w fun e w' => e = .returned (.int .i64 ((o - (uv v).length : Nat) : Int)) ∧ Buf w0 w' g cap (putL xs (o - (uv v).length) (uv v)) hh := by
 refine (pb_encodeVarintMerkledag.calls 20 (fun k => k = g) (.slice (some ⟨g, 0, none⟩) xs.length cap) xs (o : Int) (v : Int) _ _ w0 w hb.below hb.row (encF_eqM xs o v h64 ho hox hx)).mono ?_
 rintro e w' ⟨rfl, hR, hB, hK⟩
 refine ⟨rfl, ?_, hB, fun k o hk hne => (hK.2 k (blk_lt (hb.oth k o hk hne)) hne).trans (hb.oth k o hk hne)⟩
 have hl : (putL xs (o - (uv v).length) (uv v)).length = xs.length := putL_len _ _ _ (by omega)
 rw [hl]
 exact ⟨fun k hk => by simpa [Value.ownBlock] using hk.symm, hR.2⟩
theorem sov_callsM (v : Nat) (hv : v < 2 ^ 64) (w : World) : Calls Tryd.prog 96 #[.int .u64 (v : Int)] w fun e w' => e = .returned (.int .i64 ((uv v).length : Int)) ∧ w' = w := by
 have h0 := sovF_eqM 0 v hv
 obtain ⟨y, hy⟩ : ∃ y, y = Go.bits .or .u64 (v : Int) 1 := ⟨_, rfl⟩
 have hy2 : y = ((v ||| 1 : Nat) : Int) := by rw [hy, or1 v hv]
 have h1 : (v ||| 1) < 2 ^ 64 := (or_one_lt v 64 (by decide)).2 hv
 have hb : Lib.bitLen (v ||| 1) ≤ 64 := by
  unfold Lib.bitLen
  rw [bitLenAux_le 64 _ 64 h1]
  exact h1
 obtain ⟨L, hL⟩ : ∃ L : Nat, L = Lib.bitLen (v ||| 1) := ⟨_, rfl⟩
 have h3 := sov_eq v hv
 rw [← hL] at h3 hb
 obtain ⟨x1, hx1⟩ : ∃ x : Int, wrap64 ((L : Int) + 6) = x := ⟨_, rfl⟩
 have hx1w : IntKind.i64.wrap ((L : Int) + 6) = x1 := (i64_w _).trans hx1
 have hx1e : x1 = (L : Int) + 6 := by rw [← hx1]; unfold wrap64; omega
 obtain ⟨x2, hx2⟩ : ∃ x : Int, wrap64 (Int.tdiv x1 7) = x := ⟨_, rfl⟩
 have hx2w : IntKind.i64.wrap (Int.tdiv x1 7) = x2 := (i64_w _).trans hx2
 have hx2e : x2 = ((uv v).length : Int) := by
  rw [← hx2, hx1e, Int.tdiv_eq_ediv_of_nonneg (by omega)]
  have h4 : ((L : Int) + 6) / 7 = ((uv v).length : Int) := by omega
  have h5 := uv_len v hv
  rw [h4]; unfold wrap64; omega
 have HL := Aside0.mk hL
 have HY := Aside0.mk hy2
 have HX := Aside0.mk hx2e
 have H1 := Aside0.mk h1
 have hyy := hy.symm
 clear h0 hy hy2 h1 hb hL h3 hx1e hx2e hv
 go_enter Tryd.func96, Tryd.ntmps96
 go_wp2_with (go_at_call 119; refine (Tryd.bits_Len64 y w (by rw [HY.out]; omega) (by rw [HY.out]; have := H1.out; omega)).mono ?_; rintro e w1 ⟨rfl, rfl⟩; rw [show (Lib.bitLen y.toNat) = L by rw [HL.out, HY.out]; rfl])
 go_ret
 exact ⟨by first | (rw [← HX.out]; rfl) | (simp [HX.out]), rfl⟩
theorem St_encM {w0 W : World} {gb n cap : Nat} {hh : Array Obj} {i : Nat} {s : List Int} (h : St w0 W gb n cap hh i s) (v : Nat) (h64 : v < 2 ^ 64) (ho : (uv v).length ≤ i) (hx : n ≤ 4611686018427387904) :
  Calls Tryd.prog 118 #[.slice (some ⟨gb, 0, none⟩) n cap, .int .i64 (i : Int), .int .u64 (v : Int)] W fun e w' => e = .returned (.int .i64 ((i - (uv v).length : Nat) : Int)) ∧ St w0 w' gb n cap hh (i - (uv v).length) (uv v ++ s) := by
 have hle := h.le
 obtain ⟨xs, hb, rfl, hs⟩ := h
 refine (enc_callsM w0 W gb cap xs hh hb i v h64 ho (by omega) hx).mono ?_
 rintro e w' ⟨rfl, hb'⟩
 exact ⟨rfl, _, hb', putL_len _ _ _ (by omega), hs.put _ ho⟩
/-- A node with one byte of data, in memory. -/
structure RdN (W : World) (g : Nat) (A : Addr) (c : Nat) : Prop where
 blk : W.heap[g]? = some (.cells #[.slice none 0 0, .slice (some A) 1 c, .slice none 0 0, .int .i32 0] 112 (0, 0))
 row : Kd.C (Kd.int .u8) W (some A) 1 [97]
theorem RdN.below {W W1 : World} {g : Nat} {A : Addr} {c : Nat} (h : RdN W g A c) (hb : Below W.heap.size W W1) : RdN W1 g A c :=
 ⟨(hb.block _ (blk_lt h.blk)).trans h.blk, Kd.C_below h.row hb⟩
theorem uv1 : uv 1 = [1] := by decide
set_option maxHeartbeats 8000000 in
set_option maxRecDepth 100000 in
theorem Size_node (w : World) (g : Nat) (A : Addr) (c : Nat) (h : RdN w g A c) :
  Calls Tryd.prog 90 #[.pointer (some ⟨g, 0, none⟩)] w fun e w' => e = .returned (.int .i64 3) ∧ w' = w := by
 have hc0 := (blk_cell h.blk 0).trans rfl
 have hc1 := (blk_cell h.blk 1).trans rfl
 have hc2 := (blk_cell h.blk 2).trans rfl
 have n0 : ∀ W : World, (binOp .neq 22 (.slice (some A) 1 c) (.slice none 0 0)).run Tryd.prog W = .ok (.bool true) W := fun W => run_neq_slice_nil' W 22 5 (some A) 1 c 0 0 Tryd.underlying22
 have n1 : ∀ W : World, (binOp .neq 22 (.slice none 0 0) (.slice none 0 0)).run Tryd.prog W = .ok (.bool false) W := fun W => run_neq_slice_nil' W 22 5 none 0 0 0 0 Tryd.underlying22
 clear h
 go_enter Tryd.func90, Tryd.ntmps90
 go_wp2_with (go_at_call 96; refine (sov_callsM 1 (by decide) w).mono ?_; rintro e w1 ⟨rfl, hw⟩; rw [hw]; clear hw; rw [uv1])
 go_ret
 exact ⟨rfl, rfl⟩
theorem encM1 {w0 W : World} {gb cap : Nat} {hh : Array Obj} (h : St w0 W gb 3 cap hh 2 [97]) : Calls Tryd.prog 118 #[.slice (some ⟨gb, 0, none⟩) 3 cap, .int .i64 2, .int .u64 1] W fun e w' => e = .returned (.int .i64 1) ∧ St w0 w' gb 3 cap hh 1 [1, 97] := by
 have := St_encM h 1 (by decide) (by rw [uv1]; decide) (by decide)
 rw [uv1] at this
 exact this
set_option maxHeartbeats 8000000 in
set_option maxRecDepth 100000 in
theorem Mts_node (w0 w : World) (g : Nat) (A : Addr) (c : Nat) (h : RdN w0 g A c) (gb cap : Nat) (hh : Array Obj) (hst : St w0 w gb 3 cap hh 3 []) (hnc : 3 ≤ cap) :
  Calls Tryd.prog 117 #[.pointer (some ⟨g, 0, none⟩), .slice (some ⟨gb, 0, none⟩) 3 cap] w fun e w' => e = .returned (.tuple #[.int .i64 3, .nilIface]) ∧ St w0 w' gb 3 cap hh 0 [10, 1, 97] := by
 have RD := Aside0.mk h
 have HS0 := Aside0.mk hst
 have HNC := Aside0.mk hnc
 obtain ⟨i05, hi05, hsz5⟩ : ∃ i, Tryd.prog.info? 5 = some i ∧ i.size = 1 := Option.map_eq_some_iff.1 info5s
 have hcut := cut_from (P := Tryd.prog) 22 5 .i64 Tryd.underlying22 hi05 1 hsz5 (some ⟨gb, 0, none⟩) 3 cap (2 : Int) (by omega) (by omega)
 obtain ⟨DD, hDD⟩ : ∃ D_, D_ = (if cap = (2 : Int).toNat then some (⟨gb, 0, none⟩ : Addr) else Option.map (fun x : Addr => x.add ((2 : Int).toNat * 1)) (some ⟨gb, 0, none⟩)) := ⟨_, rfl⟩
 rw [← hDD] at hcut
 have HDD := Aside0.mk hDD
 have hc0 := (blk_cell (h.below hst.below).blk 0).trans rfl
 have hc1 := (blk_cell (h.below hst.below).blk 1).trans rfl
 have hc2 := (blk_cell (h.below hst.below).blk 2).trans rfl
 have n0 : ∀ W : World, (binOp .neq 22 (.slice (some A) 1 c) (.slice none 0 0)).run Tryd.prog W = .ok (.bool true) W := fun W => run_neq_slice_nil' W 22 5 (some A) 1 c 0 0 Tryd.underlying22
 have n1 : ∀ W : World, (binOp .neq 22 (.slice none 0 0) (.slice none 0 0)).run Tryd.prog W = .ok (.bool false) W := fun W => run_neq_slice_nil' W 22 5 none 0 0 0 0 Tryd.underlying22
 clear h hst hnc hDD hi05 hsz5
 go_enter Tryd.func117, Tryd.ntmps117
 go_wp2_with fail
 go_still_tail 7, (by kernel_rfl)
 change wpList _ _ _ _ _ w.drew
 go_wp2_with (first
  | ((with_reducible refine gate_builtin (b := .copy) (xs := #[.tmp 49, .tmp 53]) rfl ?_); refine (HS0.out.drew).copy rfl (.tmp 49) (.tmp 53) rfl [97] (some A) 1 c DD 1 (cap - 2) rfl rfl rfl (Kd.C_drew (Kd.C_below RD.out.row HS0.out.below)) (fun hp => by rw [HDD.out]; exact cut_at (i := 3) (m := 1) (n := 3) (by decide) hp (by decide) HNC.out) (Nat.le_refl _) (by decide) ?_; intro wc hS; have HS1 : Aside0 (St w0 wc gb 3 cap hh 2 [97]) := Aside0.mk hS; clear hS hc0 hc1 hc2; have hc0 := (blk_cell (RD.out.below HS1.out.below).blk 0).trans rfl; have hc1 := (blk_cell (RD.out.below HS1.out.below).blk 1).trans rfl; have hc2 := (blk_cell (RD.out.below HS1.out.below).blk 2).trans rfl)
  | (go_at_call 118; with_reducible refine (encM1 HS1.out).mono ?_; rintro e wa ⟨rfl, hS⟩; have HSa := Aside0.mk hS; obtain ⟨_, hx, hf⟩ := hS.cell 0 (by omega); clear hS hc0 hc1 hc2; have hc0 := (blk_cell (RD.out.below HSa.out.below).blk 0).trans rfl; have hc1 := (blk_cell (RD.out.below HSa.out.below).blk 1).trans rfl; have hc2 := (blk_cell (RD.out.below HSa.out.below).blk 2).trans rfl)
  | ((with_reducible refine gate_store (t := 5) (p := 68) rfl ?_); refine store_event (t := 5) (p := 68) (v := ?vo) (w1 := (wa.setCell ⟨gb, 0, none⟩ (.int .u8 10))) ?hg ?ho ?hn ?hr ?_; (case ho => rfl); (case hg => rfl); (case hn => rfl); (case hr => first | (go_simp; done) | (go_simp; rfl)); intro wb hw; have HSb : Aside0 (St w0 wb gb 3 cap hh 0 [10, 1, 97]) := ⟨by rw [hw]; exact HSa.out.put (by decide) 10⟩; clear hw hx hf hc0 hc1 hc2; have hc0 := (blk_cell (RD.out.below HSb.out.below).blk 0).trans rfl; have hc1 := (blk_cell (RD.out.below HSb.out.below).blk 1).trans rfl; have hc2 := (blk_cell (RD.out.below HSb.out.below).blk 2).trans rfl))
 go_ret2
 exact ⟨rfl, HSb.out⟩
set_option maxHeartbeats 8000000 in
set_option maxRecDepth 100000 in
theorem Mar_node (w : World) (g : Nat) (A : Addr) (c : Nat) (h : RdN w g A c) :
  Calls Tryd.prog 89 #[.pointer (some ⟨g, 0, none⟩)] w fun e w' => ∃ gb cap, e = .returned (.tuple #[.slice (some ⟨gb, 0, none⟩) 3 cap, .nilIface]) ∧ Kd.R (Kd.int .u8) 5 w' w.heap.size (fun k => k = gb) (.slice (some ⟨gb, 0, none⟩) 3 cap) [10, 1, 97] ∧ Below w.heap.size w w' := by
 have RD := Aside0.mk h
 obtain ⟨i05, hi05, hsz5⟩ : ∃ i, Tryd.prog.info? 5 = some i ∧ i.size = 1 := Option.map_eq_some_iff.1 info5s
 have HI5 := Aside0.mk hi05
 have I5 := Aside0.mk info5e
 clear h hi05 hsz5
 go_enter Tryd.func89, Tryd.ntmps89
 go_wp2_with (first
  | (go_at_call 90; refine (Size_node w g A c RD.out).mono ?_; rintro e w1 ⟨rfl, hw⟩; rw [hw]; clear hw)
  | (refine Kd.R_make (Kd.int .u8) w.heap.size 5 rfl (N := 9) rfl 22 _ _ rfl (3 : Int) rfl rfl Tryd.underlying22 (.int .u8 0) 1 I5.out rfl (by decide) (by decide) 0 (ok := fun k => k = w.heap.size) (okp := fun _ => False) rfl (fun _ hk => hk.elim) rfl (by omega) (by omega) (Below.refl _ _) (Nat.le_refl _) ?_; intro v1 w2 ho hb hgr hnew; clear hnew hgr; generalize hxs : List.replicate (3 : Int).toNat (0 : Int) = zs at ho; have hzl : zs.length = 3 := (by rw [← hxs]; simp); clear hxs; obtain ⟨gb, cap, rfl, hge, hlt, hnc, hR⟩ := made_buf ho (by omega); rw [hzl] at hnc hR ⊢; have HNC := Aside0.mk hnc; have HS0 := Aside0.mk (zst hR hzl hb); have hcut := cut_to (P := Tryd.prog) 22 5 .i64 Tryd.underlying22 HI5.out (some ⟨gb, 0, none⟩) 3 cap (3 : Int) (by omega) (by omega) hnc; have hlc : (3 : Int) ≤ (cap : Int) := (by omega); clear hzl ho hb hge hlt hR hnc)
  | (go_at_call 117; refine (Mts_node w _ g A c RD.out gb cap w.heap HS0.out HNC.out).mono ?_; rintro e w3 ⟨rfl, hS⟩; have HS1 := Aside0.mk hS; clear hS))
 go_ret2
 have hB := HS1.out.all
 exact ⟨gb, cap, rfl, hB.row, hB.below⟩
set_option maxHeartbeats 8000000 in
set_option maxRecDepth 100000 in
theorem pbNode_calls (w : World) (A0 : Option Addr) (c0 : Nat) (h : Kd.C (Kd.int .u8) w A0 1 [97]) :
  Calls Tryd.prog 88 #[.agg #[.bool true, .slice A0 1 c0, .slice none 0 0]] w fun e w' => ∃ g A c, e = .returned (.pointer (some ⟨g, 0, none⟩)) ∧ RdN w' g A c ∧ Below w.heap.size w w' := by
 have HR0 := Aside0.mk h
 clear h
 have HB0 := Aside0.mk (below_alloc (below_alloc (Below.refl w.heap.size w) (.cells #[.bool true, .slice A0 1 c0, .slice none 0 0] 36)) (.cells #[.slice none 0 0, .slice none 0 0, .slice none 0 0, .int .i32 0] 112))
 have HS0 : Aside0 (((w.alloc (.cells #[.bool true, .slice A0 1 c0, .slice none 0 0] 36)).alloc (.cells #[.slice none 0 0, .slice none 0 0, .slice none 0 0, .int .i32 0] 112)).heap.size = w.heap.size + 2) := ⟨by rw [size_alloc, size_alloc]⟩
 have I5 := Aside0.mk info5e
 go_enter Tryd.func88, Tryd.ntmps88
 go_wp2_with (first
  | ((with_reducible refine gate_dst (N := 11) rfl ?_); refine Kd.R_lit (Kd.int .u8) (w0 := w) w.heap.size 5 rfl (N := 11) rfl (xs := ([] : List Int)) (inner := []) (ok := fun k => k ≠ w.heap.size + 1) (okp := fun _ => False) ?hr (Reps.none _ _) (fun _ hk => hk.elim) (by rw [HS0.out]; omega) HB0.out (by rw [HS0.out]; omega) (by simp) ?_; (case hr => first | (go_simp; done) | (go_simp; rfl)); intro v1 w1 hR1 hB1 hG1 hat1; have HR1 := Aside0.mk hR1; have HB1 := Aside0.mk hB1; have hz1 := hG1.size; rw [HS0.out] at hz1; have HZ1 := Aside0.mk hz1; have hg0 := (hG1.block w.heap.size (by rw [HS0.out]; omega) (by simp)).trans (heap2_0 w _ _); have hg1 := (hG1.block (w.heap.size + 1) (by rw [HS0.out]; omega) (by simp)).trans (heap2_1 w _ _); have HG0 := Aside0.mk hg0; have HG1 := Aside0.mk hg1; have hc0 := (blk_cell hg0 0).trans rfl; have hc1 := (blk_cell hg0 1).trans rfl; have hc2 := (blk_cell hg0 2).trans rfl; clear hR1 hB1 hG1 hat1 hz1 hg0 hg1)
  | ((with_reducible refine gate_builtin (b := .append) (xs := #[.tmp 11, .tmp 13]) rfl ?_); at_builtin; refine Kd.R_append_rows (Kd.int .u8) (Rr := fun x cs => cs = [Value.int .u8 x]) (w0 := w) w.heap.size rfl (.tmp 11) (.tmp 13) 22 5 (.int .u8 0) 1 rfl Tryd.underlying22 I5.out rfl (by decide) (by decide) v1 [] [97] A0 1 c0 (fun k => k ≠ w.heap.size + 1) (fun _ => False) rfl rfl HR1.out (Kd.C_below HR0.out HB1.out) (fun x cs hx => hx) (fun _ hk => hk.elim) (fun k hk => by have := HZ1.out; omega) HB1.out (by have := HZ1.out; omega) (by decide) ?_; intro v2 w2 hR2 hB2 hG2 hat2; rw [List.nil_append] at hR2; obtain ⟨g2, c2, e2, _⟩ := Kd.R_form hR2 (by decide); replace e2 : v2 = .slice (some ⟨g2, 0, none⟩) 1 c2 := e2; subst e2; have HR2 := Aside0.mk hR2; have HB2 := Aside0.mk hB2; have hg0 := (hG2.block w.heap.size (blk_lt HG0.out) (Kd.R_ne HR1.out HG0.out (by decide))).trans HG0.out; have hg1 := (hG2.block (w.heap.size + 1) (blk_lt HG1.out) (Kd.R_ne HR1.out HG1.out (by decide))).trans HG1.out; clear hc0 hc1 hc2; have hc0 := (blk_cell hg0 0).trans rfl; have hc1 := (blk_cell hg0 1).trans rfl; have hc2 := (blk_cell hg0 2).trans rfl; have hd1 := (blk_cell hg1 1).trans rfl; have hdf := blk_frozen hg1 1; have HG0 := Aside0.mk hg0; have HG1 := Aside0.mk hg1; clear hR2 hB2 hG2 hat2 hg0 hg1))
 refine wp_loop_rounds 1 ?_
 rw [rounds_succ]
 go_wp2
 go_ret
 refine ⟨w.heap.size + 1, ⟨g2, 0, none⟩, c2, rfl, ⟨blk_put HG1.out 1 _ rfl, ?_⟩, below_set HB2.out (Nat.le_succ _)⟩
 exact (Kd.R_reads' (Kd.R_step HR2.out (fun k ho hk => Below.heap_setCell w2 ⟨w.heap.size + 1, 1, none⟩ _ k (by simpa using ho)))).2.2
set_option maxHeartbeats 8000000 in
set_option maxRecDepth 100000 in
theorem PbEncoded_one (w : World) (A0 : Option Addr) (c0 : Nat) (h : Kd.C (Kd.int .u8) w A0 1 [97]) :
  Calls Tryd.prog 49 #[.agg #[.bool true, .slice A0 1 c0, .slice none 0 0]] w fun e w' => ∃ gb cap, e = .returned (.tuple #[.slice (some ⟨gb, 0, none⟩) 3 cap, .int .i64 3, .bool true]) ∧ Kd.C (Kd.int .u8) w' (some ⟨gb, 0, none⟩) 3 [10, 1, 97] ∧ 3 ≤ cap ∧ Below w.heap.size w w' := by
 have HR0 := Aside0.mk (Kd.C_alloc h (.cells #[.bool true, .slice A0 1 c0, .slice none 0 0] 36))
 have HB0 := Aside0.mk (below_alloc (Below.refl w.heap.size w) (.cells #[.bool true, .slice A0 1 c0, .slice none 0 0] 36))
 clear h
 go_enter Tryd.func49, Tryd.ntmps49
 go_wp2_with (first
  | (go_at_call 88; refine (pbNode_calls _ A0 c0 HR0.out).mono ?_; rintro e w1 ⟨g, A, c, rfl, hN, hB⟩; have HN1 := Aside0.mk hN; have HB1 := Aside0.mk (below_step HB0.out hB); clear hN hB)
  | (go_at_call 89; refine (Mar_node _ g A c HN1.out).mono ?_; rintro e w2 ⟨gb, cap, rfl, hR, hB⟩; have HR2 := Aside0.mk (Kd.R_reads' (xs := [10, 1, 97]) hR); have HN2 := Aside0.mk (HN1.out.below hB); have HB2 := Aside0.mk (below_step HB1.out hB); clear hR hB)
  | (go_at_call 90; refine (Size_node _ g A c HN2.out).mono ?_; rintro e w3 ⟨rfl, hw⟩; rw [hw]; clear hw))
 go_ret3
 exact ⟨gb, cap, rfl, HR2.out.2.2, HR2.out.2.1, HB2.out⟩
theorem C_one (W : World) (g : Nat) (a : Int) (t : TypeId) (fz : Nat × Nat) (h : W.heap[g]? = some (.cells #[.int .u8 a] t fz)) : Kd.C (Kd.int .u8) W (some ⟨g, 0, none⟩) 1 [a] := by
 refine Kd.C_of_reads (d := (0 : Int)) ⟨rfl, by decide, fun _ => ⟨⟨g, 0, none⟩, rfl, fun i hi => ?_⟩⟩
 have h0 := fun j => cell_of_row W g j _ t fz h
 match i, hi with
 | 0, _ => exact h0 0
theorem C_three (W : World) (g : Nat) (a b c : Int) (t : TypeId) (fz : Nat × Nat) (h : W.heap[g]? = some (.cells #[.int .u8 a, .int .u8 b, .int .u8 c] t fz)) : Kd.C (Kd.int .u8) W (some ⟨g, 0, none⟩) 3 [a, b, c] := by
 refine Kd.C_of_reads (d := (0 : Int)) ⟨rfl, by decide, fun _ => ⟨⟨g, 0, none⟩, rfl, fun i hi => ?_⟩⟩
 have h0 := fun j => cell_of_row W g j _ t fz h
 match i, hi with
 | 0, _ => exact h0 0
 | 1, _ => exact h0 1
 | 2, _ => exact h0 2
theorem same_reflM (l : List Int) : spec_SameBytes.f l l = some true := by unfold spec_SameBytes.f; rw [beq_self_eq_true]
set_option maxHeartbeats 8000000 in
set_option maxRecDepth 100000 in
theorem pbAwake_calls (w : World) : Calls Tryd.prog 12 #[] w fun e w' => e = .returned (.bool true) ∧ Below w.heap.size w w' := by
 have kc := fun (w : World) (C : Array Value) (n c : Nat) => Lib.run_convert_bytes_const (P := Tryd.prog) w 22 5 C n c Tryd.underlying22 Tryd.underlying5
 have HB0 := Aside0.mk (below_alloc (Below.refl w.heap.size w) (.cells #[.int .u8 97] 5 (1, 2)))
 go_enter Tryd.func12, Tryd.ntmps12
 go_wp2_with (first
  | (go_at_call 49; refine (PbEncoded_one _ (some ⟨w.heap.size, 0, none⟩) 1 (C_one _ _ _ 5 _ (blk_new w _))).mono ?_; rintro e w1 ⟨gb, cap, rfl, hC, hc, hB⟩; have HC1 := Aside0.mk hC; have HN1 := Aside0.mk hc; have HB1 := Aside0.mk (below_step HB0.out hB); clear hC hc hB)
  | (go_at_call 20; refine (spec_SameBytes.calls (some ⟨gb, 0, none⟩) cap [10, 1, 97] (some ⟨w1.heap.size, 0, none⟩) 3 [10, 1, 97] true _ (Kd.C_alloc HC1.out _) HN1.out (C_three _ _ _ _ _ 5 _ (blk_new w1 _)) (Nat.le_refl _) (same_reflM _)).mono ?_; rintro e w4 ⟨rfl, nd, rfl⟩))
 go_ret
 exact ⟨rfl, pw_below_drewN (below_alloc HB1.out _) _⟩
end Go.Proofs.YtnhnlodmkbiiiaaDoor.HandPb
