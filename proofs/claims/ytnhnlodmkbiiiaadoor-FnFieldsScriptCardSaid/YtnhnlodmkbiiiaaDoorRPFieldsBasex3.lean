/- Printed by a program of this session (it drives the print of the kit, with contracts proved by hand beside): the Go functions of one law as Lean functions, and that the Go code comes to what they say. -/
import Derived.Test.YtnhnlodmkbiiiaaDoorRPFieldsBasex0
namespace Go.Proofs.YtnhnlodmkbiiiaaDoor.PFieldsBase
open Go.RowKit Go.Proofs.YtnhnlodmkbiiiaaDoorL Go.Proofs.YtnhnlodmkbiiiaaDoorW.PrintWords Go.Proofs.YtnhnlodmkbiiiaaDoorW.PrintLast Go.Proofs.YtnhnlodmkbiiiaaDoorW.PrintMore
attribute [local go_sem] max2_int min2_int max_two min_two max_three min_three max_four min_four   -- for this text's walks alone
set_option linter.unusedVariables false
set_option linter.unusedSimpArgs false

-- NOT PRINTED: function 102 (pb_Data_Unmarshal)

-- NOT PRINTED: function 103 (pb_Data_GetData)

-- NOT PRINTED: function 112 (pb_Data_GetFilesize)

-- NOT PRINTED: function 123 (pb_Data_GetType)

-- NOT PRINTED: function 104 (unixfs_size)

-- NOT PRINTED: function 66 (unixfs_DataSize)

-- NOT PRINTED: function 28 (impl_DataSize)

-- NOT PRINTED: function 100 (pb_Uint64)

/-! ### bits_Len64: function 119, by hand -/
-- HAND math/bits.Len64
-- shelf: yes
def bits_Len64.f (a0 : Int) : Option (Int) := if 0 ≤ a0 ∧ a0 ≤ 18446744073709551615 then some (Lib.bitLen a0.toNat : Int) else none
theorem bits_Len64.calls (a0 : Int) (r : Int) (w : World) (h : bits_Len64.f a0 = some r) :
  Calls Tryd.prog 119 #[.int .u64 a0] w fun e w' => e = .returned (.int .i64 r) ∧ Drawn0 w w' := by
 unfold bits_Len64.f at h
 by_cases c : 0 ≤ a0 ∧ a0 ≤ 18446744073709551615
 ·rw [if_pos c] at h
  obtain rfl := Option.some.inj h
  refine (Tryd.bits_Len64 a0 w c.1 c.2).mono ?_
  rintro e w' ⟨rfl, rfl⟩
  exact ⟨rfl, Drawn0.refl _⟩
 ·rw [if_neg c] at h
  exact absurd h (by simp)

/-! ### pb_sovUnixfs: function 129 -/
def pb_sovUnixfs.f (a0 : Int) : Option (Int) := (bits_Len64.f (Go.bits .or .u64 a0 1)).bind fun t108 => (some (wrap64 (Int.tdiv (wrap64 (t108 + 6)) 7)))
set_option maxHeartbeats 8000000 in
set_option maxRecDepth 100000 in
theorem pb_sovUnixfs.calls (a0 : Int) (r : Int) (w : World) (h : pb_sovUnixfs.f a0 = some r) :
  Calls Tryd.prog 129 #[.int .u64 a0] w fun e w' => e = .returned (.int .i64 r) ∧ Drawn0 w w' := by
 have H : ((bits_Len64.f (Go.bits .or .u64 a0 1)).bind fun t108 => (some (wrap64 (Int.tdiv (wrap64 (t108 + 6)) 7)))) = some r := h
 clear h
 replace H := Option.bind_eq_some_iff.mp H
 obtain ⟨t108, A20, H⟩ := H
 replace H : (some (wrap64 (Int.tdiv (wrap64 (t108 + 6)) 7))) = some r := H
 have A2 := Aside0.mk A20
 clear A20
 obtain rfl := Option.some.inj H
 go_enter Tryd.func129, Tryd.ntmps129
 go_wp2_with (first | ((with_reducible refine gate_callee (f := 119) rfl ?_); refine goesL_ (some 5) rfl rfl Tryd.func119 (by kernel_rfl) rfl #[.int .u64 (Go.bits .or .u64 a0 1)] rfl (by (try simp only [List.map_toArray, List.map_cons, List.map_nil]); first | done | rfl | (simp only [List.length_drop, List.length_take]; rfl)) ?_; (with_reducible refine (bits_Len64.calls (Go.bits .or .u64 a0 1) t108 _ A2.out).mono ?_); rintro e w' ⟨rfl, ⟨nd, rfl⟩⟩; refine ⟨_, rfl, ?_⟩))
 go_ret
 exact ⟨by first | rfl | (simp; done) | (simp [*]; done), by repeat (first | exact Drawn0.refl _ | apply Drawn0.step)⟩

-- NOT PRINTED: function 120 (pb_Data_Size)

/-! ### pb_encodeVarintUnixfs: function 130 -/
def pb_encodeVarintUnixfs.l0 : Nat → List Int → Int → Int → Int → Option (Int × List Int)
 | 0, _, _, _, _ => none
 | k + 1, x0, x1, x2, x7 => if x2 ≥ 128 then (if 0 ≤ x1 then (if x1 < (x0.length : Int) then (pb_encodeVarintUnixfs.l0 k (x0.set (x1 : Int).toNat ((Go.bits .or .u64 (Go.bits .and .u64 x2 127) 128) % 256)) (wrap64 (x1 + 1)) (x2 / 128) x7) else (none)) else (none)) else (if 0 ≤ x1 then (if x1 < (x0.length : Int) then (some (x7, (x0.set (x1 : Int).toNat ((x2) % 256)))) else (none)) else (none))
def pb_encodeVarintUnixfs.f (k : Nat) (l0 : List Int) (a1 : Int) (a2 : Int) : Option (Int × List Int) := (pb_sovUnixfs.f a2).bind fun t109 => (pb_encodeVarintUnixfs.l0 k l0 (wrap64 (a1 - t109)) a2 (wrap64 (a1 - t109)))
set_option maxHeartbeats 8000000 in
set_option maxRecDepth 100000 in
theorem pb_encodeVarintUnixfs.calls (k : Nat) (P0_ : Nat → Prop) (u9000_ : Value) (l0 : List Int) (a1 : Int) (a2 : Int) (r1 : Int) (r2 : List Int) (w0 w : World) (hB : Below w0.heap.size w0 w) (ho0 : Kd.R (Kd.int .u8) 5 w w0.heap.size P0_ u9000_ l0) (h : pb_encodeVarintUnixfs.f k l0 a1 a2 = some (r1, r2)) :
  Calls Tryd.prog 130 #[u9000_, .int .i64 a1, .int .u64 a2] w fun e w' => e = .returned (.int .i64 r1) ∧ Kd.R (Kd.int .u8) 5 w' w0.heap.size (fun k_ => (P0_ k_ ∨ w.heap.size ≤ k_)) u9000_ r2 ∧ Below w0.heap.size w0 w' ∧ Kept w w' (fun k_ => P0_ k_) := by
 have HO0 := Aside0.mk (show Kd.R (Kd.int .u8) 5 w w0.heap.size (fun k_ => (P0_ k_ ∨ w.heap.size ≤ k_)) u9000_ l0 from Kd.R_mono ho0 (fun k_ hk => (.inl hk)))
 have HK := Aside0.mk (Kept.refl w (fun k_ => P0_ k_))
 have HW0 := Aside0.mk hB.size
 have HB := Aside0.mk hB
 clear hB
 have H : ((pb_sovUnixfs.f a2).bind fun t109 => (pb_encodeVarintUnixfs.l0 k l0 (wrap64 (a1 - t109)) a2 (wrap64 (a1 - t109)))) = some (r1, r2) := h
 clear h
 replace H := Option.bind_eq_some_iff.mp H
 obtain ⟨t109, A40, H⟩ := H
 replace H : (pb_encodeVarintUnixfs.l0 k l0 (wrap64 (a1 - t109)) a2 (wrap64 (a1 - t109))) = some (r1, r2) := H
 have A4 := Aside0.mk A40
 clear A40
 have H' := Aside0.mk H
 clear H
 go_enter Tryd.func130, Tryd.ntmps130
 go_wp2_with (first | ((with_reducible refine gate_callee (f := 129) rfl ?_); refine goesL_ (some 10) rfl rfl Tryd.func129 (by kernel_rfl) rfl #[.int .u64 a2] rfl (by (try simp only [List.map_toArray, List.map_cons, List.map_nil]); first | done | rfl | (simp only [List.length_drop, List.length_take]; rfl)) ?_; (with_reducible refine (pb_sovUnixfs.calls a2 t109 _ A4.out).mono ?_); rintro e w' ⟨rfl, ⟨nd, rfl⟩⟩; refine ⟨_, rfl, ?_⟩))
 go_loopg [1, 2] k (fun kq v1 v2 w' => ∃ (x0_1 : List Int) (x1_1 : Int) (x2_1 : Int), v1 = .int .i64 x1_1 ∧ v2 = .int .u64 x2_1 ∧ Aside0 (pb_encodeVarintUnixfs.l0 kq x0_1 x1_1 x2_1 (wrap64 (a1 - t109)) = some (r1, r2)) ∧ Aside0 (kq ≤ k) ∧ Aside0 (Kd.R (Kd.int .u8) 5 w' w0.heap.size (fun k_ => (P0_ k_ ∨ w.heap.size ≤ k_)) u9000_ x0_1) ∧ Aside0 (Kept w w' (fun k_ => P0_ k_)) ∧ Aside0 (Below w0.heap.size w0 w'))
 case atStart => exact ⟨(l0), (wrap64 (a1 - t109)), (a2), (by first | rfl | (simp; done) | (simp [*]; done)), (by first | rfl | (simp; done) | (simp [*]; done)), H', ⟨Nat.le_refl _⟩, ⟨by (with_reducible repeat (first | apply Kd.R_alloc | apply Kd.R_drewN | apply Kd.R_drew)); exact HO0.out⟩, ⟨by repeat (first | (with_reducible first | exact HK.out | apply Kept.alloc | apply Kept.drewN | apply Kept.drew) | exact HK.out)⟩, ⟨by repeat (first | (with_reducible first | exact HB.out | apply below_alloc | apply pw_below_drewN | apply below_drew1) | exact HB.out)⟩⟩
 case round =>
  clear H'
  try clear c1
  try clear p2
  obtain ⟨x0_1, x1_1, x2_1, rfl, rfl, HA, HK1, HO_0, HK, HB⟩ := hrel
  cases gk with
  | zero => exact absurd HA.out (by simp [pb_encodeVarintUnixfs.l0])
  | succ k1 =>
   have H := HA.out
   clear HA
   simp only [pb_encodeVarintUnixfs.l0] at H
   by_cases c5 : x2_1 ≥ 128
   ·rw [if_pos c5] at H
    have c5b0 : decide (128 ≤ x2_1) = true := decide_eq_true c5
    clear c5
    by_cases c6 : 0 ≤ x1_1
    ·rw [if_pos c6] at H
     have c6b0 : decide (0 ≤ x1_1) = true := decide_eq_true c6
     clear c6
     by_cases c7 : x1_1 < (x0_1.length : Int)
     ·rw [if_pos c7] at H
      have c7b0 : decide (x1_1 < (x0_1.length : Int)) = true := decide_eq_true c7
      clear c7
      obtain ⟨y110, hy110⟩ : ∃ y_ : List Int, y_ = (x0_1.set (x1_1 : Int).toNat ((Go.bits .or .u64 (Go.bits .and .u64 x2_1 127) 128) % 256)) := ⟨_, rfl⟩
      replace H : (pb_encodeVarintUnixfs.l0 k1 y110 (wrap64 (x1_1 + 1)) (x2_1 / 128) (wrap64 (a1 - t109))) = some (r1, r2) := by first | (rw [hy110]; with_reducible exact H) | (have H2_ := (Option.bind_some _ _).symm.trans H; rw [hy110]; with_reducible exact H2_) | (have H2_ := (Option.bind_some _ _).symm.trans H; with_reducible exact H2_) | with_reducible exact H | (rw [hy110]; exact H) | exact H
      have Ny110 := Aside0.mk hy110
      clear hy110
      have H' := Aside0.mk H
      clear H
      have p8 : 0 ≤ (x1_1 : Int) := of_decide_eq_true (by first | (with_reducible assumption) | assumption)
      have q8 : (x1_1 : Int) < ((x0_1.length : Int) : Int) := of_decide_eq_true (by first | (with_reducible assumption) | assumption)
      obtain ⟨go8, co8, eo8, gb8, gl8, cl8, HG8⟩ := Kd.R_form HO_0.out (by omega)
      (first | cases eo8 | (injection eo8 with ea_ en_ ec_; (first | subst ea_ | (injection ea_ with ea_; subst ea_)); subst ec_; clear en_))
      have GB8 := Aside0.mk gb8
      have GG8 := Aside0.mk HG8
      clear gb8 gl8 HG8
      have HMgo8 := Aside0.mk (show (P0_ go8 ∨ w.heap.size ≤ go8) from (HO_0.out.1 _ rfl))
      obtain ⟨hx8_0, hf8_0⟩ := Kd.R_celln 0 HO_0.out (x1_1 : Int) p8 q8
      replace p8 := eq_true p8
      replace q8 := eq_true q8
      have HP9 := Kd.R_putg HO_0.out (x1_1 : Int) ((Go.bits .or .u64 (Go.bits .and .u64 x2_1 127) 128) % 256)
      go_wp2_with (first | ((with_reducible refine gate_store (t := 5) (p := 21) rfl ?_); refine store_event (t := 5) (p := 21) (v := ?vo_w10) (w1 := (wr.setCell ⟨go8, (x1_1 : Int).toNat, none⟩ (.int .u8 ((Go.bits .or .u64 (Go.bits .and .u64 x2_1 127) 128) % 256)))) ?hg ?ho ?hn ?hr ?_; (case ho => rfl); (case hg => rfl); (case hn => rfl); (case hr => first | (go_simp; done) | (go_simp; rfl)); intro w10 hw; have hg : wr.grownBy w10 (some go8) := (by rw [hw]; exact HP9.2); have hp_ : Kd.R (Kd.int .u8) 5 w10 w0.heap.size (fun k_ => (P0_ k_ ∨ w.heap.size ≤ k_)) (.slice (some ⟨go8, 0, none⟩) x0_1.length co8) y110 := (by rw [hw, Ny110.out]; exact HP9.1); clear HP9; have n0_ := Aside0.mk (hp_); have n1_ := Aside0.mk ((by rw [hw]; exact below_set (HB.out) GB8.out : Below w0.heap.size w0 w10)); have n2_ := Aside0.mk (Kept.of_grown (S := (fun k_ => P0_ k_)) hg (by repeat (first | (with_reducible first | exact HK.out | apply Kept.alloc | apply Kept.drewN | apply Kept.drew) | exact HK.out)) (fun k_ e_ => (HO_0.out.1 k_ e_))); clear HO_0; clear HB; clear HK; have HO_0 := n0_; have HB := n1_; have HK := n2_; clear n0_ n1_ n2_; clear hg hw hp_))
      go_roundg k1
      case measure => have := HK1.out; omega
      case rel => exact ⟨(y110), (wrap64 (x1_1 + 1)), (x2_1 / 128), (by first | rfl | (simp; done) | (simp [*]; done)), (by first | rfl | (simp; done) | (simp [*]; done)), H', ⟨by have := HK1.out; omega⟩, ⟨by (with_reducible repeat (first | apply Kd.R_alloc | apply Kd.R_drewN | apply Kd.R_drew)); exact HO_0.out⟩, ⟨by repeat (first | (with_reducible first | exact HK.out | apply Kept.alloc | apply Kept.drewN | apply Kept.drew) | exact HK.out)⟩, ⟨by repeat (first | (with_reducible first | exact HB.out | apply below_alloc | apply pw_below_drewN | apply below_drew1) | exact HB.out)⟩⟩
     ·rw [if_neg c7] at H
      exact absurd H (by simp)
    ·rw [if_neg c6] at H
     exact absurd H (by simp)
   ·rw [if_neg c5] at H
    have c5b0 : decide (128 ≤ x2_1) = false := decide_eq_false c5
    clear c5
    by_cases c11 : 0 ≤ x1_1
    ·rw [if_pos c11] at H
     have c11b0 : decide (0 ≤ x1_1) = true := decide_eq_true c11
     clear c11
     by_cases c12 : x1_1 < (x0_1.length : Int)
     ·rw [if_pos c12] at H
      have c12b0 : decide (x1_1 < (x0_1.length : Int)) = true := decide_eq_true c12
      clear c12
      obtain ⟨y111, hy111⟩ : ∃ y_ : List Int, y_ = (x0_1.set (x1_1 : Int).toNat ((x2_1) % 256)) := ⟨_, rfl⟩
      replace H : (some ((wrap64 (a1 - t109)), y111)) = some (r1, r2) := by first | (rw [hy111]; with_reducible exact H) | (have H2_ := (Option.bind_some _ _).symm.trans H; rw [hy111]; with_reducible exact H2_) | (have H2_ := (Option.bind_some _ _).symm.trans H; with_reducible exact H2_) | with_reducible exact H | (rw [hy111]; exact H) | exact H
      have Ny111 := Aside0.mk hy111
      clear hy111
      simp only [Option.some.injEq, Prod.mk.injEq] at H
      obtain ⟨rfl, rfl⟩ := H
      have p13 : 0 ≤ (x1_1 : Int) := of_decide_eq_true (by first | (with_reducible assumption) | assumption)
      have q13 : (x1_1 : Int) < ((x0_1.length : Int) : Int) := of_decide_eq_true (by first | (with_reducible assumption) | assumption)
      obtain ⟨go13, co13, eo13, gb13, gl13, cl13, HG13⟩ := Kd.R_form HO_0.out (by omega)
      (first | cases eo13 | (injection eo13 with ea_ en_ ec_; (first | subst ea_ | (injection ea_ with ea_; subst ea_)); subst ec_; clear en_))
      have GB13 := Aside0.mk gb13
      have GG13 := Aside0.mk HG13
      clear gb13 gl13 HG13
      have HMgo13 := Aside0.mk (show (P0_ go13 ∨ w.heap.size ≤ go13) from (HO_0.out.1 _ rfl))
      obtain ⟨hx13_0, hf13_0⟩ := Kd.R_celln 0 HO_0.out (x1_1 : Int) p13 q13
      replace p13 := eq_true p13
      replace q13 := eq_true q13
      have HP14 := Kd.R_putg HO_0.out (x1_1 : Int) ((x2_1) % 256)
      go_wp2_with (first | ((with_reducible refine gate_store (t := 5) (p := 30) rfl ?_); refine store_event (t := 5) (p := 30) (v := ?vo_w15) (w1 := (wr.setCell ⟨go13, (x1_1 : Int).toNat, none⟩ (.int .u8 ((x2_1) % 256)))) ?hg ?ho ?hn ?hr ?_; (case ho => rfl); (case hg => rfl); (case hn => rfl); (case hr => first | (go_simp; done) | (go_simp; rfl)); intro w15 hw; have hg : wr.grownBy w15 (some go13) := (by rw [hw]; exact HP14.2); have hp_ : Kd.R (Kd.int .u8) 5 w15 w0.heap.size (fun k_ => (P0_ k_ ∨ w.heap.size ≤ k_)) (.slice (some ⟨go13, 0, none⟩) x0_1.length co13) y111 := (by rw [hw, Ny111.out]; exact HP14.1); clear HP14; have n0_ := Aside0.mk (hp_); have n1_ := Aside0.mk ((by rw [hw]; exact below_set (HB.out) GB13.out : Below w0.heap.size w0 w15)); have n2_ := Aside0.mk (Kept.of_grown (S := (fun k_ => P0_ k_)) hg (by repeat (first | (with_reducible first | exact HK.out | apply Kept.alloc | apply Kept.drewN | apply Kept.drew) | exact HK.out)) (fun k_ e_ => (HO_0.out.1 k_ e_))); clear HO_0; clear HB; clear HK; have HO_0 := n0_; have HB := n1_; have HK := n2_; clear n0_ n1_ n2_; clear hg hw hp_))
      go_ret
      exact ⟨by first | rfl | (simp [errV_none, errV_some] <;> rfl) | (simp [*, errV_none, errV_some] <;> rfl), by (with_reducible repeat (first | apply Kd.R_alloc | apply Kd.R_drewN | apply Kd.R_drew)); exact HO_0.out, by repeat (first | (with_reducible first | exact HB.out | apply below_alloc | apply pw_below_drewN | apply below_drew1) | exact HB.out), by repeat (first | (with_reducible first | exact HK.out | apply Kept.alloc | apply Kept.drewN | apply Kept.drew) | exact HK.out)⟩
     ·rw [if_neg c12] at H
      exact absurd H (by simp)
    ·rw [if_neg c11] at H
     exact absurd H (by simp)

-- NOT PRINTED: function 121 (pb_Data_MarshalToSizedBuffer)

-- NOT PRINTED: function 101 (pb_Data_Marshal)

-- NOT PRINTED: function 98 (unixfs_FilePBData)

-- NOT PRINTED: function 62 (impl_FileData)

-- NOT PRINTED: function 99 (unixfs_FolderPBData)

-- NOT PRINTED: function 63 (impl_FolderData)

-- NOT PRINTED: function 25 (laws_folderAwake)

-- NOT PRINTED: function 64 (unixfs_WrapData)

-- NOT PRINTED: function 26 (impl_Wrapped)

-- NOT PRINTED: function 65 (unixfs_UnwrapData)

-- NOT PRINTED: function 27 (impl_Unwrapped)

-- NOT PRINTED: function 6 (laws_FnFieldsWrapped)

end Go.Proofs.YtnhnlodmkbiiiaaDoor.PFieldsBase
