/- What the bytes of a message of the package unixfs are, as lists, and how they lie in memory: its varints, its rows of bytes. -/
import Derived.Test.YtnhnlodmkbiiiaaDoorRPFieldsBasex1
import Derived.Test.YtnhnlodmkbiiiaaDoorRPFieldsBasex3
import Derived.StillTailTactics
namespace Go.Proofs.YtnhnlodmkbiiiaaDoor.HandFields
open Go Go.RowKit Go.Proofs.YtnhnlodmkbiiiaaDoorL Go.Proofs.YtnhnlodmkbiiiaaDoorW.PrintWords Go.Proofs.YtnhnlodmkbiiiaaDoorW.PrintLast Go.Proofs.YtnhnlodmkbiiiaaDoorW.PrintMore Go.Proofs.YtnhnlodmkbiiiaaDoor.PFieldsBase
attribute [local go_sem] max2_int min2_int max_two min_two max_three min_three max_four min_four
set_option linter.unusedVariables false
set_option linter.unusedSimpArgs false
/-- The bytes of a number, by sevens. -/
def uvF : Nat → Nat → List Int
 | 0, v => [(v : Int)]
 | k + 1, v => if v < 128 then [(v : Int)] else ((v % 128 + 128 : Nat) : Int) :: uvF k (v / 128)
def uv (v : Nat) : List Int := uvF 10 v
theorem uvF_pos : ∀ k v, 1 ≤ (uvF k v).length
 | 0, v => Nat.le_refl _
 | k + 1, v => by unfold uvF; split <;> simp
theorem uvF_le : ∀ (k v m : Nat), v < 128 ^ (k + 1) → 1 ≤ m → ((uvF k v).length ≤ m ↔ v < 128 ^ m)
 | 0, v, m, hv, hm => by
  have h1 : 128 ^ 1 ≤ 128 ^ m := Nat.pow_le_pow_right (by decide) hm
  simp only [uvF, List.length_singleton]
  constructor
  ·intro _; exact Nat.lt_of_lt_of_le hv h1
  ·intro _; exact hm
 | k + 1, v, m, hv, hm => by
  unfold uvF
  by_cases h : v < 128
  ·rw [if_pos h]
   have h1 : 128 ^ 1 ≤ 128 ^ m := Nat.pow_le_pow_right (by decide) hm
   simp only [List.length_singleton]
   constructor
   ·intro _; exact Nat.lt_of_lt_of_le h h1
   ·intro _; exact hm
  ·rw [if_neg h, List.length_cons]
   have hp := uvF_pos k (v / 128)
   match m, hm with
   | 1, _ =>
    constructor
    ·intro h2; omega
    ·intro h2; simp at h2; omega
   | m + 2, _ =>
    have ih := uvF_le k (v / 128) (m + 1) (by rw [Nat.div_lt_iff_lt_mul (by decide), ← Nat.pow_succ]; exact hv) (by omega)
    rw [Nat.add_le_add_iff_right, ih, Nat.div_lt_iff_lt_mul (by decide), ← Nat.pow_succ]
theorem bitLenAux_le : ∀ (f x n : Nat), x < 2 ^ f → (Lib.bitLenAux f x ≤ n ↔ x < 2 ^ n)
 | 0, x, n, hx => by
  simp only [Lib.bitLenAux]
  have : x = 0 := by simpa using hx
  subst this
  simp [Nat.two_pow_pos]
 | f + 1, x, n, hx => by
  unfold Lib.bitLenAux
  by_cases h : x = 0
  ·rw [if_pos h]; subst h; simp [Nat.two_pow_pos]
  ·rw [if_neg h]
   match n with
   | 0 => simp; omega
   | n + 1 =>
    have ih := bitLenAux_le f (x / 2) n (by rw [Nat.div_lt_iff_lt_mul (by decide), ← Nat.pow_succ]; exact hx)
    rw [show 1 + Lib.bitLenAux f (x / 2) ≤ n + 1 ↔ Lib.bitLenAux f (x / 2) ≤ n by omega, ih, Nat.div_lt_iff_lt_mul (by decide), ← Nat.pow_succ]
theorem or_one_lt (x m : Nat) (hm : 1 ≤ m) : (x ||| 1) < 2 ^ m ↔ x < 2 ^ m := by
 constructor
 ·intro h; exact Nat.lt_of_le_of_lt Nat.left_le_or h
 ·intro h; exact Nat.or_lt_two_pow h (Nat.one_lt_two_pow (by omega))
theorem sov_eq (x : Nat) (hx : x < 2 ^ 64) : (Lib.bitLen (x ||| 1) + 6) / 7 = (uv x).length := by
 have h128 : ∀ m, 128 ^ m = 2 ^ (7 * m) := fun m => by rw [show (128 : Nat) = 2 ^ 7 from rfl, ← Nat.pow_mul]
 have h1 : ∀ m, 1 ≤ m → ((Lib.bitLen (x ||| 1) + 6) / 7 ≤ m ↔ (uv x).length ≤ m) := fun m hm => by
  unfold uv
  rw [uvF_le 10 x m (Nat.lt_of_lt_of_le hx (by decide)) hm, h128, ← or_one_lt x (7 * m) (by omega)]
  unfold Lib.bitLen
  rw [← bitLenAux_le 64 (x ||| 1) (7 * m) ((or_one_lt x 64 (by decide)).2 hx)]
  omega
 have h2 : 1 ≤ (uv x).length := uvF_pos _ _
 have h3 : 1 ≤ (Lib.bitLen (x ||| 1) + 6) / 7 := by
  have : ¬ Lib.bitLen (x ||| 1) ≤ 0 := by
   unfold Lib.bitLen
   rw [bitLenAux_le 64 (x ||| 1) 0 ((or_one_lt x 64 (by decide)).2 hx)]
   have := @Nat.right_le_or x 1
   omega
  omega
 have a := (h1 _ h3).1 (Nat.le_refl _)
 have b := (h1 _ h2).2 (Nat.le_refl _)
 omega
theorem uv_len (x : Nat) (hx : x < 2 ^ 64) : (uv x).length ≤ 10 := by
 unfold uv
 rw [uvF_le 10 x 10 (Nat.lt_of_lt_of_le hx (by decide)) (by decide)]
 exact Nat.lt_of_lt_of_le hx (by decide)
/-- A row of bytes that is written, beside what else lies in memory (hh). -/
structure Buf (w0 W : World) (g cap : Nat) (xs : List Int) (hh : Array Obj) : Prop where
 row : Kd.R (Kd.int .u8) 5 W w0.heap.size (fun k => k = g) (.slice (some ⟨g, 0, none⟩) xs.length cap) xs
 below : Below w0.heap.size w0 W
 oth : ∀ k o, hh[k]? = some o → k ≠ g → W.heap[k]? = some o
theorem Buf.drew {w0 W : World} {g cap : Nat} {xs : List Int} {hh : Array Obj} (h : Buf w0 W g cap xs hh) : Buf w0 W.drew g cap xs hh := ⟨Kd.R_drew h.row, below_drew h.below, h.oth⟩
theorem Buf.cell {w0 W : World} {g cap : Nat} {xs : List Int} {hh : Array Obj} (h : Buf w0 W g cap xs hh) (o : Nat) (ho : o < xs.length) : W.cell? ⟨g, o, none⟩ = some (.int .u8 (rd xs o)) ∧ W.frozen? ⟨g, o, none⟩ = false := by
 have := Kd.R_celln (0 : Int) h.row (o : Int) (by omega) (by omega)
 exact this
theorem Buf.ge {w0 W : World} {g cap : Nat} {xs : List Int} {hh : Array Obj} (h : Buf w0 W g cap xs hh) (hp : 0 < xs.length) : w0.heap.size ≤ g := by
 obtain ⟨g', c', e, hg, _⟩ := Kd.R_form h.row hp
 injection e with e1 _ _
 injection e1 with e1
 injection e1 with e1
 omega
theorem Buf.put {w0 W : World} {g cap : Nat} {xs : List Int} {hh : Array Obj} (h : Buf w0 W g cap xs hh) (o : Nat) (ho : o < xs.length) (x : Int) : Buf w0 (W.setCell ⟨g, o, none⟩ (.int .u8 x)) g cap (xs.set o x) hh := by
 have hp := Kd.R_putg h.row (o : Int) x
 refine ⟨?_, below_set h.below (h.ge (by omega)), fun k o hk hne => (hp.2.block k (blk_lt (h.oth k o hk hne)) (fun e => hne (by injection e))).trans (h.oth k o hk hne)⟩
 have := hp.1
 rw [show (xs.set o x).length = xs.length from List.length_set ..]
 exact this
/-- What is written from place o on. -/
def putL (xs : List Int) (o : Nat) (ys : List Int) : List Int := xs.take o ++ ys ++ xs.drop (o + ys.length)
theorem putL_len (xs : List Int) (o : Nat) (ys : List Int) (h : o + ys.length ≤ xs.length) : (putL xs o ys).length = xs.length := by
 simp [putL]; omega
theorem putL_one (xs : List Int) (o : Nat) (y : Int) (h : o < xs.length) : putL xs o [y] = xs.set o y := by
 apply List.ext_getElem?
 intro j
 simp only [putL, List.getElem?_set, List.getElem?_append, List.getElem?_take, List.getElem?_drop, List.length_take, List.length_append, List.length_cons, List.length_nil, List.length_drop, List.getElem?_cons]
 repeat' split
 all_goals first | rfl | omega | (congr 1; omega) | (simp_all; done) | (simp_all; omega)
/-- One place, then those behind it. -/
theorem putL_cons (xs : List Int) (o : Nat) (y : Int) (ys : List Int) (h : o + ys.length < xs.length) : putL (xs.set o y) (o + 1) ys = putL xs o (y :: ys) := by
 apply List.ext_getElem?
 intro j
 simp only [putL, List.getElem?_set, List.getElem?_append, List.getElem?_take, List.getElem?_drop, List.length_take, List.length_append, List.length_cons, List.length_set, List.length_drop, List.getElem?_cons]
 repeat' split
 all_goals first | rfl | omega | (congr 1; omega) | (simp_all; done) | (simp_all; omega)
/-- Behind place i stands s. -/
structure Suf (xs : List Int) (i : Nat) (s : List Int) : Prop where
 eq : xs.drop i = s
 le : i + s.length = xs.length
theorem Suf.put {xs : List Int} {i : Nat} {s : List Int} (h : Suf xs i s) (ys : List Int) (hy : ys.length ≤ i) : Suf (putL xs (i - ys.length) ys) (i - ys.length) (ys ++ s) := by
 have hl := h.le
 refine ⟨?_, ?_⟩
 ·unfold putL
  rw [List.append_assoc, List.drop_append, List.drop_of_length_le (by simp; omega), List.nil_append, List.length_take, Nat.min_eq_left (by omega), Nat.sub_self, List.drop_zero, show i - ys.length + ys.length = i by omega, h.eq]
 ·rw [putL_len _ _ _ (by omega), List.length_append]; omega
theorem Suf.all {xs s : List Int} (h : Suf xs 0 s) : xs = s := h.eq
theorem Suf.start (xs : List Int) : Suf xs xs.length [] := ⟨by simp, by simp⟩
theorem or1 (v : Nat) (hv : v < 2 ^ 64) : Go.bits .or .u64 (v : Int) 1 = ((v ||| 1 : Nat) : Int) := by
 have := (bits_nat .u64 64 (by decide) (fun n h0 h1 => by unfold IntKind.wrap; simp [IntKind.bits, IntKind.signed]; omega) v 1 hv (by decide)).2
 exact this
theorem sovF_eq (k v : Nat) (hv : v < 2 ^ 64) : pb_sovUnixfs.f (v : Int) = some ((uv v).length : Int) := by
 unfold pb_sovUnixfs.f
 rw [or1 v hv]
 unfold bits_Len64.f
 have h1 : (v ||| 1) < 2 ^ 64 := (or_one_lt v 64 (by decide)).2 hv
 rw [if_pos (by omega), Option.bind_some, Int.toNat_natCast]
 have hb : Lib.bitLen (v ||| 1) ≤ 64 := by
  unfold Lib.bitLen
  rw [bitLenAux_le 64 _ 64 h1]
  exact h1
 have h2 : wrap64 ((Lib.bitLen (v ||| 1) : Int) + 6) = (Lib.bitLen (v ||| 1) : Int) + 6 := by unfold wrap64; omega
 have h3 := sov_eq v hv
 rw [h2, Int.tdiv_eq_ediv_of_nonneg (by omega)]
 have h4 : ((Lib.bitLen (v ||| 1) : Int) + 6) / 7 = ((uv v).length : Int) := by omega
 rw [h4]
 have h5 := uv_len v hv
 have h6 : wrap64 ((uv v).length : Int) = ((uv v).length : Int) := by unfold wrap64; omega
 rw [h6]
theorem byte_eq (v : Nat) (hv : v < 2 ^ 64) : (Go.bits .or .u64 (Go.bits .and .u64 (v : Int) 127) 128) % 256 = ((v % 128 + 128 : Nat) : Int) := by
 have hw : ∀ n : Int, 0 ≤ n → n < 2 ^ 64 → IntKind.u64.wrap n = n := fun n h0 h1 => by unfold IntKind.wrap; simp [IntKind.bits, IntKind.signed]; omega
 have h1 : Go.bits .and .u64 (v : Int) 127 = ((v % 128 : Nat) : Int) := by
  have := bits_mask .u64 64 (by decide) hw 7 (by decide) (v : Int) (by omega) (by exact_mod_cast hv)
  simpa using this
 rw [h1]
 have h2 : Go.bits .or .u64 ((v % 128 : Nat) : Int) 128 = ((128 + v % 128 : Nat) : Int) := by
  have h3 := (bits_nat .u64 64 (by decide) hw (v % 128) 128 (by omega) (by decide)).2
  have h4 : (v % 128) ||| 128 = 128 + v % 128 := by
   rw [Nat.or_comm, show (128 : Nat) = 2 ^ 7 * 1 from rfl, ← Nat.two_pow_add_eq_or_of_lt (show v % 128 < 2 ^ 7 by omega) 1]
  rw [h4] at h3
  exact h3
 rw [h2]
 omega
theorem encL_eq : ∀ (n k : Nat) (xs : List Int) (o v : Nat) (base : Int), v < 128 ^ (n + 1) → v < 2 ^ 64 → o + (uvF n v).length ≤ xs.length → xs.length ≤ 4611686018427387904 → n < k →
  pb_encodeVarintUnixfs.l0 k xs (o : Int) (v : Int) base = some (base, putL xs o (uvF n v))
 | n, k, xs, o, v, base, hv, h64, hl, hx, hk => by
  obtain ⟨k, rfl⟩ : ∃ m, k = m + 1 := ⟨k - 1, by omega⟩
  have hp := uvF_pos n v
  unfold pb_encodeVarintUnixfs.l0
  by_cases h : v < 128
  ·have e : uvF n v = [(v : Int)] := by
    match n with
    | 0 => rfl
    | n + 1 => unfold uvF; rw [if_pos h]
   rw [e] at hl ⊢
   simp only [List.length_singleton] at hl
   rw [if_neg (by omega), if_pos (by omega), if_pos (by omega), Int.toNat_natCast, putL_one _ _ _ (by omega), Int.emod_eq_of_lt (by omega) (by omega)]
  ·match n with
   | 0 => simp at hv; omega
   | n + 1 =>
    have e : uvF (n + 1) v = ((v % 128 + 128 : Nat) : Int) :: uvF n (v / 128) := by
     conv => { lhs; unfold uvF }
     rw [if_neg h]
    rw [e] at hl ⊢
    simp only [List.length_cons] at hl
    have hpp := uvF_pos n (v / 128)
    have hw : wrap64 ((o : Int) + 1) = ((o + 1 : Nat) : Int) := by unfold wrap64; omega
    rw [if_pos (by omega), if_pos (by omega), if_pos (by omega), byte_eq v h64, Int.toNat_natCast, hw, show ((v : Int) / 128) = ((v / 128 : Nat) : Int) by omega]
    rw [encL_eq n k (xs.set o _) (o + 1) (v / 128) base (by rw [Nat.div_lt_iff_lt_mul (by decide), ← Nat.pow_succ]; exact hv) (by omega) (by rw [List.length_set]; omega) (by rw [List.length_set]; exact hx) (by omega), putL_cons _ _ _ _ (by omega)]
theorem encF_eq (xs : List Int) (o v : Nat) (h64 : v < 2 ^ 64) (ho : (uv v).length ≤ o) (hox : o ≤ xs.length) (hx : xs.length ≤ 4611686018427387904) :
  pb_encodeVarintUnixfs.f 20 xs (o : Int) (v : Int) = some (((o - (uv v).length : Nat) : Int), putL xs (o - (uv v).length) (uv v)) := by
 unfold pb_encodeVarintUnixfs.f
 rw [sovF_eq 0 v h64, Option.bind_some]
 have hw : wrap64 ((o : Int) - ((uv v).length : Int)) = ((o - (uv v).length : Nat) : Int) := by unfold wrap64; omega
 rw [hw]
 exact encL_eq 10 20 xs _ v _ (Nat.lt_of_lt_of_le h64 (by decide)) h64 (by show _ + (uv v).length ≤ _; omega) hx (by decide)
theorem enc_calls (w0 w : World) (g cap : Nat) (xs : List Int) (hh : Array Obj) (hb : Buf w0 w g cap xs hh) (o v : Nat) (h64 : v < 2 ^ 64) (ho : (uv v).length ≤ o) (hox : o ≤ xs.length) (hx : xs.length ≤ 4611686018427387904) :
  Calls Tryd.prog 130 #[.slice (some ⟨g, 0, none⟩) xs.length cap, .int .i64 (o : Int), .int .u64 (v : Int)] w fun e w' => e = .returned (.int .i64 ((o - (uv v).length : Nat) : Int)) ∧ Buf w0 w' g cap (putL xs (o - (uv v).length) (uv v)) hh := by
 refine (pb_encodeVarintUnixfs.calls 20 (fun k => k = g) (.slice (some ⟨g, 0, none⟩) xs.length cap) xs (o : Int) (v : Int) _ _ w0 w hb.below hb.row (encF_eq xs o v h64 ho hox hx)).mono ?_
 rintro e w' ⟨rfl, hR, hB, hK⟩
 refine ⟨rfl, ?_, hB, fun k o hk hne => (hK.2 k (blk_lt (hb.oth k o hk hne)) hne).trans (hb.oth k o hk hne)⟩
 have hl : (putL xs (o - (uv v).length) (uv v)).length = xs.length := putL_len _ _ _ (by omega)
 rw [hl]
 exact ⟨fun k hk => by simpa [Value.ownBlock] using hk.symm, hR.2⟩
theorem sov_calls (v : Nat) (hv : v < 2 ^ 64) (w : World) : Calls Tryd.prog 129 #[.int .u64 (v : Int)] w fun e w' => e = .returned (.int .i64 ((uv v).length : Int)) ∧ w' = w := by
 have h0 := sovF_eq 0 v hv
 obtain ⟨y, hy⟩ : ∃ y, y = Go.bits .or .u64 (v : Int) 1 := ⟨_, rfl⟩
 have hy2 : y = ((v ||| 1 : Nat) : Int) := by rw [hy, or1 v hv]
 have h1 : (v ||| 1) < 2 ^ 64 := (or_one_lt v 64 (by decide)).2 hv
 have hb : Lib.bitLen (v ||| 1) ≤ 64 := by
  unfold Lib.bitLen
  rw [bitLenAux_le 64 _ 64 h1]
  exact h1
 obtain ⟨L, hL⟩ : ∃ L : Nat, L = Lib.bitLen (v ||| 1) := ⟨_, rfl⟩
 have h3 := sov_eq v hv
 rw [← hL] at h3 hb
 obtain ⟨x1, hx1⟩ : ∃ x : Int, wrap64 ((L : Int) + 6) = x := ⟨_, rfl⟩
 have hx1w : IntKind.i64.wrap ((L : Int) + 6) = x1 := (i64_w _).trans hx1
 have hx1e : x1 = (L : Int) + 6 := by rw [← hx1]; unfold wrap64; omega
 obtain ⟨x2, hx2⟩ : ∃ x : Int, wrap64 (Int.tdiv x1 7) = x := ⟨_, rfl⟩
 have hx2w : IntKind.i64.wrap (Int.tdiv x1 7) = x2 := (i64_w _).trans hx2
 have hx2e : x2 = ((uv v).length : Int) := by
  rw [← hx2, hx1e, Int.tdiv_eq_ediv_of_nonneg (by omega)]
  have h4 : ((L : Int) + 6) / 7 = ((uv v).length : Int) := by omega
  have h5 := uv_len v hv
  rw [h4]; unfold wrap64; omega
 have HL := Aside0.mk hL
 have HY := Aside0.mk hy2
 have HX := Aside0.mk hx2e
 have H1 := Aside0.mk h1
 have hyy := hy.symm
 clear h0 hy hy2 h1 hb hL h3 hx1e hx2e hv
 go_enter Tryd.func129, Tryd.ntmps129
 go_wp2_with (go_at_call 119; refine (Tryd.bits_Len64 y w (by rw [HY.out]; omega) (by rw [HY.out]; have := H1.out; omega)).mono ?_; rintro e w1 ⟨rfl, rfl⟩; rw [show (Lib.bitLen y.toNat) = L by rw [HL.out, HY.out]; rfl])
 go_ret
 exact ⟨by first | (rw [← HX.out]; rfl) | (simp [HX.out]), rfl⟩
structure Dat where
 ty : Nat
 data : Option (List Int)
 size : Option Nat
 blocks : List Int
/-- A message Data in memory, as it is read. -/
structure RdDat (W : World) (g : Nat) (d : Dat) (p1 : Nat) (vD v3 vB : Value) (t : TypeId) : Prop where
 blk : W.heap[g]? = some (.cells #[.pointer (some ⟨p1, 0, none⟩), vD, v3, vB, .pointer none, .pointer none, .slice none 0 0, .int .i32 0] t (0, 0))
 ty : W.cell? ⟨p1, 0, none⟩ = some (.int .i32 (d.ty : Int))
 data0 : d.data = none → vD = .slice none 0 0
 data1 : ∀ xs, d.data = some xs → ∃ A c, vD = .slice (some A) xs.length c ∧ xs.length ≤ c ∧ Kd.C (Kd.int .u8) W (some A) xs.length xs
 size0 : d.size = none → v3 = .pointer none
 size1 : ∀ n, d.size = some n → ∃ b, v3 = .pointer (some ⟨b, 0, none⟩) ∧ W.cell? ⟨b, 0, none⟩ = some (.int .u64 (n : Int))
 blks : ∃ A c, vB = .slice A d.blocks.length c ∧ d.blocks.length ≤ c ∧ Kd.C (Kd.int .u64) W A d.blocks.length d.blocks
theorem RdDat.below {W W1 : World} {g : Nat} {d : Dat} {p1 : Nat} {vD v3 vB : Value} {t : TypeId} (h : RdDat W g d p1 vD v3 vB t) (hb : Below W.heap.size W W1) : RdDat W1 g d p1 vD v3 vB t := by
 refine ⟨(hb.block _ (blk_lt h.blk)).trans h.blk, (hb.cell (World.block_lt_of_cell? _ _ h.ty)).trans h.ty, h.data0, fun xs hx => ?_, h.size0, fun n hn => ?_, ?_⟩
 ·obtain ⟨A, c, e, hl, hc⟩ := h.data1 xs hx
  exact ⟨A, c, e, hl, Kd.C_below hc hb⟩
 ·obtain ⟨b, e, hc⟩ := h.size1 n hn
  exact ⟨b, e, (hb.cell (World.block_lt_of_cell? _ _ hc)).trans hc⟩
 ·obtain ⟨A, c, e, hl, hc⟩ := h.blks
  exact ⟨A, c, e, hl, Kd.C_below hc hb⟩
def dataF : Option (List Int) → List Int
 | none => []
 | some xs => 18 :: (uv xs.length ++ xs)
def sizeF : Option Nat → List Int
 | none => []
 | some n => 24 :: uv n
def blkF (bs : List Int) : List Int := bs.flatMap (fun n => 32 :: uv n.toNat)
/-- The bytes of a message. -/
def marsh (d : Dat) : List Int := (8 :: uv d.ty) ++ (dataF d.data ++ (sizeF d.size ++ blkF d.blocks))
/-- What may be written. -/
structure Fit (d : Dat) : Prop where
 ty : d.ty < 1000
 data : ∀ xs, d.data = some xs → xs.length ≤ 1000000
 size : ∀ n, d.size = some n → n < 2 ^ 64
 blks : ∀ x ∈ d.blocks, 0 ≤ x ∧ x < 2 ^ 64
 many : d.blocks.length ≤ 1000000
theorem blkF_len : ∀ (bs : List Int), (∀ x ∈ bs, 0 ≤ x ∧ x < 2 ^ 64) → (blkF bs).length ≤ 11 * bs.length
 | [], _ => Nat.le_refl _
 | x :: bs, h => by
  have := blkF_len bs (fun y hy => h y (by simp [hy]))
  have h1 := uv_len x.toNat (by have := h x (by simp); omega)
  show ((32 :: uv x.toNat) ++ blkF bs).length ≤ _
  simp only [List.length_append, List.length_cons]
  omega
theorem blkF_snoc (bs : List Int) (j : Nat) (hj : j < bs.length) : blkF (bs.take (j + 1)) = blkF (bs.take j) ++ (32 :: uv (rd bs j).toNat) := by
 have e : bs.take (j + 1) = bs.take j ++ [rd bs j] := by
  rw [List.take_add_one, List.getElem?_eq_getElem hj]
  simp [rd, List.getD_eq_getElem?_getD, List.getElem?_eq_getElem hj]
 rw [e]
 simp [blkF, List.flatMap_append]
theorem rd_fit {d : Dat} (h : Fit d) (i : Int) : 0 ≤ rd d.blocks i ∧ rd d.blocks i < 2 ^ 64 := by
 unfold rd
 by_cases hi : i.toNat < d.blocks.length
 ·rw [List.getD_eq_getElem?_getD, List.getElem?_eq_getElem hi]
  exact h.blks _ (List.getElem_mem hi)
 ·rw [List.getD_eq_getElem?_getD, List.getElem?_eq_none (by omega)]; simp
/-- A row that is filled from its end: behind place i stands s. -/
def St (w0 W : World) (gb n cap : Nat) (hh : Array Obj) (i : Nat) (s : List Int) : Prop := ∃ xs, Buf w0 W gb cap xs hh ∧ xs.length = n ∧ Suf xs i s
theorem St.le {w0 W : World} {gb n cap : Nat} {hh : Array Obj} {i : Nat} {s : List Int} (h : St w0 W gb n cap hh i s) : i + s.length = n := by
 obtain ⟨xs, hb, hn, hs⟩ := h
 rw [hs.le, hn]
theorem St.below {w0 W : World} {gb n cap : Nat} {hh : Array Obj} {i : Nat} {s : List Int} (h : St w0 W gb n cap hh i s) : Below w0.heap.size w0 W := by
 obtain ⟨xs, hb, hn, hs⟩ := h
 exact hb.below
theorem St.drew {w0 W : World} {gb n cap : Nat} {hh : Array Obj} {i : Nat} {s : List Int} (h : St w0 W gb n cap hh i s) : St w0 W.drew gb n cap hh i s := by
 obtain ⟨xs, hb, hn, hs⟩ := h
 exact ⟨xs, hb.drew, hn, hs⟩
theorem St.enc {w0 W : World} {gb n cap : Nat} {hh : Array Obj} {i : Nat} {s : List Int} (h : St w0 W gb n cap hh i s) (v : Nat) (h64 : v < 2 ^ 64) (ho : (uv v).length ≤ i) (hx : n ≤ 4611686018427387904) :
  Calls Tryd.prog 130 #[.slice (some ⟨gb, 0, none⟩) n cap, .int .i64 (i : Int), .int .u64 (v : Int)] W fun e w' => e = .returned (.int .i64 ((i - (uv v).length : Nat) : Int)) ∧ St w0 w' gb n cap hh (i - (uv v).length) (uv v ++ s) := by
 have hle := h.le
 obtain ⟨xs, hb, rfl, hs⟩ := h
 refine (enc_calls w0 W gb cap xs hh hb i v h64 ho (by omega) hx).mono ?_
 rintro e w' ⟨rfl, hb'⟩
 exact ⟨rfl, _, hb', putL_len _ _ _ (by omega), hs.put _ ho⟩
theorem St.cell {w0 W : World} {gb n cap : Nat} {hh : Array Obj} {i : Nat} {s : List Int} (h : St w0 W gb n cap hh i s) (o : Nat) (ho : o < n) : ∃ x, W.cell? ⟨gb, o, none⟩ = some x ∧ W.frozen? ⟨gb, o, none⟩ = false := by
 obtain ⟨xs, hb, rfl, hs⟩ := h
 exact ⟨_, hb.cell o ho⟩
theorem St.put {w0 W : World} {gb n cap : Nat} {hh : Array Obj} {i : Nat} {s : List Int} (h : St w0 W gb n cap hh i s) (hi : 1 ≤ i) (x : Int) : St w0 (W.setCell ⟨gb, i - 1, none⟩ (.int .u8 x)) gb n cap hh (i - 1) (x :: s) := by
 have hle := h.le
 obtain ⟨xs, hb, rfl, hs⟩ := h
 have h1 := hs.put [x] hi
 rw [List.length_singleton, putL_one _ _ _ (by omega)] at h1
 exact ⟨_, hb.put (i - 1) (by omega) x, List.length_set .., h1⟩
theorem St.all {w0 W : World} {gb n cap : Nat} {hh : Array Obj} {s : List Int} (h : St w0 W gb n cap hh 0 s) : Buf w0 W gb cap s hh := by
 obtain ⟨xs, hb, hn, hs⟩ := h
 rw [← hs.all]
 exact hb
section
variable {ops : Array Oper} {rest : List Oper} {o : Oper} {a : Act} {Q : Exit → Act → World → Prop}
theorem St.copy {w0 W : World} {gb n cap : Nat} {hh : Array Obj} {i : Nat} {s : List Int} (h : St w0 W gb n cap hh i s) (hgd : o.guard = none) (x y : Operand) (ho : o.op = .call { callee := .builtin .copy, args := #[x, y], argTypes := #[22, 22] })
  (ys : List Int) (A : Option Addr) (m c : Nat) (D : Option Addr) (dn dc : Nat) (hx : a.eval x = .slice D dn dc) (hy : a.eval y = .slice A m c) (hm : ys.length = m) (hC : Kd.C (Kd.int .u8) W A m ys) (hD : 0 < m → D = some ⟨gb, i - m, none⟩) (hdn : m ≤ dn) (hmi : m ≤ i)
  (k : ∀ w1, St w0 w1 gb n cap hh (i - m) (ys ++ s) → wpList Tryd.prog ops Q rest (a.put o.dst (.int .i64 (m : Int))) w1) : wpList Tryd.prog ops Q (o :: rest) a W := by
 have hle := h.le
 obtain ⟨xs, hb, rfl, hs⟩ := h
 have hinfo : (Tryd.prog.info? 5).map (·.size) = some 1 := by kernel_rfl
 refine R_copy_at (enc := Value.int .u8) (h1 := fun _ => rfl) (0 : Int) (w0 := w0) w0.heap.size hgd x y 22 22 5 ho Tryd.underlying22 hinfo gb xs.length cap xs ys D dn dc A m c (i - m) (fun k => k = gb) hx hy hD hdn hb.row (by omega) hC hb.below (below_size hb.below) ?_
 intro w1 hR hB hg
 refine k w1 ⟨putL xs (i - m) ys, ⟨?_, hB, fun k o hk hne => (hg.block k (blk_lt (hb.oth k o hk hne)) (fun e => hne (by injection e))).trans (hb.oth k o hk hne)⟩, putL_len _ _ _ (by omega), ?_⟩
 ·rw [putL_len _ _ _ (by omega)]
  unfold putL
  rw [hm]
  exact hR
 ·have := hs.put ys (by omega)
  rw [hm] at this
  exact this
end
theorem cut_at {gb i m n cap : Nat} (hi : m ≤ i) (hm : 0 < m) (hn : i ≤ n) (hc : n ≤ cap) : (if cap = ((i - m : Nat) : Int).toNat then some (⟨gb, 0, none⟩ : Addr) else Option.map (fun x : Addr => x.add (((i - m : Nat) : Int).toNat * 1)) (some ⟨gb, 0, none⟩)) = some ⟨gb, i - m, none⟩ := by
 rw [Int.toNat_natCast, if_neg (by omega), Option.map_some, Nat.mul_one]
 unfold Addr.add
 split
 ·next h => rw [h]
 ·simp
theorem blkF_cons (x : Int) (bs : List Int) : blkF (x :: bs) = 32 :: (uv x.toNat ++ blkF bs) := rfl
theorem blkF_drop (bs : List Int) (j : Nat) (hp : 1 ≤ j) (hj : j ≤ bs.length) : blkF (bs.drop (j - 1)) = 32 :: (uv (rd bs ((j - 1 : Nat) : Int)).toNat ++ blkF (bs.drop j)) := by
 have e : bs.drop (j - 1) = rd bs ((j - 1 : Nat) : Int) :: bs.drop j := by
  rw [List.drop_eq_getElem_cons (show j - 1 < bs.length by omega), show j - 1 + 1 = j by omega]
  congr 1
  simp [rd, List.getD_eq_getElem?_getD, List.getElem?_eq_getElem (show j - 1 < bs.length by omega)]
 rw [e, blkF_cons]
theorem blkF_drop_le (bs : List Int) (j : Nat) : (blkF (bs.drop j)).length ≤ (blkF bs).length := by
 have e : blkF bs = blkF (bs.take j) ++ blkF (bs.drop j) := by
  unfold blkF
  rw [← List.flatMap_append, List.take_append_drop]
 rw [e, List.length_append]
 omega
theorem made_buf {W : World} {base : Nat} {ok : Nat → Prop} {v : Value} {xs : List Int} (h : Kd.R (Kd.int .u8) 5 W base ok v xs) (hp : 0 < xs.length) : ∃ g cap, v = .slice (some ⟨g, 0, none⟩) xs.length cap ∧ base ≤ g ∧ g < W.heap.size ∧ xs.length ≤ cap ∧ Kd.R (Kd.int .u8) 5 W base (fun k => k = g) (.slice (some ⟨g, 0, none⟩) xs.length cap) xs := by
 obtain ⟨g, cap, rfl, hge, hlt, _⟩ := Kd.R_form h hp
 obtain ⟨h0, inner, hown, hr⟩ := h
 refine ⟨g, cap, rfl, hge, hlt, ?_, fun k hk => by simpa [Value.ownBlock] using hk.symm, inner, hown, hr⟩
 rcases hown.2 with ⟨e, h1⟩ | ⟨g', c', cur, e, _, _, hnc, _⟩
 ·omega
 ·injection e with e1 e2 e3
  omega
theorem zst {w W : World} {gb n cap : Nat} {xs : List Int} (h : Kd.R (Kd.int .u8) 5 W w.heap.size (fun k => k = gb) (.slice (some ⟨gb, 0, none⟩) n cap) xs) (hl : xs.length = n) (hb : Below w.heap.size w W) : St w W gb n cap w.heap n [] := by
 subst hl
 exact ⟨xs, ⟨h, hb, fun k o hk _ => (hb.block k (blk_lt hk)).trans hk⟩, rfl, Suf.start xs⟩
theorem R_low {W : World} {base base' : Nat} {ok : Nat → Prop} {v : Value} {xs : List Int} (h : Kd.R (Kd.int .u8) 5 W base ok v xs) (hb : base' ≤ base) : Kd.R (Kd.int .u8) 5 W base' ok v xs := by
 obtain ⟨h0, inner, hown, hr⟩ := h
 refine ⟨h0, inner, ⟨hown.1, ?_⟩, hr⟩
 rcases hown.2 with h1 | ⟨g, c, cur, e, hge, h2⟩
 ·exact .inl h1
 ·exact .inr ⟨g, c, cur, e, Nat.le_trans hb hge, h2⟩
theorem heap2_0 (w : World) (o1 o2 : Obj) : ((w.alloc o1).alloc o2).heap[w.heap.size]? = some o1 := blk_alloc (blk_new w o1) o2
theorem heap2_1 (w : World) (o1 o2 : Obj) : ((w.alloc o1).alloc o2).heap[w.heap.size + 1]? = some o2 := by
 have := blk_new (w.alloc o1) o2
 rwa [show (w.alloc o1).heap.size = w.heap.size + 1 from Array.size_push ..] at this
theorem size_alloc (w : World) (o : Obj) : (w.alloc o).heap.size = w.heap.size + 1 := Array.size_push ..
theorem R_lowI {K : IntKind} {W : World} {e base base' : Nat} {ok : Nat → Prop} {v : Value} {xs : List Int} (h : Kd.R (Kd.int K) e W base ok v xs) (hb : base' ≤ base) : Kd.R (Kd.int K) e W base' (fun _ => True) v xs := by
 obtain ⟨h0, inner, hown, hr⟩ := h
 refine ⟨fun _ _ => trivial, inner, ⟨hown.1, ?_⟩, hr⟩
 rcases hown.2 with h1 | ⟨g, c, cur, e, hge, h2⟩
 ·exact .inl h1
 ·exact .inr ⟨g, c, cur, e, Nat.le_trans hb hge, h2⟩
theorem R_put {α : Type} {K : Kd α} {W : World} {g i e base : Nat} {ok : Nat → Prop} {v u : Value} {xs : List α} (h : K.R e W base ok v xs) (hg : g < base) : K.R e (W.setCell ⟨g, i, none⟩ u) base ok v xs :=
 Kd.R_mono (Kd.R_step (Kd.R_bound h) (fun k hk _ => Below.heap_setCell W ⟨g, i, none⟩ u k (by have := hk.2.1; simp; omega))) (fun _ hk => hk.1)
/-- Six cells of a block are set. -/
def set6 (W : World) (g : Nat) (a0 a1 a2 a3 a4 a5 : Value) : World := (((((W.setCell ⟨g, 0, none⟩ a0).setCell ⟨g, 1, none⟩ a1).setCell ⟨g, 2, none⟩ a2).setCell ⟨g, 3, none⟩ a3).setCell ⟨g, 4, none⟩ a4).setCell ⟨g, 5, none⟩ a5
theorem set6_blk {W : World} {g : Nat} {b0 b1 b2 b3 b4 b5 : Value} {t : TypeId} (h : W.heap[g]? = some (.cells #[b0, b1, b2, b3, b4, b5] t (0, 0))) (a0 a1 a2 a3 a4 a5 : Value) : (set6 W g a0 a1 a2 a3 a4 a5).heap[g]? = some (.cells #[a0, a1, a2, a3, a4, a5] t (0, 0)) :=
 blk_put (blk_put (blk_put (blk_put (blk_put (blk_put h 0 _ rfl) 1 _ rfl) 2 _ rfl) 3 _ rfl) 4 _ rfl) 5 _ rfl
theorem set6_row {α : Type} {K : Kd α} {W : World} {g e base : Nat} {ok : Nat → Prop} {v : Value} {xs : List α} (h : K.R e W base ok v xs) (hg : g < base) (a0 a1 a2 a3 a4 a5 : Value) : K.R e (set6 W g a0 a1 a2 a3 a4 a5) base ok v xs :=
 R_put (R_put (R_put (R_put (R_put (R_put h hg) hg) hg) hg) hg) hg
theorem set6_below {w W : World} {g : Nat} (h : Below w.heap.size w W) (hg : w.heap.size ≤ g) (a0 a1 a2 a3 a4 a5 : Value) : Below w.heap.size w (set6 W g a0 a1 a2 a3 a4 a5) :=
 below_set (below_set (below_set (below_set (below_set (below_set h hg) hg) hg) hg) hg) hg
end Go.Proofs.YtnhnlodmkbiiiaaDoor.HandFields
