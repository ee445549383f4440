/- Base 32 without padding: its digits as arithmetic, and what the encoding and the row that is written look like in memory. -/
import Derived.Test.YtbmeegkgcipmoaaProg
import Derived.WalkSpells
import Derived.WalkLawsBesides
import Derived.Below
import Derived.Deep.Draws
import Derived.Deep.AppendLies
import Derived.Maps.AppendAt
import Derived.OwnWalk
import Derived.Laws.BytesArg
import Derived.Laws.MakeOwn
import Derived.Laws.OwnMore
import Derived.Deep.OwnRows
import Derived.Tactics
import Derived.Lib.ConvBytes
import Derived.Laws.Slices
import Derived.WalkKit
import Derived.KernelRfl
import Derived.RowKit3
import Derived.Deep.LoopGhost
import Derived.Deep.QuietTactic
import Derived.BigQuiet
import Derived.WideLaws
import Derived.Deep.DeepCutAuto
import Derived.Deep.CutBlock
import Derived.Deep.RegionHeld3
import Derived.Laws.Rows
import Derived.Lib.AppendStr
import Derived.ArgAppend
import Derived.Laws.IdiomCopy
import Derived.OrdersHeld
import Derived.Laws.BitsLemmas
import Derived.RowKit
import Derived.Test.YtbmeegkgcipmoaaLOwn
import Derived.Test.YtbmeegkgcipmoaaLOwn2
import Derived.Test.YtbmeegkgcipmoaaWWords
import Derived.Test.YtbmeegkgcipmoaaWLast
import Derived.Test.YtbmeegkgcipmoaaWTab
import Derived.Test.YtbmeegkgcipmoaaWFour
import Derived.Test.YtbmeegkgcipmoaaWQPut
import Derived.Test.YtbmeegkgcipmoaaWApart
import Derived.Test.YtbmeegkgcipmoaaWArr
import Derived.Test.YtbmeegkgcipmoaaWZeros
import Derived.Test.YtbmeegkgcipmoaaWFoot
import Derived.Test.YtbmeegkgcipmoaaWKept
import Derived.Test.YtbmeegkgcipmoaaWShare
import Derived.Test.YtbmeegkgcipmoaaWN
import Derived.Test.YtbmeegkgcipmoaaWFootNe
import Derived.Test.YtbmeegkgcipmoaaWAt
import Derived.Test.YtbmeegkgcipmoaaWEqStruct
import Derived.Test.YtbmeegkgcipmoaaWRepsOne
import Derived.Test.YtbmeegkgcipmoaaWInv
import Derived.Test.YtbmeegkgcipmoaaWInvWords
import Derived.Test.YtbmeegkgcipmoaaWGuard
import Derived.Test.YtbmeegkgcipmoaaWNEv
import Derived.Test.YtbmeegkgcipmoaaWMore
import Derived.StillTailTactics
namespace Go.Proofs.YtbmeegkgcipmoaaL
open Go Go.RowKit Go.Proofs.YtbmeegkgcipmoaaW.PrintWords Go.Proofs.YtbmeegkgcipmoaaW.PrintLast Go.Proofs.YtbmeegkgcipmoaaW.PrintMore
attribute [local go_sem] max2_int min2_int max_two min_two max_three min_three max_four min_four
set_option linter.unusedVariables false
set_option linter.unusedSimpArgs false
def alpha_ : ByteArray := ⟨#[65, 66, 67, 68, 69, 70, 71, 72, 73, 74, 75, 76, 77, 78, 79, 80, 81, 82, 83, 84, 85, 86, 87, 88, 89, 90, 50, 51, 52, 53, 54, 55]⟩
theorem alpha_size : alpha_.size = 32 := rfl
structure EncIs (W : World) (E : Nat) : Prop where
  blk : ∃ cs, W.heap[E]? = some (.cells cs 119 (0, 0)) ∧ cs[0]? = some (.string alpha_) ∧ cs[257]? = some (.int .i32 (-1))
theorem EncIs.c0 {W : World} {E : Nat} (h : EncIs W E) : W.cell? ⟨E, 0, none⟩ = some (.string alpha_) := by
  obtain ⟨cs, h1, h2, h3⟩ := h.blk
  unfold World.cell?
  rw [h1]
  exact h2
theorem EncIs.c1 {W : World} {E : Nat} (h : EncIs W E) : W.cell? ⟨E, 257, none⟩ = some (.int .i32 (-1)) := by
  obtain ⟨cs, h1, h2, h3⟩ := h.blk
  unfold World.cell?
  rw [h1]
  exact h3
theorem EncIs.move {W W1 : World} {E : Nat} (h : EncIs W E) (he : W1.heap[E]? = W.heap[E]?) : EncIs W1 E := by
  obtain ⟨cs, h1, h2, h3⟩ := h.blk
  exact ⟨cs, by rw [he]; exact h1, h2, h3⟩
theorem EncIs.lt {W : World} {E : Nat} (h : EncIs W E) : E < W.heap.size := by
  obtain ⟨cs, h1, h2, h3⟩ := h.blk
  rcases Nat.lt_or_ge E W.heap.size with h | h
  · exact h
  · rw [Array.getElem?_eq_none h] at h1; cases h1
/-- The row that is written, the encoding that is read, and what lay there before the call. -/
structure Enc (w0 W : World) (E g cap : Nat) (xs : List Int) (hh : Array Obj) : Prop where
  enc : EncIs W E
  ne : E ≠ g
  row : Kd.R (Kd.int .u8) 5 W w0.heap.size (fun k => k = g) (.slice (some ⟨g, 0, none⟩) xs.length cap) xs
  below : Below w0.heap.size w0 W
  oth : ∀ k o, hh[k]? = some o → k ≠ g → W.heap[k]? = some o
theorem Enc.drew {w0 W : World} {E g cap : Nat} {xs : List Int} {hh : Array Obj} (h : Enc w0 W E g cap xs hh) : Enc w0 W.drew E g cap xs hh := ⟨h.enc.move rfl, h.ne, Kd.R_drew h.row, below_drew h.below, h.oth⟩
theorem Enc.cell {w0 W : World} {E g cap : Nat} {xs : List Int} {hh : Array Obj} (h : Enc w0 W E g cap xs hh) (o : Nat) (ho : o < xs.length) : W.cell? ⟨g, o, none⟩ = some (.int .u8 (rd xs o)) ∧ W.frozen? ⟨g, o, none⟩ = false := by
  have := Kd.R_celln (0 : Int) h.row (o : Int) (by omega) (by omega)
  exact this
theorem Enc.put {w0 W : World} {E g cap : Nat} {xs : List Int} {hh : Array Obj} (h : Enc w0 W E g cap xs hh) (o : Nat) (ho : o < xs.length) (x : Int) : Enc w0 (W.setCell ⟨g, o, none⟩ (.int .u8 x)) E g cap (xs.set o x) hh := by
  have hp := Kd.R_putg h.row (o : Int) x
  have hge : w0.heap.size ≤ g := by
    obtain ⟨g', c', e, hg, _⟩ := Kd.R_form h.row (by omega)
    injection e with e1 _ _
    injection e1 with e1
    injection e1 with e1
    omega
  refine ⟨h.enc.move (hp.2.block E h.enc.lt (fun e => h.ne (by injection e))), h.ne, ?_, below_set h.below hge, fun k o hk hne => (hp.2.block k (blk_lt (h.oth k o hk hne)) (fun e => hne (by injection e))).trans (h.oth k o hk hne)⟩
  have := hp.1
  rw [show (xs.set o x).length = xs.length from List.length_set ..]
  exact this
theorem Enc.reads {w0 W : World} {E g cap : Nat} {xs : List Int} {hh : Array Obj} (h : Enc w0 W E g cap xs hh) {A : Option Addr} {l : List Int} (hl : Kd.C (Kd.int .u8) w0 A l.length l) : Kd.C (Kd.int .u8) W A l.length l := Kd.C_below hl h.below
theorem Enc.src {w0 W : World} {E g cap : Nat} {xs : List Int} {hh : Array Obj} (h : Enc w0 W E g cap xs hh) {b k : Nat} {l : List Int} (hl : Kd.C (Kd.int .u8) w0 (some ⟨b, k, none⟩) l.length l) (i : Nat) (hi : i < l.length) : W.cell? ⟨b, k + i, none⟩ = some (.int .u8 (rd l (i : Int))) := by
  obtain ⟨ad', e, h2⟩ := Kd.at_int (h.reads hl) (i : Int) (by omega) (by omega)
  injection e with e
  subst e
  rw [show (⟨b, k, none⟩ : Addr).add ((i : Int)).toNat = ⟨b, k + i, none⟩ from by
    rw [Int.toNat_natCast]; unfold Addr.add
    split
    · next h => rw [h, Nat.add_zero]
    · rfl] at h2
  exact h2
theorem reads_spot {w : World} {A : Option Addr} {l : List Int} (hl : Kd.C (Kd.int .u8) w A l.length l) (hp : 0 < l.length) : ∃ b k, A = some ⟨b, k, none⟩ := by
  obtain ⟨bd, eB, h⟩ := Kd.at_int hl 0 (by omega) (by omega)
  obtain ⟨b, k, s⟩ := bd
  refine ⟨b, k, ?_⟩
  rw [eB]
  have hz : (⟨b, k, s⟩ : Addr).add (0 : Int).toNat = ⟨b, k, s⟩ := rfl
  rw [hz] at h
  unfold World.cell? at h
  cases hb : w.heap[b]? with
  | none => rw [hb] at h; exact absurd h (by simp)
  | some o =>
    rw [hb] at h
    cases o <;> simp at h
    cases s with
    | none => rfl
    | some _ => simp at h
theorem or_comm8 (x y : Int) : Go.bits .or .u8 x y = Go.bits .or .u8 y x := by
  simp only [Go.bits]
  rw [BitVec.or_comm]
theorem and31 {x : Int} (h0 : 0 ≤ x) (h1 : x < 256) : Go.bits .and .u8 x 31 = x % 32 := u8_and31 x h0 h1
theorem or_of {x y : Int} (n : Nat) (hn : n ≤ 5) (hx : 0 ≤ x ∧ x < 2 ^ n) (hx2 : x < 256) (hy : 0 ≤ y ∧ y < 256) (hm : y % 2 ^ n = 0) : Go.bits .or .u8 x y = y + x := by
  rw [or_comm8]
  exact bits_join .u8 8 (by decide) wraps_u8 n y x hy.1 hm (by omega) hx.1 hx.2 (by omega)
section
variable {a b c d e : Int}
theorem d7 (he : 0 ≤ e ∧ e ≤ 255) : Go.bits .and .u8 e 31 = e % 32 := and31 he.1 (by omega)
theorem d5 (hd : 0 ≤ d ∧ d ≤ 255) : Go.bits .and .u8 (d / 4) 31 = d / 4 % 32 := and31 (by omega) (by omega)
theorem d2 (hb : 0 ≤ b ∧ b ≤ 255) : Go.bits .and .u8 (b / 2) 31 = b / 2 % 32 := and31 (by omega) (by omega)
theorem d0 (ha : 0 ≤ a ∧ a ≤ 255) : a / 8 = a / 8 := rfl
theorem d6 (hd : 0 ≤ d ∧ d ≤ 255) (he : 0 ≤ e ∧ e ≤ 255) : Go.bits .or .u8 (e / 32) (Go.bits .and .u8 (IntKind.u8.wrap (d * 8)) 31) = d % 4 * 8 + e / 32 := by
  rw [IntKind.wrap_u8, and31 (by omega) (by omega), or_of 3 (by decide) (by constructor <;> omega) (by omega) (by constructor <;> omega) (by omega)]; omega
theorem d6z (hd : 0 ≤ d ∧ d ≤ 255) : Go.bits .and .u8 (IntKind.u8.wrap (d * 8)) 31 = d % 4 * 8 := by
  rw [IntKind.wrap_u8, and31 (by omega) (by omega)]; omega
theorem d4 (hc : 0 ≤ c ∧ c ≤ 255) (hd : 0 ≤ d ∧ d ≤ 255) : Go.bits .or .u8 (d / 128) (Go.bits .and .u8 (IntKind.u8.wrap (c * 2)) 31) = c % 16 * 2 + d / 128 := by
  rw [IntKind.wrap_u8, and31 (by omega) (by omega), or_of 1 (by decide) (by constructor <;> omega) (by omega) (by constructor <;> omega) (by omega)]; omega
theorem d4z (hc : 0 ≤ c ∧ c ≤ 255) : Go.bits .or .u8 0 (Go.bits .and .u8 (IntKind.u8.wrap (c * 2)) 31) = c % 16 * 2 := by
  rw [IntKind.wrap_u8, and31 (by omega) (by omega), or_of 1 (by decide) (by constructor <;> omega) (by omega) (by constructor <;> omega) (by omega)]; omega
theorem d3 (hb : 0 ≤ b ∧ b ≤ 255) (hc : 0 ≤ c ∧ c ≤ 255) : Go.bits .and .u8 (Go.bits .or .u8 (c / 16) (IntKind.u8.wrap (b * 16))) 31 = b % 2 * 16 + c / 16 := by
  rw [IntKind.wrap_u8, or_of 4 (by decide) (by constructor <;> omega) (by omega) (by constructor <;> omega) (by omega), and31 (by omega) (by omega)]; omega
theorem d3t (hb : 0 ≤ b ∧ b ≤ 255) (hc : 0 ≤ c ∧ c ≤ 255) : Go.bits .or .u8 (Go.bits .and .u8 (c / 16) 31) (Go.bits .and .u8 (IntKind.u8.wrap (b * 16)) 31) = b % 2 * 16 + c / 16 := by
  rw [IntKind.wrap_u8, and31 (by omega) (by omega), and31 (by omega) (by omega), or_of 4 (by decide) (by constructor <;> omega) (by omega) (by constructor <;> omega) (by omega)]; omega
theorem d3z (hb : 0 ≤ b ∧ b ≤ 255) : Go.bits .or .u8 0 (Go.bits .and .u8 (IntKind.u8.wrap (b * 16)) 31) = b % 2 * 16 := by
  rw [IntKind.wrap_u8, and31 (by omega) (by omega), or_of 4 (by decide) (by constructor <;> omega) (by omega) (by constructor <;> omega) (by omega)]; omega
theorem d1 (ha : 0 ≤ a ∧ a ≤ 255) (hb : 0 ≤ b ∧ b ≤ 255) : Go.bits .and .u8 (Go.bits .or .u8 (b / 64) (IntKind.u8.wrap (a * 4))) 31 = a % 8 * 4 + b / 64 := by
  rw [IntKind.wrap_u8, or_of 2 (by decide) (by constructor <;> omega) (by omega) (by constructor <;> omega) (by omega), and31 (by omega) (by omega)]; omega
theorem d1t (ha : 0 ≤ a ∧ a ≤ 255) (hb : 0 ≤ b ∧ b ≤ 255) : Go.bits .or .u8 (Go.bits .and .u8 (b / 64) 31) (Go.bits .and .u8 (IntKind.u8.wrap (a * 4)) 31) = a % 8 * 4 + b / 64 := by
  rw [IntKind.wrap_u8, and31 (by omega) (by omega), and31 (by omega) (by omega), or_of 2 (by decide) (by constructor <;> omega) (by omega) (by constructor <;> omega) (by omega)]; omega
theorem d1z (ha : 0 ≤ a ∧ a ≤ 255) : Go.bits .or .u8 0 (Go.bits .and .u8 (IntKind.u8.wrap (a * 4)) 31) = a % 8 * 4 := by
  rw [IntKind.wrap_u8, and31 (by omega) (by omega), or_of 2 (by decide) (by constructor <;> omega) (by omega) (by constructor <;> omega) (by omega)]; omega
end
def encB (r : List Int) : List Int := [bt alpha_ (rd r 0 / 8), bt alpha_ (rd r 0 % 8 * 4 + rd r 1 / 64), bt alpha_ (rd r 1 / 2 % 32), bt alpha_ (rd r 1 % 2 * 16 + rd r 2 / 16), bt alpha_ (rd r 2 % 16 * 2 + rd r 3 / 128), bt alpha_ (rd r 3 / 4 % 32), bt alpha_ (rd r 3 % 4 * 8 + rd r 4 / 32), bt alpha_ (rd r 4 % 32)]
def encT (r : List Int) : List Int :=
  if r.length = 4 then [bt alpha_ (rd r 0 / 8), bt alpha_ (rd r 0 % 8 * 4 + rd r 1 / 64), bt alpha_ (rd r 1 / 2 % 32), bt alpha_ (rd r 1 % 2 * 16 + rd r 2 / 16), bt alpha_ (rd r 2 % 16 * 2 + rd r 3 / 128), bt alpha_ (rd r 3 / 4 % 32), bt alpha_ (rd r 3 % 4 * 8)]
  else if r.length = 3 then [bt alpha_ (rd r 0 / 8), bt alpha_ (rd r 0 % 8 * 4 + rd r 1 / 64), bt alpha_ (rd r 1 / 2 % 32), bt alpha_ (rd r 1 % 2 * 16 + rd r 2 / 16), bt alpha_ (rd r 2 % 16 * 2)]
  else if r.length = 2 then [bt alpha_ (rd r 0 / 8), bt alpha_ (rd r 0 % 8 * 4 + rd r 1 / 64), bt alpha_ (rd r 1 / 2 % 32), bt alpha_ (rd r 1 % 2 * 16)]
  else if r.length = 1 then [bt alpha_ (rd r 0 / 8), bt alpha_ (rd r 0 % 8 * 4)] else []
/-- Base 32 without padding, by fives. -/
def enc32 : Nat → List Int → List Int
  | 0, _ => []
  | n + 1, r => if 4 < r.length then encB r ++ enc32 n (r.drop 5) else encT r
def enc32_ (r : List Int) : List Int := enc32 (r.length + 1) r
theorem enc32_eq : ∀ (n m : Nat) (r : List Int), r.length < n → r.length < m → enc32 n r = enc32 m r
  | 0, _, _, h, _ => absurd h (Nat.not_lt_zero _)
  | _ + 1, 0, _, _, h => absurd h (Nat.not_lt_zero _)
  | n + 1, m + 1, r, h1, h2 => by
    unfold enc32
    split
    · rw [enc32_eq n m (r.drop 5) (by rw [List.length_drop]; omega) (by rw [List.length_drop]; omega)]
    · rfl
theorem enc32_more {r : List Int} (h : 4 < r.length) : enc32_ r = encB r ++ enc32_ (r.drop 5) := by
  unfold enc32_
  rw [show enc32 (r.length + 1) r = encB r ++ enc32 r.length (r.drop 5) from by conv => { lhs; unfold enc32 }; rw [if_pos h]]
  rw [enc32_eq r.length ((r.drop 5).length + 1) (r.drop 5) (by rw [List.length_drop]; omega) (by omega)]
theorem enc32_tail {r : List Int} (h : ¬ 4 < r.length) : enc32_ r = encT r := by
  unfold enc32_ enc32
  rw [if_neg h]
theorem encB_len (r : List Int) : (encB r).length = 8 := rfl
theorem encT_len {r : List Int} (h : ¬ 4 < r.length) : (encT r).length = (8 * r.length + 4) / 5 := by
  unfold encT
  split
  · simp_all
  split
  · simp_all
  split
  · simp_all
  split
  · simp_all
  · have : r.length = 0 := by omega
    simp_all
theorem enc32_len : ∀ (n : Nat) (r : List Int), r.length ≤ n → (enc32_ r).length = (8 * r.length + 4) / 5
  | n, r, h => by
    by_cases h4 : 4 < r.length
    · match n with
      | 0 => omega
      | n + 1 => rw [enc32_more h4, List.length_append, encB_len, enc32_len n (r.drop 5) (by rw [List.length_drop]; omega), List.length_drop]; omega
    · rw [enc32_tail h4, encT_len h4]
/-- What is written from place o on. -/
def putAt (xs : List Int) (o : Nat) (ys : List Int) : List Int := xs.take o ++ ys ++ xs.drop (o + ys.length)
theorem putAt_nil (xs : List Int) (o : Nat) : putAt xs o [] = xs := by simp [putAt]
theorem putAt_cons (xs : List Int) (o : Nat) (y : Int) (ys : List Int) (h : o + ys.length < xs.length) : putAt xs o (y :: ys) = (putAt xs (o + 1) ys).set o y := by
  apply List.ext_getElem?
  intro j
  simp only [putAt, List.getElem?_set, List.getElem?_append, List.getElem?_take, List.getElem?_drop, List.length_take, List.length_append, List.length_cons, List.length_drop, List.getElem?_cons]
  by_cases h1 : j < o
  · repeat' split
    all_goals first | rfl | omega | (congr 1; omega)
  · by_cases h2 : j = o
    · subst h2
      repeat' split
      all_goals first | rfl | omega | (congr 1; omega) | (simp_all; done)
    · repeat' split
      all_goals first | rfl | omega | (congr 1; omega)
theorem putAt_app (xs : List Int) (o : Nat) (ys zs : List Int) (h : o + ys.length + zs.length ≤ xs.length) : putAt (putAt xs o ys) (o + ys.length) zs = putAt xs o (ys ++ zs) := by
  apply List.ext_getElem?
  intro j
  simp only [putAt, List.getElem?_append, List.getElem?_take, List.getElem?_drop, List.length_take, List.length_append, List.length_drop]
  repeat' split
  all_goals first | rfl | omega | (congr 1; omega)
theorem putAt_len (xs : List Int) (o : Nat) (ys : List Int) (h : o + ys.length ≤ xs.length) : (putAt xs o ys).length = xs.length := by
  simp [putAt]; omega
theorem info5b : (Try.prog.info? 5).map (fun i => (i.zero, i.size, i.bytes)) = some (some (.int .u8 0), 1, 1) := by kernel_rfl
end Go.Proofs.YtbmeegkgcipmoaaL
