/- The rows of the law FnFieldsScript in memory; what it calls behind its loop. -/
import Derived.Test.YtnhnlodmkbiiiaaDoorRS3
import Derived.Test.YtnhnlodmkbiiiaaDoorRPScrx3
import Derived.Test.YtnhnlodmkbiiiaaDoorRPScrx4
import Derived.Test.YtnhnlodmkbiiiaaDoorRPScrx5
import Derived.Test.YtnhnlodmkbiiiaaDoorRPScrx6
import Derived.Test.YtnhnlodmkbiiiaaDoorRPScrx9
namespace Go.Proofs.YtnhnlodmkbiiiaaDoor.HandFields
open Go Go.RowKit Go.Proofs.YtnhnlodmkbiiiaaDoorL Go.Proofs.YtnhnlodmkbiiiaaDoorW.PrintWords Go.Proofs.YtnhnlodmkbiiiaaDoorW.PrintLast Go.Proofs.YtnhnlodmkbiiiaaDoorW.PrintMore Go.Proofs.YtnhnlodmkbiiiaaDoor.PFieldsBase Go.Proofs.YtnhnlodmkbiiiaaDoor.PScr
attribute [local go_sem] max2_int min2_int max_two min_two max_three min_three max_four min_four
set_option linter.unusedVariables false
set_option linter.unusedSimpArgs false
/-- What the law's rows are, in memory. -/
structure LW (w W : World) (s : LS) (v5 v6 v7 : Value) : Prop where
 below : Below w.heap.size w W
 steps : Kd.R k65 65 W w.heap.size (fun _ => True) v5 s.st
 sizes : Sz W w.heap.size v6 s.sz
 data : Kd.R (Kd.int .u8) 5 W w.heap.size (fun _ => True) v7 s.da
/-- The edit that the round holds, in a box, with data of its own. -/
structure BX (wr W : World) (gb : Nat) (a : Int) (vN : Value) (xs : List Int) (z ix : Int) : Prop where
 ge : wr.heap.size ≤ gb
 blk : W.heap[gb]? = some (.cells #[.int .i64 a, vN, .int .u64 z, .int .i64 ix] 65 (0, 0))
 row : Kd.R (Kd.int .u8) 5 W wr.heap.size (fun _ => True) vN xs
section
variable {w W W' wr : World} {s : LS} {v5 v6 v7 vN v1 : Value} {gb : Nat} {a z ix : Int} {xs : List Int}
theorem Sz.below (h : Sz W w.heap.size v6 s.sz) (hb : Below W.heap.size W W') : Sz W' w.heap.size v6 s.sz := h.step fun k hk => by
 obtain ⟨_, cs, hc⟩ := h.typed k hk
 exact hb.block k (blk_lt hc)
theorem LW.more (h : LW w W s v5 v6 v7) (hb : Below W.heap.size W W') : LW w W' s v5 v6 v7 :=
 ⟨below_step h.below hb, Kd.R_below h.steps hb, h.sizes.below hb, Kd.R_below h.data hb⟩
theorem BX.more (h : BX wr W gb a vN xs z ix) (hb : Below W.heap.size W W') : BX wr W' gb a vN xs z ix :=
 ⟨h.ge, (hb.block _ (blk_lt h.blk)).trans h.blk, Kd.R_below h.row hb⟩
theorem LW.below' (h : LW w W s v5 v6 v7) {row : Option Nat} (hg : W.grownBy W' row) (hr : ∀ k, row = some k → w.heap.size ≤ k) : Below w.heap.size w W' := pw_below_grown h.below row h.below.size hg hr
/-- The sizes are others. -/
theorem LW.setSizes (h : LW w W s v5 v6 v7) {sz : List Int} {W0 : World} (hb0 : Below W.heap.size W W0) (hg : W0.grownBy W' v6.ownBlock) (hS : Sz W' w.heap.size v1 sz) : LW w W' { s with sz := sz } v5 v1 v7 := by
 have h0 := h.more hb0
 exact ⟨h0.below' hg (fun k hk => (h0.sizes.typed k hk).1), Kd.R_over' h0.steps (fun k hk => (h0.sizes.typed k hk).2) (by decide) hg, hS, Kd.R_over' h0.data (fun k hk => (h0.sizes.typed k hk).2) (by decide) hg⟩
theorem BX.grow (h : BX wr W gb a vN xs z ix) {W0 : World} (hb0 : Below W.heap.size W W0) {row : Option Nat} (hg : W0.grownBy W' row) (hr : ∀ k, row = some k → ∃ cells, W0.heap[k]? = some (.cells cells 24 (0, 0))) : BX wr W' gb a vN xs z ix := by
 have h0 := h.more hb0
 refine ⟨h0.ge, (hg.block gb (blk_lt h0.blk) (fun e => ?_)).trans h0.blk, Kd.R_over' (v := .slice (row.map (fun k => ⟨k, 0, none⟩)) 0 0) (e' := 24) h0.row (fun k hk => hr k ?_) (by decide) (by cases row <;> exact hg)⟩
 ·obtain ⟨cs, hc⟩ := hr gb e.symm
  rw [h0.blk] at hc
  injection hc with hc
  injection hc with _ h2
  cases h2
 ·cases row with
  | none => cases hk
  | some r => simpa [Value.ownBlock] using hk
/-- An edit more. -/
theorem LW.push (h : LW w W s v5 v6 v7) {W0 : World} (hb0 : Below W.heap.size W W0) {x : S65} (hR : Kd.R k65 65 W' w.heap.size (fun _ => True) v1 (s.st ++ [x])) (hb : Below w.heap.size w W') (hg : W0.grownBy W' v5.ownBlock) : LW w W' { s with st := s.st ++ [x] } v1 v6 v7 := by
 have h0 := h.more hb0
 refine ⟨hb, hR, h0.sizes.step fun k hk => ?_, Kd.R_over' h0.data (Kd.R_typed h0.steps) (by decide) hg⟩
 obtain ⟨_, cs, hc⟩ := h0.sizes.typed k hk
 refine hg.block k (blk_lt hc) fun e => ?_
 obtain ⟨cs', hc'⟩ := Kd.R_typed h0.steps k e.symm
 rw [hc] at hc'
 injection hc' with hc'
 injection hc' with _ h2
 cases h2
theorem BX.elem (h : BX wr W gb a vN xs z ix) (hw : w.heap.size ≤ wr.heap.size) : k65.M W w.heap.size (fun k => wr.heap.size ≤ k) ⟨a, xs, z, ix⟩ [.int .i64 a, vN, .int .u64 z, .int .i64 ix] :=
 k65_mkM _ _ _ ⟨a, xs, z, ix⟩ (Kd.R_lower (Kd.R_mono (Kd.R_bound h.row) (fun k hk => hk.2.1)) hw)
theorem LW.apart (h : LW w wr s v5 v6 v7) : ∀ k, wr.heap.size ≤ k → True ∧ some k ≠ v5.ownBlock := fun k hk => ⟨trivial, fun e => by have := Kd.R_lt h.steps k e.symm; omega⟩
theorem Sz.form {l : List Int} {base : Nat} (h : Sz W base v6 l) (hp : 0 < l.length) : ∃ g c, v6 = .slice (some ⟨g, 0, none⟩) l.length c ∧ l.length ≤ c ∧ base ≤ g ∧ (∃ cs, W.heap[g]? = some (.cells cs 24 (0, 0))) ∧ Kd.C (Kd.int .u64) W (some ⟨g, 0, none⟩) l.length l := by
 have ht := h.typed
 obtain ⟨A, c, e, hl, hC⟩ := h.slice
 rcases h with h | ⟨g, cs, e', hb, hh, hC'⟩
 ·obtain ⟨g, cap, e', hb, _, cs, hh⟩ := Kd.R_form h hp
  rw [e'] at e
  injection e with e1 e2 e3
  subst e1 e3
  exact ⟨g, cap, e', hl, hb, ⟨cs, hh⟩, hC⟩
 ·rw [e'] at e
  injection e with e1 e2 e3
  subst e1 e3
  exact ⟨g, l.length, e', Nat.le_refl _, hb, ⟨cs, hh⟩, hC'⟩
/-- The first sizes, cut so that the row is full. -/
theorem Sz.cut {l : List Int} {base g c : Nat} (hb : base ≤ g) (hh : ∃ cs, W.heap[g]? = some (.cells cs 24 (0, 0))) (hC : Kd.C (Kd.int .u64) W (some ⟨g, 0, none⟩) l.length l) (i : Nat) (hi : i ≤ l.length) : Sz W base (.slice (some ⟨g, 0, none⟩) i i) (l.take i) := by
 obtain ⟨cs, hh⟩ := hh
 have e : (l.take i).length = i := by rw [List.length_take]; omega
 refine .inr ⟨g, cs, by rw [e], hb, hh, Kd.C_take hC hi⟩
end
theorem erase_eq (l : List Int) (i : Nat) : l.take i ++ l.drop (i + 1) = l.eraseIdx i := (List.eraseIdx_eq_take_drop_succ ..).symm
/-- Nothing that came in is too long, or something is: it is told. -/
theorem fits1_told (l : List S65) (hx : l.length ≤ 9223372036854775807) : ∃ k r, laws_zzFits1.f k l = some r := by
 unfold laws_zzFits1.f
 by_cases h : (l.length : Int) > 2147483647
 ·exact ⟨0, false, by rw [if_pos h]⟩
 ·have key : ∀ n j, j + n = l.length → ∃ r, laws_zzFits1.l0 (n + 1) l (l.length : Int) (j : Int) = some r := by
   intro n
   induction n with
   | zero => intro j hj; exact ⟨true, by simp only [laws_zzFits1.l0]; rw [if_neg (by omega)]⟩
   | succ n ih =>
    intro j hj
    obtain ⟨r, hr⟩ := ih (j + 1) (by omega)
    have e : wrap64 ((j : Int) + 1) = ((j + 1 : Nat) : Int) := by unfold wrap64; omega
    have h2 : ∃ b, laws_zzFits2.f (rd_T65 l (j : Int)).f0 (rd_T65 l (j : Int)).f1 (rd_T65 l (j : Int)).f2 (rd_T65 l (j : Int)).f3 = some b := by
     unfold laws_zzFits2.f
     split
     ·exact ⟨_, rfl⟩
     ·exact ⟨_, rfl⟩
    obtain ⟨b, hb⟩ := h2
    refine ⟨if b = true then r else false, ?_⟩
    rw [laws_zzFits1.l0, if_pos (by omega), if_pos (by omega), if_pos (by omega), hb, Option.bind_some, e, hr]
    cases b <;> rfl
  obtain ⟨r, hr⟩ := key l.length 0 (by omega)
  exact ⟨_, r, by rw [if_neg h]; exact hr⟩
theorem u64_mod (x : Int) : IntKind.u64.wrap x = x % 18446744073709551616 := by rfl
theorem u64_sum (s a b : Nat) (h : b ≤ s) (hs : s < 2305843009213693952) (ha : a ≤ 1000000) : IntKind.u64.wrap ((s : Int) + IntKind.u64.wrap ((a : Int) - (b : Int))) = ((s + a - b : Nat) : Int) := by
 rw [u64_mod, u64_mod]
 omega
theorem LW.setData {w W wr : World} {s : LS} {v5 v6 v7 vN : Value} {xs : List Int} (h : LW w W s v5 v6 v7) (hR : Kd.R (Kd.int .u8) 5 W wr.heap.size (fun _ => True) vN xs) (hw : w.heap.size ≤ wr.heap.size) : LW w W { s with da := xs } v5 v6 vN :=
 ⟨h.below, h.steps, h.sizes, Kd.R_lower hR hw⟩
section
variable (s : LS) (a : Int) (xs : List Int) (z i : Int)
theorem lstep_0 : lstep s ⟨0, xs, z, i⟩ = ⟨s.st ++ [⟨0, xs, z, i⟩], s.sz, xs, s.sum + xs.length - s.da.length, true⟩ := rfl
theorem lstep_1 : lstep s ⟨1, xs, z, i⟩ = ⟨s.st ++ [⟨1, xs, z, i⟩], s.sz ++ [z], s.da, s.sum + z.toNat, s.has⟩ := rfl
theorem lstep_2e (h : s.sz = []) : lstep s ⟨2, xs, z, i⟩ = s := if_pos h
theorem lstep_2 (h : ¬ s.sz = []) : lstep s ⟨2, xs, z, i⟩ = ⟨s.st ++ [⟨2, xs, z, (lix i s.sz.length : Int)⟩], s.sz.eraseIdx (lix i s.sz.length), s.da, s.sum - (rd s.sz (lix i s.sz.length : Int)).toNat, s.has⟩ := if_neg h
theorem lstep_3 : lstep s ⟨3, xs, z, i⟩ = ⟨s.st ++ [⟨3, xs, z, i⟩], [], s.da, s.da.length, s.has⟩ := rfl
theorem lstep_4 : lstep s ⟨4, xs, z, i⟩ = ⟨s.st ++ [⟨4, xs, z, i⟩], s.sz, s.da, s.sum + z.toNat, s.has⟩ := rfl
theorem lstep_n (h0 : a ≠ 0) (h1 : a ≠ 1) (h2 : a ≠ 2) (h3 : a ≠ 3) (h4 : a ≠ 4) : lstep s ⟨a, xs, z, i⟩ = s := by
 unfold lstep
 rw [if_neg h0, if_neg h1, if_neg h2, if_neg h3, if_neg h4]
end
theorem u64_add (s : Nat) (z : Int) (h0 : 0 ≤ z) (h1 : z < 1125899906842624) (hs : s < 2305843009213693952) : IntKind.u64.wrap ((s : Int) + z) = ((s + z.toNat : Nat) : Int) := by
 rw [u64_mod]
 omega
theorem C_one (W : World) (z : Int) : Kd.C (Kd.int .u64) (W.alloc (.cells #[.int .u64 z] 24)) (some ⟨W.heap.size, 0, none⟩) 1 [z] := by
 refine ⟨rfl, by decide, fun _ => ⟨_, rfl, fun j p hj => ?_⟩⟩
 match j, hj with
 | 0, hj =>
  obtain rfl : z = p := by simpa using hj
  refine ⟨[.int .u64 z], rfl, rfl, fun i u hu => ?_⟩
  match i, hu with
  | 0, hu =>
   obtain rfl : Value.int .u64 z = u := by simpa using hu
   exact (blk_cell (blk_new W (.cells #[.int .u64 z] 24)) 0).trans rfl
theorem wsucc (j : Nat) (h : j < 9223372036854775807) : wrap64 ((j : Int) + 1) = ((j + 1 : Nat) : Int) := by unfold wrap64; omega
theorem u64_id {x : Int} (h0 : 0 ≤ x) (h1 : x < 18446744073709551616) : IntKind.u64.wrap x = x := by
 rw [u64_mod, Int.emod_eq_of_lt h0 h1]
theorem sameS_refl (l : List Int) : PScr.spec_SameBytes.f l l = some true := by unfold PScr.spec_SameBytes.f; rw [beq_self_eq_true]
theorem sfs_l0 (a : Int) (l1 : List Int) (s : Int) (l3 : List Int) (h f : Int) (hl : l3.length ≤ 4611686018427387904) : ∀ (n j k : Nat), j + n = l3.length → n < k → spec_SameFS.l0 k (l3.length : Int) (j : Int) a l1 s l3 h f a l1 s l3 h f = some true
 | 0, j, k, hj, hk => by
  obtain ⟨k, rfl⟩ : ∃ m, k = m + 1 := ⟨k - 1, by omega⟩
  rw [spec_SameFS.l0, if_neg (by omega)]
 | n + 1, j, k, hj, hk => by
  obtain ⟨k, rfl⟩ : ∃ m, k = m + 1 := ⟨k - 1, by omega⟩
  rw [spec_SameFS.l0, if_pos (by omega), if_pos (by omega), if_pos (by omega), if_pos (by omega), if_pos rfl, wsucc j (by omega)]
  exact sfs_l0 a l1 s l3 h f hl n (j + 1) k (by omega) (by omega)
theorem sfs_refl (a : Int) (l1 : List Int) (s : Int) (l3 : List Int) (h f : Int) (k : Nat) (hl : l3.length ≤ 4611686018427387904) (hk : l3.length + 1 < k) : spec_SameFS.f k a l1 s l3 h f a l1 s l3 h f = some true := by
 obtain ⟨k, rfl⟩ : ∃ m, k = m + 1 := ⟨k - 1, by omega⟩
 unfold spec_SameFS.f
 rw [if_pos rfl, sameS_refl, Option.bind_some, if_pos rfl, if_pos rfl, if_pos rfl, if_pos rfl, spec_SameFS.j0, if_neg (by simp)]
 exact sfs_l0 a l1 s l3 h f hl l3.length 0 k (by omega) (by omega)
theorem told_eq (a n : Nat) (l1 : List Int) (d : Dat) (l3 : List Int) (k : Nat) (hk : 0 < k) (hl : l1.length ≤ 1000000) (hd : d.ty = a) (hs : d.size = some n) (hx : d.data.getD [] = l1) : spec_Told.f k (a : Int) l1 (n : Int) l3 0 0 = some ((a : Int), l1, fsz d, l3, 0, 0) := by
 obtain ⟨k, rfl⟩ : ∃ m, k = m + 1 := ⟨k - 1, by omega⟩
 have hz : fsz d = if a = 0 ∨ a = 2 then (n : Int) else if a = 4 then (l1.length : Int) else 0 := by unfold fsz; rw [hd, hs, hx]; rfl
 have e : ∀ b c, spec_SizeOf.f (k + 1) (a : Int) l1 (n : Int) l3 b c = some (fsz d, (spec_SizeOf.f (k + 1) (a : Int) l1 (n : Int) l3 b c).elim false (fun p => p.2)) := by
  intro b c
  unfold spec_SizeOf.f
  by_cases h0 : a = 0
  ·have hz0 : fsz d = (n : Int) := by rw [hz]; exact if_pos (.inl h0)
   rw [hz0]
   subst h0
   simp [spec_SizeOf.j0]
  by_cases h2 : a = 2
  ·have hz0 : fsz d = (n : Int) := by rw [hz]; exact if_pos (.inr h2)
   rw [hz0]
   subst h2
   simp [spec_SizeOf.j0]
  have n1 : ¬ (a = 0 ∨ a = 2) := by omega
  have n2 : ¬ ((a : Int) = 0) := by omega
  have n3 : ¬ (((a : Int) == 2) = true) := by simp; omega
  rw [if_neg n1] at hz
  rw [if_neg n2, spec_SizeOf.j0, if_neg n3]
  by_cases h4 : a = 4
  ·rw [if_pos h4] at hz
   have n4 : (a : Int) = 4 := by omega
   rw [hz, if_pos n4, u64_id (by omega) (by omega)]
   rfl
  ·rw [if_neg h4] at hz
   have n4 : ¬ ((a : Int) = 4) := by omega
   rw [hz, if_neg n4]
   rfl
 unfold spec_Told.f
 rw [e]
 rfl
/-- The message of a file that was edited so. -/
def dOf (k : Nat) (s : LS) : Dat := ⟨k, if s.has = true then some s.da else none, some s.sum, s.sz⟩
theorem dOf_data {k : Nat} {s : LS} {j : Nat} (h : LI k s j) : (dOf k s).data.getD [] = s.da := getD_if s.has s.da h.no
theorem dOf_fit {k : Nat} {s : LS} {j : Nat} (h : LI k s j) (hk : k < 1000) (hj : j ≤ 1000) : Fit (dOf k s) := by
 have h1 := h.hi
 have h2 : j * 1125899906842624 ≤ 1000 * 1125899906842624 := Nat.mul_le_mul_right _ hj
 refine ⟨hk, fun xs e => ?_, fun n e => ?_, fun x hx => ?_, ?_⟩
 ·unfold dOf at e
  dsimp only at e
  split at e
  ·injection e with e; rw [← e]; have := h.da; omega
  ·cases e
 ·unfold dOf at e
  injection e with e
  omega
 ·have := h.szb x hx
  exact ⟨this.1, by omega⟩
 ·have := h.sz
  show s.sz.length ≤ _
  omega
theorem dOf_len {k : Nat} {s : LS} {j : Nat} (h : LI k s j) (hk : k < 1000) (hj : j ≤ 1000) : (marsh (dOf k s)).length ≤ 1000000 := by
 have h1 := uv_len k (by omega)
 have h2 := uv_len s.sum (by have h1 := h.hi; have h2 : j * 1125899906842624 ≤ 1000 * 1125899906842624 := Nat.mul_le_mul_right _ hj; omega)
 have h3 := uv_len s.da.length (by have := h.da; omega)
 have h4 := blkF_len s.sz (fun x hx => ⟨(h.szb x hx).1, by have := (h.szb x hx).2; omega⟩)
 have h5 := h.sz
 have h6 := h.da
 unfold marsh
 rw [dataF_eq, sizeF_eq]
 unfold dOf
 dsimp only
 split
 ·next e =>
  split at e
  ·cases e
  ·simp only [List.length_append, List.length_cons, List.length_nil]; omega
 ·next e =>
  split at e
  ·injection e with e
   subst e
   simp only [List.length_append, List.length_cons]; omega
  ·cases e
theorem FSEd_s (w : World) (k : Nat) (s : LS) (j : Nat) (hI : LI k s j) (hk : k < 1000) (hj : j ≤ 1000) (A : Option Addr) (c : Nat) (hC : Kd.C k65 w A s.st.length s.st) :
  Calls Tryd.prog 36 #[.int .i64 (k : Int), .slice A s.st.length c] w fun e w' => ∃ A1 k1 A3 k3 AB kB, e = .returned (.tuple #[.agg #[.int .i64 (k : Int), .slice A1 s.da.length k1, .int .u64 (fsz (dOf k s)), .slice A3 s.sz.length k3, .int .u64 0, .int .u64 0], .int .i64 (s.sz.length : Int), .slice AB (marsh (dOf k s)).length kB]) ∧
   Kd.R (Kd.int .u8) 5 w' w.heap.size (fun _ => True) (.slice A1 s.da.length k1) s.da ∧ Kd.R (Kd.int .u64) 24 w' w.heap.size (fun _ => True) (.slice A3 s.sz.length k3) s.sz ∧ Kd.R (Kd.int .u8) 5 w' w.heap.size (fun _ => True) (.slice AB (marsh (dOf k s)).length kB) (marsh (dOf k s)) ∧ Below w.heap.size w w' := by
 have h := FSEd_calls w k A c s.st hC hk (by have := hI.st; omega) hI.ok
 have hd := dOf_data hI
 rw [show edits ⟨k, none, some 0, []⟩ s.st = dOf k s from hI.ed, hd] at h
 refine h.mono ?_
 rintro e w' ⟨v1, v3, vb, rfl, h1, h3, hb, hB⟩
 obtain ⟨A1, k1, rfl⟩ := Kd.R_slice h1
 obtain ⟨A3, k3, rfl⟩ := Kd.R_slice h3
 obtain ⟨AB, kB, rfl⟩ := Kd.R_slice hb
 exact ⟨A1, k1, A3, k3, AB, kB, rfl, h1, h3, hb, hB⟩
theorem Msg_s (w : World) (k : Nat) (s : LS) (j : Nat) (hI : LI k s j) (hk : k < 1000) (hj : j ≤ 1000) (A : Option Addr) (c : Nat) (hR : Kd.R (Kd.int .u8) 5 w w.heap.size (fun _ => True) (.slice A (marsh (dOf k s)).length c) (marsh (dOf k s)) ∨ ∃ b, Kd.R (Kd.int .u8) 5 w b (fun _ => True) (.slice A (marsh (dOf k s)).length c) (marsh (dOf k s))) :
  Calls Tryd.prog 37 #[.slice A (marsh (dOf k s)).length c] w fun e w' => ∃ A1 k1 A3 k3, e = .returned (.tuple #[.agg #[.int .i64 (k : Int), .slice A1 s.da.length k1, .int .u64 (s.sum : Int), .slice A3 s.sz.length k3, .int .u64 0, .int .u64 0], .bool true]) ∧
   Kd.R (Kd.int .u8) 5 w' w.heap.size (fun _ => True) (.slice A1 s.da.length k1) s.da ∧ Kd.R (Kd.int .u64) 24 w' w.heap.size (fun _ => True) (.slice A3 s.sz.length k3) s.sz ∧ Below w.heap.size w w' := by
 obtain ⟨K, hK⟩ := ms_marsh (dOf_fit hI hk hj) (fun x hx => by have := (hI.szb x hx).2; omega) (fun n e => by unfold dOf at e; injection e with e; have h1 := hI.hi; have h2 : j * 1125899906842624 ≤ 1000 * 1125899906842624 := Nat.mul_le_mul_right _ hj; omega) (fun xs e => by
  unfold dOf at e
  dsimp only at e
  split at e
  ·injection e with e; rw [← e]; exact hI.dab
  ·cases e) (dOf_len hI hk hj)
 have h := hK K (Nat.le_refl _)
 rw [dOf_data hI] at h
 have hV : Kd.V (Kd.int .u8) 5 w w.heap.size (fun _ => True) (.slice A (marsh (dOf k s)).length c) (marsh (dOf k s)) := by
  rcases hR with hR | ⟨b, hR⟩
  ·exact Kd.R_V hR
  ·exact Kd.R_V hR
 refine (spec_Message.calls K (fun _ => True) A c (marsh (dOf k s)) _ _ _ _ _ _ _ w hV h).mono ?_
 rintro e w' ⟨v1, v3, rfl, h1, h3, hB⟩
 obtain ⟨A1, k1, rfl⟩ := Kd.R_slice h1
 obtain ⟨A3, k3, rfl⟩ := Kd.R_slice h3
 exact ⟨A1, k1, A3, k3, rfl, Kd.R_mono h1 (fun _ _ => trivial), Kd.R_mono h3 (fun _ _ => trivial), hB⟩
theorem Told_s (w : World) (k : Nat) (s : LS) (j : Nat) (hI : LI k s j) (A1 : Option Addr) (c1 : Nat) (A3 : Option Addr) (c3 : Nat) (h1 : Kd.C (Kd.int .u8) w A1 s.da.length s.da) (l1 : s.da.length ≤ c1) (h3 : Kd.C (Kd.int .u64) w A3 s.sz.length s.sz) (l3 : s.sz.length ≤ c3) :
  Calls Tryd.prog 34 #[.agg #[.int .i64 (k : Int), .slice A1 s.da.length c1, .int .u64 (s.sum : Int), .slice A3 s.sz.length c3, .int .u64 0, .int .u64 0]] w fun e w' => e = .returned (.agg #[.int .i64 (k : Int), .slice A1 s.da.length c1, .int .u64 (fsz (dOf k s)), .slice A3 s.sz.length c3, .int .u64 0, .int .u64 0]) ∧ Below w.heap.size w w' := by
 have h := told_eq k s.sum s.da (dOf k s) s.sz 1 (by decide) (by have := hI.da; omega) rfl rfl (dOf_data hI)
 unfold spec_Told.f at h
 obtain ⟨⟨s1, s2⟩, hs, h⟩ := Option.bind_eq_some_iff.1 h
 have h' := Option.some.inj h
 simp only [Prod.mk.injEq] at h'
 obtain ⟨_, _, e1, _⟩ := h'
 subst e1
 exact Told_walk w k A1 c1 s.da s.sum A3 c3 s.sz 0 0 _ s2 (fun W hB => spec_SizeOf.calls 1 k A1 c1 s.da s.sum A3 c3 s.sz 0 0 _ s2 W (Kd.C_below h1 hB) l1 (Kd.C_below h3 hB) l3 hs)
theorem Same_s (w : World) (k : Nat) (s : LS) (j : Nat) (hI : LI k s j) (hj : j ≤ 1000) (n : Int) (A1 : Option Addr) (c1 : Nat) (A3 : Option Addr) (c3 : Nat) (h1 : Kd.C (Kd.int .u8) w A1 s.da.length s.da) (l1 : s.da.length ≤ c1) (h3 : Kd.C (Kd.int .u64) w A3 s.sz.length s.sz) (l3 : s.sz.length ≤ c3) (B1 : Option Addr) (d1 : Nat) (B3 : Option Addr) (d3 : Nat) (g1 : Kd.C (Kd.int .u8) w B1 s.da.length s.da) (m1 : s.da.length ≤ d1) (g3 : Kd.C (Kd.int .u64) w B3 s.sz.length s.sz) (m3 : s.sz.length ≤ d3) :
  Calls Tryd.prog 33 #[.agg #[.int .i64 (k : Int), .slice A1 s.da.length c1, .int .u64 n, .slice A3 s.sz.length c3, .int .u64 0, .int .u64 0], .agg #[.int .i64 (k : Int), .slice B1 s.da.length d1, .int .u64 n, .slice B3 s.sz.length d3, .int .u64 0, .int .u64 0]] w fun e w' => e = .returned (.bool true) ∧ Below w.heap.size w w' :=
 spec_SameFS.calls (s.sz.length + 2) k A1 c1 s.da n A3 c3 s.sz 0 0 k B1 d1 s.da n B3 d3 s.sz 0 0 true w h1 l1 h3 l3 g1 m1 g3 m3 (sfs_refl k s.da n s.sz 0 0 (s.sz.length + 2) (by have := hI.sz; omega) (by omega))
end Go.Proofs.YtnhnlodmkbiiiaaDoor.HandFields
