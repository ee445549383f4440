/- Several texts of this claim, joined. -/
import Derived.Test.YtnhnlodmkbiiiaaDoorQJA
import Derived.StillTailTactics
import Derived.Test.YtnhnlodmkbiiiaaDoorQG9
import Derived.Test.YtnhnlodmkbiiiaaDoorQPPbJoinx0
import Derived.Test.YtnhnlodmkbiiiaaDoorQPPbJoinx4
/- A node of merkledag in memory, while it is filled: its links, each in a block of its own, and its data. -/
section
namespace Go.Proofs.YtnhnlodmkbiiiaaDoor.HandFields
open Go Go.RowKit Go.Proofs.YtnhnlodmkbiiiaaDoorL Go.Proofs.YtnhnlodmkbiiiaaDoorW.PrintWords Go.Proofs.YtnhnlodmkbiiiaaDoorW.PrintLast Go.Proofs.YtnhnlodmkbiiiaaDoorW.PrintMore Go.Proofs.YtnhnlodmkbiiiaaDoor.PFieldsBase
attribute [local go_sem] max2_int min2_int max_two min_two max_three min_three max_four min_four
set_option linter.unusedVariables false
set_option linter.unusedSimpArgs false
/-- A node, as its fields are there. -/
structure Nde where
 links : List Lnk
 data : Option (List Int)
/-- What some bytes are as a node, on top of s: none within: an error; none: nothing is said. -/
def umN : Nat → List Int → Nde → Option (Option Nde)
 | 0, _, _ => none
 | k + 1, l, s => if l = [] then some (some s) else (rdv 10 l).bind fun r => match r with
  | none => some none
  | some (key, l1) =>
   if key = 10 then (rdv 9 l1).bind fun r => match r with
    | none => some none
    | some (n, l2) => if n ≤ l2.length then umN k (l2.drop n) { s with data := some (l2.take n) } else some none
   else if key = 18 then (rdv 9 l1).bind fun r => match r with
    | none => some none
    | some (n, l2) => if n ≤ l2.length then (match umL 4 (l2.take n) ⟨none, none, none⟩ with | some (some t) => umN k (l2.drop n) { s with links := s.links ++ [t] } | _ => none) else some none
   else none
/-- A field of bytes, behind its key. -/
def lenN (k : Nat) (l1 : List Int) (put : List Int → Option Nde) : Option (Option Nde) := (rdv 9 l1).bind fun r => match r with
 | none => some none
 | some (n, l2) => if n ≤ l2.length then (match put (l2.take n) with | some t => umN k (l2.drop n) t | none => none) else some none
/-- A link is put behind the others. -/
def putL1 (s : Nde) (xs : List Int) : Option Nde := match umL 4 xs ⟨none, none, none⟩ with | some (some t) => some { s with links := s.links ++ [t] } | _ => none
theorem umN_step {k : Nat} {l : List Int} {s : Nde} {RT : Option Nde} (h : umN (k + 1) l s = some RT) :
  (l = [] ∧ RT = some s) ∨ (l ≠ [] ∧ ∃ R, rdv 10 l = some R ∧ ((R = none ∧ RT = none) ∨ ∃ key l1, R = some (key, l1) ∧
   ((key = 10 ∧ lenN k l1 (fun x => some { s with data := some x }) = some RT) ∨ (key = 18 ∧ lenN k l1 (putL1 s) = some RT)))) := by
 unfold umN at h
 by_cases h0 : l = []
 ·rw [if_pos h0] at h
  exact .inl ⟨h0, (Option.some.inj h).symm⟩
 rw [if_neg h0] at h
 refine .inr ⟨h0, ?_⟩
 obtain ⟨R, hR, h⟩ := Option.bind_eq_some_iff.1 h
 refine ⟨R, hR, ?_⟩
 cases R with
 | none => exact .inl ⟨rfl, (Option.some.inj h).symm⟩
 | some p =>
  obtain ⟨key, l1⟩ := p
  refine .inr ⟨key, l1, rfl, ?_⟩
  by_cases k1 : key = 10
  ·simp only [k1] at h; exact .inl ⟨k1, h⟩
  by_cases k2 : key = 18
  ·simp only [k2] at h
   refine .inr ⟨k2, ?_⟩
   rw [← h]
   unfold lenN putL1
   rw [if_neg (by decide), if_pos trivial]
   congr 1
   funext r
   cases r with
   | none => rfl
   | some p =>
    obtain ⟨n, l2⟩ := p
    dsimp only
    by_cases hn : n ≤ l2.length
    ·rw [if_pos hn, if_pos hn]
     cases umL 4 (l2.take n) ⟨none, none, none⟩ with
     | none => rfl
     | some q => cases q <;> rfl
    ·rw [if_neg hn, if_neg hn]
  simp only [k1, k2, if_false] at h
  cases h
theorem lenN_step {k : Nat} {l1 : List Int} {put : List Int → Option Nde} {RT : Option Nde} (h : lenN k l1 put = some RT) :
  ∃ R, rdv 9 l1 = some R ∧ ((R = none ∧ RT = none) ∨ ∃ n l2, R = some (n, l2) ∧ ((n ≤ l2.length ∧ ∃ t, put (l2.take n) = some t ∧ umN k (l2.drop n) t = some RT) ∨ (l2.length < n ∧ RT = none))) := by
 unfold lenN at h
 obtain ⟨R, hR, h⟩ := Option.bind_eq_some_iff.1 h
 refine ⟨R, hR, ?_⟩
 cases R with
 | none => exact .inl ⟨rfl, (Option.some.inj h).symm⟩
 | some p =>
  obtain ⟨n, l2⟩ := p
  refine .inr ⟨n, l2, rfl, ?_⟩
  by_cases hn : n ≤ l2.length
  ·simp only [hn, if_true] at h
   cases hp : put (l2.take n) with
   | none => rw [hp] at h; cases h
   | some t => rw [hp] at h; exact .inl ⟨hn, t, rfl, h⟩
  ·simp only [hn, if_false] at h; exact .inr ⟨by omega, (Option.some.inj h).symm⟩
/-- Pointers to blocks, as elements of a row. -/
def kp : Kd Nat := Kd.scalar (fun n : Nat => Value.pointer (some ⟨n, 0, none⟩)) (fun _ => rfl)
/-- The blocks that a node's reading may not lie in. -/
def okn (Ai : Option Addr) (ni g : Nat) : Nat → Prop := fun k => k ≠ g ∧ ∀ ad, Ai = some ad → 0 < ni → ad.block ≠ k
/-- The blocks that are written while a node is filled: its own, its rows'. -/
def Bad (g : Nat) (c0 c1 : Value) : Nat → Prop := fun k => k = g ∨ some k = c0.ownBlock ∨ some k = c1.ownBlock
/-- A link of a node, in memory, beside what is written. -/
def LinkAt (W : World) (bad : Nat → Prop) (gj : Nat) (s : Lnk) : Prop := ∃ k0 k1 k2, RdL W gj s k0 k1 k2 ∧ ∀ A n c, k0 = .slice (some A) n c → 0 < n → ¬ bad A.block
theorem LinkAt.step {W W' : World} {bad bad' : Nat → Prop} {gj : Nat} {s : Lnk} (h : LinkAt W bad gj s) (hk : ∀ k, k < W.heap.size → ¬ bad k → W'.heap[k]? = W.heap[k]?)
  (hty : ∀ k cs t, W.heap[k]? = some (.cells cs t (0, 0)) → (t = 96 ∨ t = 9 ∨ t = 24) → ¬ bad k) (hb : ∀ k, k < W.heap.size → bad' k → bad k) : LinkAt W' bad' gj s := by
 obtain ⟨k0, k1, k2, hr, hn⟩ := h
 refine ⟨k0, k1, k2, ⟨(hk _ (blk_lt hr.blk) (hty _ _ _ hr.blk (.inl rfl))).trans hr.blk, hr.hash0, fun xs hx => ?_, hr.name0, fun xs hx => ?_, hr.ts0, fun m hm => ?_⟩, fun A n c e hp => ?_⟩
 ·obtain ⟨A, c, e, hl, hC⟩ := hr.hash1 xs hx
  refine ⟨A, c, e, hl, C_blk hC (fun ad he hp => ?_)⟩
  injection he with he
  subst he
  exact hk _ (Kd.C_lt hC hp (by decide)) (hn A xs.length c e hp)
 ·obtain ⟨p, e, hp⟩ := hr.name1 xs hx
  exact ⟨p, e, (hk _ (blk_lt hp) (hty _ _ _ hp (.inr (.inl rfl)))).trans hp⟩
 ·obtain ⟨p, e, hp⟩ := hr.ts1 m hm
  exact ⟨p, e, (hk _ (blk_lt hp) (hty _ _ _ hp (.inr (.inr rfl)))).trans hp⟩
 ·intro hbad
  cases hh : s.hash with
  | none => rw [hr.hash0 hh] at e; cases e
  | some xs =>
   obtain ⟨A', c', e', hl, hC⟩ := hr.hash1 xs hh
   rw [e'] at e
   injection e with e1 e2 e3
   injection e1 with e1
   subst e1
   exact hn A' xs.length c' e' (by omega) (hb _ (Kd.C_lt hC (by omega) (by decide)) hbad)
/-- A node in memory, while it is filled out of the bytes xi at Ai. -/
structure Nm (Ai : Option Addr) (ni : Nat) (xi : List Int) (w0 W : World) (g : Nat) (s : Nde) (c0 c1 : Value) : Prop where
 inp : Kd.C (Kd.int .u8) W Ai ni xi
 ing : ∀ ad, Ai = some ad → 0 < ni → ad.block ≠ g
 blk : W.heap[g]? = some (.cells #[c0, c1, .slice none 0 0, .int .i32 0] 112 (0, 0))
 gge : w0.heap.size ≤ g
 below : Below w0.heap.size w0 W
 rows : ∃ gs : List Nat, Kd.R kp 91 W w0.heap.size (okn Ai ni g) c0 gs ∧ gs.length = s.links.length ∧ ∀ (j gj : Nat) (sj : Lnk), gs[j]? = some gj → s.links[j]? = some sj → LinkAt W (Bad g c0 c1) gj sj
 dat0 : s.data = none → c1 = .slice none 0 0
 dat1 : ∀ xs, s.data = some xs → ∃ A c, c1 = .slice (some A) xs.length c ∧ Kd.R (Kd.int .u8) 5 W w0.heap.size (okn Ai ni g) c1 xs
section
variable {Ai : Option Addr} {ni : Nat} {xi : List Int} {w0 W W' : World} {g : Nat} {s : Nde} {c0 c1 : Value}
theorem Nm.dataR (h : Nm Ai ni xi w0 W g s c0 c1) : ∃ A n c xs0, c1 = .slice A n c ∧ n ≤ c ∧ Kd.R (Kd.int .u8) 5 W w0.heap.size (okn Ai ni g) c1 xs0 := by
 cases hs : s.data with
 | none => have e := h.dat0 hs; rw [e]; exact ⟨none, 0, 0, [], rfl, Nat.le_refl _, Kd.R_nil _ _ _ _ _⟩
 | some xs0 =>
  obtain ⟨A, c, e, hR⟩ := h.dat1 xs0 hs
  rw [e] at hR ⊢
  exact ⟨some A, xs0.length, c, xs0, rfl, (Kd.R_reads' hR).2.1, hR⟩
theorem Nm.okNew (h : Nm Ai ni xi w0 W g s c0 c1) (k : Nat) (hk : W.heap.size ≤ k) : okn Ai ni g k :=
 ⟨fun e => by have := blk_lt h.blk; omega, fun ad e hn e2 => by have := Kd.C_lt (by rw [← e]; exact h.inp) hn (by decide); omega⟩
/-- What is written bears no link. -/
theorem Nm.ty (h : Nm Ai ni xi w0 W g s c0 c1) : ∀ k cs t, W.heap[k]? = some (.cells cs t (0, 0)) → (t = 96 ∨ t = 9 ∨ t = 24) → ¬ Bad g c0 c1 k := by
 intro k cs t hc ht hb
 obtain ⟨gs, hR, _⟩ := h.rows
 obtain ⟨A, n, c, xs0, _, _, hD⟩ := h.dataR
 rcases hb with rfl | hb | hb
 ·rw [h.blk] at hc
  injection hc with hc
  injection hc with e1 e2 e3
  rw [← e2] at ht
  revert ht
  decide
 ·exact Kd.R_ne hR hc (by rcases ht with rfl | rfl | rfl <;> decide) hb
 ·exact Kd.R_ne hD hc (by rcases ht with rfl | rfl | rfl <;> decide) hb
end
section
variable {Ai : Option Addr} {ni : Nat} {xi : List Int} {w0 W W' : World} {g : Nat} {s : Nde} {c0 c1 : Value}
/-- A row that is kept where its own block is. -/
theorem R_own {α : Type} {d : Kd α} {e base : Nat} {ok : Nat → Prop} {v : Value} {xs : List α} {W W' : World} (hE : d.E = []) (h : d.R e W base ok v xs) (hk : ∀ k, some k = v.ownBlock → k < W.heap.size → W'.heap[k]? = W.heap[k]?) : d.R e W' base ok v xs :=
 Kd.R_mono (Kd.R_step (Kd.R_tight hE h) (fun k ho hlt => hk k ho hlt)) (fun k ho => h.1 k ho.symm)
theorem own_type {α : Type} {d : Kd α} {e base : Nat} {ok : Nat → Prop} {v : Value} {xs : List α} {W : World} (h : d.R e W base ok v xs) {k : Nat} (hk : some k = v.ownBlock) : ∃ cs, W.heap[k]? = some (.cells cs e (0, 0)) := by
 obtain ⟨_, inner, hown, _⟩ := h
 rcases hown.2 with ⟨e1, _⟩ | ⟨g', c', cur, e1, _, h2, _⟩
 ·rw [e1] at hk; cases hk
 ·rw [e1] at hk
  simp only [Value.ownBlock, Option.some.injEq] at hk
  subst hk
  exact ⟨cur, h2⟩
theorem Nm.apart (h : Nm Ai ni xi w0 W g s c0 c1) {k : Nat} (h0 : some k = c0.ownBlock) : some k ≠ c1.ownBlock := by
 obtain ⟨gs, hR, _⟩ := h.rows
 obtain ⟨A, n, c, xs0, _, _, hD⟩ := h.dataR
 obtain ⟨cs, hc⟩ := own_type hR h0
 exact Kd.R_ne hD hc (by decide)
theorem Nm.setData (h : Nm Ai ni xi w0 W g s c0 c1) {u0 : Value} (hk : ∀ k, k < W.heap.size → k ≠ g → some k ≠ c1.ownBlock → W'.heap[k]? = W.heap[k]?) (hg1 : W'.heap[g]? = some (.cells #[c0, u0, .slice none 0 0, .int .i32 0] 112 (0, 0))) (hb : Below w0.heap.size w0 W') (A : Addr) (c : Nat) (xs : List Int)
  (hR : Kd.R (Kd.int .u8) 5 W' w0.heap.size (okn Ai ni g) (.slice (some A) xs.length c) xs) (hA : ∀ k, k < W.heap.size → some k = (Value.slice (some A) xs.length c).ownBlock → some k = c1.ownBlock) :
  Nm Ai ni xi w0 (W'.setCell ⟨g, 1, none⟩ (.slice (some A) xs.length c)) g { s with data := some xs } c0 (.slice (some A) xs.length c) := by
 obtain ⟨gs, hR0, hl, hat⟩ := h.rows
 obtain ⟨Ad, nd, cd, xs0, _, _, hD⟩ := h.dataR
 have hset : ∀ k, k ≠ g → (W'.setCell ⟨g, 1, none⟩ (.slice (some A) xs.length c)).heap[k]? = W'.heap[k]? := fun k hk => Below.heap_setCell W' ⟨g, 1, none⟩ _ k (by simpa using hk)
 refine ⟨C_blk h.inp (fun ad e hn => (hset _ (h.ing ad e hn)).trans (hk _ (Kd.C_lt (by rw [← e]; exact h.inp) hn (by decide)) (h.ing ad e hn) (fun e2 => (hD.1 _ e2.symm).2 ad e hn rfl))), h.ing, blk_put hg1 1 _ rfl, h.gge, below_set hb h.gge, ⟨gs, R_own rfl hR0 (fun k ho hlt => (hset k (hR0.1 k ho.symm).1).trans (hk k hlt (hR0.1 k ho.symm).1 (h.apart ho))), hl, fun j gj sj hj hs => (hat j gj sj hj hs).step (fun k hlt hbad => ?_) h.ty (fun k hlt hbad => ?_)⟩, fun h0 => (by cases h0), fun ys hy => ?_⟩
 ·have h1 : k ≠ g := fun e => hbad (.inl e)
  exact (hset k h1).trans (hk k hlt h1 (fun e => hbad (.inr (.inr e))))
 ·rcases hbad with e | e | e
  ·exact .inl e
  ·exact .inr (.inl e)
  ·exact .inr (.inr (hA k hlt e))
 ·cases hy
  exact ⟨A, c, rfl, Kd.R_step hR (fun k ho _ => hset k ho.1)⟩
theorem Nm.addLink (h : Nm Ai ni xi w0 W g s c0 c1) {c0' : Value} {gs : List Nat} {gL : Nat} {t : Lnk} (hl : gs.length = s.links.length) (hat : ∀ (j gj : Nat) (sj : Lnk), gs[j]? = some gj → s.links[j]? = some sj → LinkAt W (Bad g c0 c1) gj sj)
  (hk : ∀ k, k < W.heap.size → k ≠ g → some k ≠ c0.ownBlock → W'.heap[k]? = W.heap[k]?) (hg1 : W'.heap[g]? = some (.cells #[c0', c1, .slice none 0 0, .int .i32 0] 112 (0, 0))) (hb : Below w0.heap.size w0 W') (hR : Kd.R kp 91 W' w0.heap.size (okn Ai ni g) c0' (gs ++ [gL]))
  (hA : ∀ k, k < W.heap.size → some k = c0'.ownBlock → some k = c0.ownBlock) (hnew : LinkAt W' (Bad g c0' c1) gL t) : Nm Ai ni xi w0 W' g { s with links := s.links ++ [t] } c0' c1 := by
 obtain ⟨gs0, hR0, _, _⟩ := h.rows
 obtain ⟨Ad, nd, cd, xs0, ed, _, hD⟩ := h.dataR
 have hd : ∀ k, some k = c1.ownBlock → k < W.heap.size → W'.heap[k]? = W.heap[k]? := fun k ho hlt => hk k hlt (hD.1 k ho.symm).1 (fun e => h.apart e ho)
 refine ⟨C_blk h.inp (fun ad e hn => hk _ (Kd.C_lt (by rw [← e]; exact h.inp) hn (by decide)) (h.ing ad e hn) (fun e2 => (hR0.1 _ e2.symm).2 ad e hn rfl)), h.ing, hg1, h.gge, hb, ⟨gs ++ [gL], hR, by simp [hl], fun j gj sj hj hs => ?_⟩, h.dat0, fun ys hy => ?_⟩
 ·rcases Nat.lt_or_ge j gs.length with hlt | hge
  ·rw [List.getElem?_append_left hlt] at hj
   rw [List.getElem?_append_left (by omega)] at hs
   refine (hat j gj sj hj hs).step (fun k hlt2 hbad => hk k hlt2 (fun e => hbad (.inl e)) (fun e => hbad (.inr (.inl e)))) h.ty (fun k hlt2 hbad => ?_)
   rcases hbad with e | e | e
   ·exact .inl e
   ·exact .inr (.inl (hA k hlt2 e))
   ·exact .inr (.inr e)
  ·rw [List.getElem?_append_right hge] at hj
   rw [List.getElem?_append_right (by omega)] at hs
   have hj0 : j - gs.length = 0 := by
    rcases Nat.eq_zero_or_pos (j - gs.length) with h0 | h0
    ·exact h0
    ·rw [List.getElem?_eq_none (by simp; omega)] at hj; cases hj
   rw [hj0] at hj
   rw [show j - s.links.length = 0 by omega] at hs
   simp only [List.getElem?_cons_zero, Option.some.injEq] at hj hs
   subst hj hs
   exact hnew
 ·obtain ⟨A, c, e, hRd⟩ := h.dat1 ys hy
  exact ⟨A, c, e, R_own rfl hRd hd⟩
end
/-- What a node's Unmarshal hands back. -/
def UnPost (w0 : World) (g : Nat) : Option Nde → Ending → World → Prop
 | some s, e, w' => e = .returned .nilIface ∧ Below w0.heap.size w0 w' ∧ ∃ Ai ni xi c0 c1, Nm Ai ni xi w0 w' g s c0 c1
 | none, e, w' => (∃ T X, e = .returned (.iface T X)) ∧ Below w0.heap.size w0 w'
theorem UnPost.err {w0 w' : World} {g : Nat} {R : Option Nde} (hR : R = none) (T : TypeId) (X : Value) (hb : Below w0.heap.size w0 w') : UnPost w0 g R (.returned (.iface T X)) w' := by
 subst hR; exact ⟨⟨T, X, rfl⟩, hb⟩
theorem UnPost.good {Ai : Option Addr} {ni : Nat} {xi : List Int} {w0 w' : World} {g : Nat} {R : Option Nde} {s : Nde} {c0 c1 : Value} (hR : R = some s) (h : Nm Ai ni xi w0 w' g s c0 c1) : UnPost w0 g R (.returned .nilIface) w' := by
 subst hR; exact ⟨rfl, h.below, _, _, _, c0, c1, h⟩
theorem putL1_some {s t : Nde} {xs : List Int} (h : putL1 s xs = some t) : ∃ tl, umL 4 xs ⟨none, none, none⟩ = some (some tl) ∧ t = { s with links := s.links ++ [tl] } := by
 unfold putL1 at h
 cases hu : umL 4 xs ⟨none, none, none⟩ with
 | none => rw [hu] at h; cases h
 | some q =>
  rw [hu] at h
  cases q with
  | none => cases h
  | some tl => cases h; exact ⟨tl, rfl, rfl⟩
theorem info91e : (Tryd.prog.info? 91).map (fun i => (i.zero, i.size, i.bytes)) = some (some (.pointer none), 1, 8) := by kernel_rfl
/-- A row of one pointer. -/
theorem C_ptr (W : World) (g n : Nat) (h : W.heap[g]? = some (.cells #[.pointer (some ⟨n, 0, none⟩)] 91 (0, 0))) : Kd.C kp W (some ⟨g, 0, none⟩) 1 [n] := by
 refine ⟨rfl, by decide, fun _ => ⟨⟨g, 0, none⟩, rfl, fun j p hj => ?_⟩⟩
 match j, hj with
 | 0, hj =>
  obtain rfl := Option.some.inj hj
  refine ⟨[.pointer (some ⟨n, 0, none⟩)], rfl, rfl, fun i u hu => ?_⟩
  match i, hu with
  | 0, hu => rw [← Option.some.inj hu]; exact cell_of_row W g 0 _ 91 (0, 0) h
 | j + 1, hj => cases hj
/-- What is kept while a link is read: all but the link. -/
@[reducible] def keepBut (w : World) (gL : Nat) : Prot := ⟨fun k => if k = gL then none else w.heap[k]?⟩
section
variable {ad : Addr} {n : Nat} {xi : List Int} {w0 W w3 w5 : World} {g : Nat} {s : Nde} {c0 c1 v3 : Value}
/-- The world behind the place that was made for a link. -/
structure Made (W w3 : World) (g : Nat) (c0 v3 : Value) (gs : List Nat) (w0 : World) (ok : Nat → Prop) : Prop where
 kept : ∀ k, k < W.heap.size → some k ≠ c0.ownBlock → w3.heap[k]? = W.heap[k]?
 link : w3.heap[W.heap.size]? = some (.cells #[.slice none 0 0, .pointer none, .pointer none, .slice none 0 0, .int .i32 0] 96 (0, 0))
 row : Kd.R kp 91 w3 w0.heap.size ok v3 (gs ++ [W.heap.size])
 below : Below w0.heap.size w0 w3
 own : ∀ k, k < W.heap.size → some k = v3.ownBlock → some k = c0.ownBlock
theorem Made.mk' {oT : Obj} {gs : List Nat} {ok : Nat → Prop} (hlt : ∀ k, some k = c0.ownBlock → k < W.heap.size)
  (hg : ((W.alloc (.cells #[.slice none 0 0, .pointer none, .pointer none, .slice none 0 0, .int .i32 0] 96)).alloc oT).grownBy w3 c0.ownBlock) (hR : Kd.R kp 91 w3 w0.heap.size ok v3 (gs ++ [W.heap.size])) (hb : Below w0.heap.size w0 w3)
  (hat : v3.ownBlock = c0.ownBlock ∨ ∃ b, v3.ownBlock = some b ∧ ((W.alloc (.cells #[.slice none 0 0, .pointer none, .pointer none, .slice none 0 0, .int .i32 0] 96)).alloc oT).heap.size ≤ b) : Made W w3 g c0 v3 gs w0 ok := by
 refine ⟨fun k hk hne => ?_, ?_, hR, hb, fun k hk ho => ?_⟩
 ·refine (hg.block k (by rw [size_alloc, size_alloc]; omega) hne).trans ?_
  rw [Below.heap_alloc _ _ _ (by rw [size_alloc]; omega), Below.heap_alloc _ _ _ hk]
 ·exact (hg.block W.heap.size (by rw [size_alloc, size_alloc]; omega) (fun e => by have := hlt _ e; omega)).trans (heap2_0 W _ _)
 ·rcases hat with h | ⟨b, h, hb⟩
  ·rw [ho, h]
  ·rw [h] at ho; injection ho with ho; rw [size_alloc, size_alloc] at hb; omega
theorem own_lt {α : Type} {d : Kd α} {e base : Nat} {ok : Nat → Prop} {v : Value} {xs : List α} {W : World} (h : d.R e W base ok v xs) (k : Nat) (hk : some k = v.ownBlock) : k < W.heap.size := by
 obtain ⟨cs, hc⟩ := own_type h hk
 exact blk_lt hc
theorem Lm_sub (h : Nm (some ad) n xi w0 W g s c0 c1) {gs : List Nat} (hm : Made W w3 g c0 v3 gs w0 (okn (some ad) n g)) (h0 : ∀ k, some k = c0.ownBlock → okn (some ad) n g k) {DD : Option Addr} {pl : Nat} {hs : List Int} (hC : Kd.C (Kd.int .u8) W DD pl hs) (hDB : ∀ a', DD = some a' → a'.block = ad.block) (hp : 0 < pl → 0 < n) :
  @Lm (keepBut (w3.setCell ⟨g, 0, none⟩ v3) W.heap.size) DD pl hs w0 (w3.setCell ⟨g, 0, none⟩ v3).drew W.heap.size ⟨none, none, none⟩ (.slice none 0 0) (.pointer none) (.pointer none) := by
 have hgl := blk_lt h.blk
 have hset : ∀ k, k ≠ g → (w3.setCell ⟨g, 0, none⟩ v3).heap[k]? = w3.heap[k]? := fun k hk => Below.heap_setCell w3 ⟨g, 0, none⟩ v3 k (by simpa using hk)
 refine @Lm.mk (keepBut (w3.setCell ⟨g, 0, none⟩ v3) W.heap.size) _ _ _ _ _ _ _ _ _ _ (C_blk hC (fun a' e hn => ?_)) (fun k o ho => ?_) (fun a' e hn => ?_) ((hset _ (by omega)).trans hm.link) (Nat.le_trans h.gge (Nat.le_of_lt hgl)) (below_drew (below_set hm.below h.gge)) (fun _ => rfl) (fun _ h => (by cases h)) (fun _ => rfl) (fun _ h => (by cases h)) (fun _ => rfl) (fun _ h => (by cases h))
 ·rw [hDB a' e]
  have h1 := h.ing ad rfl (hp hn)
  refine (hset _ h1).trans (hm.kept _ (Kd.C_lt h.inp (hp hn) (by decide)) (fun e2 => (h0 _ e2).2 ad rfl (hp hn) rfl))
 ·have ho' : (if k = W.heap.size then none else (w3.setCell ⟨g, 0, none⟩ v3).heap[k]?) = some o := ho
  by_cases hk : k = W.heap.size
  ·rw [if_pos hk] at ho'; cases ho'
  ·rw [if_neg hk] at ho'; exact ⟨hk, ho'⟩
 ·rw [hDB a' e]
  have := Kd.C_lt h.inp (hp hn) (by decide)
  omega
theorem Nm_link (h : Nm (some ad) n xi w0 W g s c0 c1) {gs : List Nat} (hl : gs.length = s.links.length) (hat : ∀ (j gj : Nat) (sj : Lnk), gs[j]? = some gj → s.links[j]? = some sj → LinkAt W (Bad g c0 c1) gj sj)
  (hm : Made W w3 g c0 v3 gs w0 (okn (some ad) n g)) {w4 : World} (h4 : w4 = w3.setCell ⟨g, 0, none⟩ v3) (hg3 : w3.heap[g]? = some (.cells #[c0, c1, .slice none 0 0, .int .i32 0] 112 (0, 0))) {Ai : Option Addr} {ni : Nat} {xj : List Int} {k0 k1 k2 : Value} {t : Lnk} (hL : @Lm (keepBut w4 W.heap.size) Ai ni xj w0 w5 W.heap.size t k0 k1 k2) :
  Nm (some ad) n xi w0 w5 g { s with links := s.links ++ [t] } v3 c1 := by
 have hgl := blk_lt h.blk
 have hset : ∀ k, k ≠ g → w4.heap[k]? = w3.heap[k]? := fun k hk => by rw [h4]; exact Below.heap_setCell w3 ⟨g, 0, none⟩ v3 k (by simpa using hk)
 have hoth : ∀ k o, k ≠ W.heap.size → w4.heap[k]? = some o → w5.heap[k]? = some o := fun k o hk ho => ((@Lm.oth (keepBut w4 W.heap.size) _ _ _ _ _ _ _ _ _ _ hL) k o (show (if k = W.heap.size then none else w4.heap[k]?) = some o by rw [if_neg hk]; exact ho)).2
 have hkeep : ∀ k, k < w4.heap.size → k ≠ W.heap.size → w5.heap[k]? = w4.heap[k]? := fun k hk hne => by
  obtain ⟨o, ho⟩ : ∃ o, w4.heap[k]? = some o := ⟨_, Array.getElem?_eq_getElem hk⟩
  rw [ho]; exact hoth k o hne ho
 have hg4 : w4.heap[g]? = some (.cells #[v3, c1, .slice none 0 0, .int .i32 0] 112 (0, 0)) := by rw [h4]; exact blk_put hg3 0 _ rfl
 have hs4 : w3.heap.size ≤ w4.heap.size := by rw [h4]; simp [World.setCell]
 have hs3 : W.heap.size < w3.heap.size := blk_lt hm.link
 obtain ⟨_, _, _, xs0, _, _, hD⟩ := h.dataR
 have hne3 : some W.heap.size ≠ v3.ownBlock := Kd.R_ne hm.row hm.link (by decide)
 refine h.addLink (gL := W.heap.size) hl hat (fun k hk hkg hko => ?_) (hoth g _ (by omega) hg4) (@Lm.below (keepBut w4 W.heap.size) _ _ _ _ _ _ _ _ _ _ hL) ?_ hm.own ⟨k0, k1, k2, @Lm.rd (keepBut w4 W.heap.size) _ _ _ _ _ _ _ _ _ _ hL, fun A m c e hp hbad => ?_⟩
 ·exact (hkeep k (by omega) (by omega)).trans ((hset k hkg).trans (hm.kept k hk hko))
 ·refine R_own rfl hm.row (fun k ho hlt => ?_)
  have h1 : k ≠ g := fun e => by subst e; exact Kd.R_ne hm.row hg3 (by decide) ho
  exact (hkeep k (by omega) (fun e => by subst e; exact hne3 ho)).trans (hset k h1)
 ·cases hh : t.hash with
  | none => rw [@Lm.hash0 (keepBut w4 W.heap.size) _ _ _ _ _ _ _ _ _ _ hL hh] at e; cases e
  | some xs =>
   obtain ⟨A', c', e', hRh⟩ := @Lm.hash1 (keepBut w4 W.heap.size) _ _ _ _ _ _ _ _ _ _ hL xs hh
   rw [e'] at e
   injection e with e1 e2 e3
   injection e1 with e1
   subst e1
   rw [e'] at hRh
   have hz := (hRh.1 A'.block rfl).2.2
   have hz0 := (hRh.1 A'.block rfl).1
   have hz' : (if A'.block = W.heap.size then none else w4.heap[A'.block]?) = none := hz
   rw [if_neg hz0] at hz'
   have hge : w4.heap.size ≤ A'.block := by simpa using hz'
   rcases hbad with e | e | e
   ·have := blk_lt hg4; omega
   ·have := own_lt hm.row _ e; omega
   ·have := own_lt hD _ e; omega
end
theorem last_ptr {w3 : World} {g g3 c3 gL base : Nat} {gs : List Nat} {ok : Nat → Prop} {v : Value} (hR : Kd.R kp 91 w3 base ok (.slice (some ⟨g3, 0, none⟩) (gs.length + 1) c3) (gs ++ [gL])) (hne : g3 ≠ g) : (w3.setCell ⟨g, 0, none⟩ v).cell? ⟨g3, gs.length, none⟩ = some (.pointer (some ⟨gL, 0, none⟩)) := by
 have hC := (Kd.R_reads' hR).2.2
 obtain ⟨ad, e, hc⟩ := hC.2.2 (by simp)
 injection e with e
 subst e
 obtain ⟨cs, _, h2, h3⟩ := hc gs.length gL (by simp)
 have h2' : cs = [.pointer (some ⟨gL, 0, none⟩)] := h2
 have h4 := h3 0 _ (by rw [h2']; rfl)
 have h5 : (⟨g3, 0, none⟩ : Addr).add (gs.length * kp.sz + 0) = ⟨g3, gs.length, none⟩ := by
  show (⟨g3, 0, none⟩ : Addr).add (gs.length * 1 + 0) = _
  rw [Nat.mul_one, Nat.add_zero]
  unfold Addr.add
  split
  ·next h => rw [h]
  ·simp
 rw [h5] at h4
 rw [World.cell?_setCell_other _ _ _ _ (by intro e; injection e with e; exact hne e.symm)]
 exact h4
end Go.Proofs.YtnhnlodmkbiiiaaDoor.HandFields
end
/- Bytes are read as a node of merkledag: Unmarshal, walked on any bytes of which umN says something. -/
section
namespace Go.Proofs.YtnhnlodmkbiiiaaDoor.HandFields
open Go Go.RowKit Go.Proofs.YtnhnlodmkbiiiaaDoorL Go.Proofs.YtnhnlodmkbiiiaaDoorW.PrintWords Go.Proofs.YtnhnlodmkbiiiaaDoorW.PrintLast Go.Proofs.YtnhnlodmkbiiiaaDoorW.PrintMore Go.Proofs.YtnhnlodmkbiiiaaDoor.PFieldsBase
attribute [local go_sem] max2_int min2_int max_two min_two max_three min_three max_four min_four
set_option linter.unusedVariables false
set_option linter.unusedSimpArgs false
def m60_0 : List (Option Nat) := [none, none, none, none, some 4, none, some 6, some 7, some 8, some 9, some 10, some 11, some 12, some 13, some 14, some 15, some 16, some 17, some 18, some 19, some 20, some 21, some 22, some 23, none, none, some 26, some 27, some 28, some 29, some 30, some 31, some 32, some 33, some 34, some 35, some 36, some 37, some 38, some 39, some 40, some 41, some 42, some 43, some 44, some 45, some 46, some 47, some 48, some 49, some 50, some 51, some 52, some 53, some 54, some 55, some 56, some 57, some 58, some 59, some 60, some 61, some 62, some 63, some 64, some 65, some 66, some 67, some 68, some 69, some 70, some 71, some 72, some 73, some 74, some 75, some 76, some 77, some 78, some 79, some 80, some 81, some 82, some 83, some 84, some 85, some 86, some 87, some 88, some 89, some 90, some 91, some 92, some 93, some 94, some 95, some 96, some 97, some 98, some 99, some 100, some 101, some 102, some 103, some 104, some 105, some 106, some 107, some 108, some 109, some 110, some 111, some 112, some 113, some 114, some 115, some 116, some 117, some 118, some 119, some 120, some 121, some 122, some 123, some 124, some 125, some 126, some 127, some 128, some 129, some 130, some 131, some 132, some 133, some 134, some 135, some 136, some 137, some 138, some 139, some 140, some 141, some 142, some 143, some 144, some 145, some 146, some 147, some 148, some 149, some 150, some 151, some 152, some 153, some 154, some 155, some 156, some 157, some 158, some 159, some 160, some 161, some 162, some 163, some 164, some 165, some 166, some 167, some 168, some 169, some 170, some 171, some 172, some 173, some 174, some 175, some 176, some 177, some 178, some 179, some 180, some 181, some 182, some 183, some 184, some 185, some 186, some 187, some 188, some 189, some 190, some 191, some 192, some 193, some 194, some 195, some 196, some 197, some 198, some 199, some 200, some 201, some 202, some 203, some 204, some 205, some 206, some 207, some 208, some 209, some 210, some 211, some 212, some 213, some 214, some 215, some 216, some 217, some 218, some 219, some 220, some 221, some 222, some 223, some 224, some 225, some 226, some 227, some 228, some 229, some 230, some 231, some 232, some 233, some 234, some 235, some 236, some 237, some 238, some 239, some 240, some 241, some 242, some 243, some 244, some 245, some 246, some 247, none, none, none, none]
def m60_1 : List (Option Nat) := [none, none, none, none, some 4, none, some 6, none, some 8, some 9, some 10, none, none, none, none, none, none, none, none, none, none, none, none, none, none, none, none, none, none, none, some 30, some 31, some 32, some 33, some 34, some 35, some 36, some 37, some 38, some 39, some 40, some 41, some 42, some 43, some 44, some 45, some 46, some 47, some 48, some 49, some 50, some 51, some 52, some 53, none, none, none, none, none, none, none, none, none, none, none, none, none, none, none, none, none, none, none, none, none, none, none, none, none, none, none, none, none, none, none, none, none, none, none, none, none, none, none, none, none, none, none, none, none, none, none, none, none, none, none, none, none, none, none, none, none, none, none, none, none, none, none, none, none, none, none, none, none, none, none, none, none, none, none, none, none, none, none, none, none, none, none, none, none, none, none, none, none, none, none, none, none, none, none, none, none, none, none, none, none, none, none, none, none, none, none, none, none, none, none, none, none, none, none, none, none, none, none, none, none, none, none, none, none, none, none, none, none, none, none, none, none, none, none, none, none, none, none, none, none, none, none, none, none, none, none, none, none, none, none, none, none, none, none, none, none, none, none, none, none, none, none, none, none, none, none, none, none, none, none, none, none, none, none, none, none, none, none, none, none, none, none, none, none, none, none, none, none, none, none, none, none, none, none, none, none, none]
def m60_2 : List (Option Nat) := [none, none, none, none, some 4, none, some 6, none, none, none, none, none, none, some 13, some 14, some 15, none, none, none, none, none, none, none, none, none, none, none, none, none, none, none, none, none, none, none, none, none, none, none, none, none, none, none, none, none, none, none, none, none, none, none, none, none, none, none, none, none, none, none, none, none, none, none, none, none, none, none, none, none, none, none, none, none, none, none, none, none, none, none, none, none, none, none, none, none, none, none, none, none, none, none, none, none, none, none, none, none, none, none, none, none, none, none, none, none, none, none, none, none, none, none, none, none, none, some 114, some 115, some 116, some 117, some 118, some 119, some 120, some 121, some 122, some 123, some 124, some 125, some 126, some 127, some 128, some 129, some 130, some 131, some 132, some 133, some 134, some 135, some 136, some 137, none, none, none, none, none, none, none, none, none, none, none, none, none, none, none, none, none, none, none, none, none, none, none, none, none, none, none, none, none, none, none, none, none, none, none, none, none, none, none, none, none, none, none, none, none, none, none, none, none, none, none, none, none, none, none, none, none, none, none, none, none, none, none, none, none, none, none, none, none, none, none, none, none, none, none, none, none, none, none, none, none, none, none, none, none, none, none, none, none, none, none, none, none, none, none, none, none, none, none, none, none, none, none, none, none, none, none, none, none, none, none, none, none, none]
def m60_3 : List (Option Nat) := [none, none, none, none, some 4, none, some 6, none, none, none, none, none, none, none, none, none, none, some 17, some 18, some 19, none, none, none, none, none, none, none, none, none, none, none, none, none, none, none, none, none, none, none, none, none, none, none, none, none, none, none, none, none, none, none, none, none, none, none, none, none, none, none, none, none, none, none, none, none, none, none, none, none, none, none, none, none, none, none, none, none, none, none, none, none, none, none, none, none, none, none, none, none, none, none, none, none, none, none, none, none, none, none, none, none, none, none, none, none, none, none, none, none, none, none, none, none, none, none, none, none, none, none, none, none, none, none, none, none, none, none, none, none, none, none, none, none, none, none, none, none, none, none, none, none, none, none, none, none, none, none, none, none, none, none, none, none, none, none, none, none, none, none, none, none, none, none, none, none, none, none, none, none, none, none, none, none, none, none, none, none, none, none, some 179, some 180, some 181, some 182, some 183, some 184, some 185, some 186, some 187, some 188, some 189, some 190, some 191, some 192, some 193, some 194, some 195, some 196, some 197, some 198, some 199, some 200, some 201, some 202, none, none, none, none, none, none, none, none, none, none, none, none, none, none, none, none, none, none, none, none, none, none, none, none, none, none, none, none, none, none, none, none, none, none, none, none, none, none, none, none, none, none, none, none, none, none, none, none, none]
set_option maxHeartbeats 80000000 in
set_option maxRecDepth 100000 in
theorem UmNode (w0 w : World) (g : Nat) (xs : List Int) (hbx : ∀ x ∈ xs, 0 ≤ x ∧ x ≤ 255) (A : Option Addr) (n c : Nat) (hLm : Nm A n xs w0 w g ⟨[], none⟩ (.slice none 0 0) (.slice none 0 0)) (hGE : GE w0) (hn : n = xs.length) (hnc : n ≤ c) (hn2 : n ≤ 40000000) (kf : Nat) (RT : Option Nde) (hR : umN kf xs ⟨[], none⟩ = some RT) :
  Calls Tryd.prog 60 #[.pointer (some ⟨g, 0, none⟩), .slice A n c] w (UnPost w0 g RT) := by
 have HBX := Aside0.mk hbx
 have HL0 := Aside0.mk hLm
 have HGE := Aside0.mk hGE
 have HN := Aside0.mk hn
 have HNC := Aside0.mk hnc
 have HN2 := Aside0.mk hn2
 have HR0 := Aside0.mk hR
 clear hbx hLm hGE hn hnc hn2 hR
 go_enter Tryd.func60, Tryd.ntmps60
 go_wp2_with fail
 refine wp_loop_f m60_0 kf (fun kq us w' => ∃ i : Int, us 6 = .int .i64 i ∧ Aside0 (∃ (k : Nat) (s : Nde) (c0 c1 : Value), i = (k : Int) ∧ k ≤ xs.length ∧ s.links.length ≤ k ∧ umN kq (xs.drop k) s = some RT ∧ Nm A n xs w0 w' g s c0 c1)) ?atS1 (by kernel_rfl) ?rnd1
 case atS1 => exact ⟨0, rfl, ⟨0, _, _, _, rfl, Nat.zero_le _, Nat.le_refl _, HR0.out, HL0.out⟩⟩
 case rnd1 =>
  intro gk1 us1 W1 hrel J1 K1 hJ1 hK1
  dsimp only [ovl, m60_0]
  obtain ⟨i, h6, HU⟩ := hrel
  rw [h6]
  clear h6
  obtain ⟨k, sl, c0, c1, rfl, hkl, hll, hum, hL⟩ := HU.out
  have HLM := Aside0.mk hL
  have HLL := Aside0.mk hll
  clear hll
  clear HU hL
  obtain ⟨k', hk'⟩ : ∃ k', gk1 = k' + 1 := ⟨gk1 - 1, by cases gk1 with | zero => (unfold umN at hum; cases hum) | succ q => rfl⟩
  rw [hk'] at hum
  have HK' := Aside0.mk hk'
  clear hk'
  rcases umN_step hum with ⟨hend, hRT⟩ | ⟨hne, RK, hRK, hrest⟩
  ·have hkn : k = xs.length := by have := congrArg List.length hend; rw [List.length_drop, List.length_nil] at this; omega
   have q0 : decide ((k : Int) < (n : Int)) = false := decide_eq_false (by have := HN.out; omega)
   have q0n : decide (k < n) = false := decide_eq_false (by have := HN.out; omega)
   have q1 : decide ((n : Int) < (k : Int)) = false := decide_eq_false (by have := HN.out; omega)
   have q1n : decide (n < k) = false := decide_eq_false (by have := HN.out; omega)
   have HRT := Aside0.mk hRT
   clear hkn hend hRT hum hkl
   go_wp2_with fail
   go_ret
   exact UnPost.good HRT.out HLM.out
  ·have hkn : k < xs.length := by rcases Nat.lt_or_ge k xs.length with h | h; (exact h); exact absurd (List.drop_of_length_le h) hne
   have j1 : decide ((k : Int) < (n : Int)) = true := decide_eq_true (by have := HN.out; omega)
   have j1n : decide (k < n) = true := decide_eq_true (by have := HN.out; omega)
   have HRK := Aside0.mk hRK
   have HIK := Aside0.mk hkl
   have HNK : Aside0 (RK = none → RT = none) := ⟨fun h => by rcases hrest with ⟨_, h2⟩ | ⟨key, l1, h2, _⟩; (exact h2); (rw [h] at h2; cases h2)⟩
   have HVK : Aside0 (∀ v r, RK = some (v, r) → v < 2 ^ 64) := ⟨fun v r h => by rcases hrest with ⟨h2, _⟩ | ⟨key, l1, h2, h3⟩; (rw [h] at h2; cases h2); (rw [h] at h2; cases h2; rcases h3 with ⟨h4, _⟩ | ⟨h4, _⟩ <;> omega)⟩
   have HREST := Aside0.mk hrest
   obtain ⟨ad, eA, _⟩ := Kd.at_int HLM.out.inp (k : Int) (by omega) (by have := HN.out; omega)
   subst eA
   clear hkn hne hRK hrest hum hkl
   go_wp2_with fail
   refine wp_loop_f m60_1 10 (fun kq us w' => ∃ (x y z : Int), us 6 = .int .i64 x ∧ us 9 = .int .u64 y ∧ us 8 = .int .u64 z ∧ Aside0 (w' = W1) ∧ Aside0 (∃ j a : Nat, x = ((k + j : Nat) : Int) ∧ y = ((7 * j : Nat) : Int) ∧ z = (a : Int) ∧ j + kq = 10 ∧ VI xs k 10 RK j a)) ?atSK (by kernel_rfl) ?rndK
   case atSK => exact ⟨_, 0, 0, rfl, rfl, rfl, ⟨rfl⟩, ⟨0, 0, rfl, rfl, rfl, rfl, VI.start HRK.out (by decide) HIK.out⟩⟩
   case rndK =>
    intro gkK usK WK hrel JK KK hJK hKK
    dsimp only [ovl, m60_1]
    obtain ⟨x, y, z, h6, hsh, hz, HW, HJ⟩ := hrel
    rw [h6, hsh, hz]
    clear h6 hsh hz
    have ew := HW.out
    subst ew
    obtain ⟨j, a, hxj, hyj, hza, hjk, hVI⟩ := HJ.out
    subst hza
    have hj9 : j ≤ 9 := by have := hVI.jk; omega
    have m1 : decide ((64 : Int) ≤ y) = false := decide_eq_false (by omega)
    have HJ0 := Aside0.mk (show j + gkK = 10 ∧ j ≤ 9 from ⟨hjk, hj9⟩)
    rcases hVI.byte (b := 64) HBX.out (by decide) HVK.out with ⟨hA, hRn⟩ | ⟨cc, m, hc, hlt, hc256, hm, hsb, hBC⟩
    ·have m2 : decide ((n : Int) ≤ x) = true := decide_eq_true (by have := HN.out; omega)
     have HRT := Aside0.mk (HNK.out hRn)
     obtain ⟨T1, X1, hg1⟩ := (HGE.out.below HLM.out.below).2.1
     clear hA hRn hxj hyj hjk hVI HJ hj9
     go_wp2_with fail
     go_ret
     exact UnPost.err HRT.out _ _ HLM.out.below
    ·obtain ⟨v1, v2, v3, v4⟩ := acc_words .u64 64 (by decide) (by decide) words_u64 hc256 hm hVI.lt hsb
     obtain ⟨s, hs⟩ : ∃ s : Nat, s = m * 2 ^ (7 * j) := ⟨_, rfl⟩
     rw [← hs] at v3 v4 hsb hBC
     obtain ⟨a1, ha1⟩ : ∃ q : Nat, q = a + s := ⟨_, rfl⟩
     rw [← ha1] at v4 hBC hsb
     rw [← hyj] at v3
     rw [← hxj] at hc
     obtain ⟨ad', eA, hx⟩ := Kd.at_int HLM.out.inp x (by omega) (by have := HN.out; omega)
     injection eA with eA
     subst eA
     rw [hc] at hx
     obtain ⟨x1, hx1⟩ : ∃ z : Int, wrap64 (x + 1) = z := ⟨_, rfl⟩
     have hx1w : IntKind.i64.wrap (x + 1) = x1 := (i64_w _).trans hx1
     have XK1 := Aside0.mk (show x1 = ((k + j + 1 : Nat) : Int) by have := HN2.out; have := HN.out; rw [← hx1]; unfold wrap64; omega)
     have HLK := Aside0.mk (show k + j + 1 ≤ xs.length by omega)
     obtain ⟨y1, hy1⟩ : ∃ z : Int, IntKind.u64.wrap (y + 7) = z := ⟨_, rfl⟩
     have Y1 := Aside0.mk (show y1 = ((7 * (j + 1) : Nat) : Int) by rw [← hy1, words_u64 _ (by omega) (by omega)]; omega)
     have m2 : decide ((n : Int) ≤ x) = false := decide_eq_false (by have := HN.out; omega)
     have m3 : (x < (n : Int)) = True := eq_true (by have := HN.out; omega)
     have m4 : ((0 : Int) ≤ x) = True := eq_true (by omega)
     have m6 : (0 : Int) ≤ y := by omega
     have m7 : min y.toNat 64 = y.toNat := Nat.min_eq_left (by omega)
     have m8 : min y.toNat IntKind.u64.bits = y.toNat := m7
     have HBC := Aside0.mk hBC
     have HSB := Aside0.mk hsb
     by_cases hl : cc < 128
     ·have m5 : decide ((cc : Int) < 128) = true := decide_eq_true (by omega)
      have m5n : decide (cc < 128) = true := decide_eq_true hl
      have HDK : Aside0 (RK = some (a1, xs.drop (k + j + 1))) := ⟨by rcases HBC.out with ⟨_, h⟩ | ⟨h, _⟩; (exact h); omega⟩
      clear hl HBC
      clear hxj hyj hjk hVI HJ hj9 hlt hc256 hm hs ha1 hsb hBC hc HW
      obtain ⟨l1, hl1, hkey⟩ : ∃ l1, l1 = xs.drop (k + j + 1) ∧ ((a1 = 10 ∧ lenN k' l1 (fun x => some { sl with data := some x }) = some RT) ∨ (a1 = 18 ∧ lenN k' l1 (putL1 sl) = some RT)) := by
       rcases HREST.out with ⟨h2, _⟩ | ⟨key, l1, h2, h3⟩
       ·have := HDK.out; rw [h2] at this; cases this
       ·have := HDK.out; rw [h2] at this; cases this; exact ⟨_, rfl, h3⟩
      have HL1 := Aside0.mk hl1
      clear hl1
      rcases hkey with ⟨hk0, hrest⟩ | ⟨hk0, hrest⟩
      ·have v4k : Go.bits .or .u64 (a : Int) (s : Int) = 10 := by rw [v4, hk0]; rfl
       clear v4
       have kb4 : Go.bits .and .u64 10 7 = 2 := by decide +kernel
       have kb5 : wrap32 1 = 1 := by decide +kernel
       have kb6 : wrap64 2 = 2 := by decide +kernel
       clear hk0
       obtain ⟨RH, hR, hrest2⟩ := lenN_step hrest
       rw [HL1.out] at hR
       have HRH := Aside0.mk hR
       have HIH := Aside0.mk HLK.out
       have HNH : Aside0 (RH = none → RT = none) := ⟨fun h => by rcases hrest2 with ⟨_, h2⟩ | ⟨key, l1, h2, _⟩; (exact h2); (rw [h] at h2; cases h2)⟩
       have HVH : Aside0 (∀ v r, RH = some (v, r) → v < 2 ^ 63) := ⟨fun v r h => rdv_lt 9 _ v r (fun x hx => HBX.out x (List.mem_of_mem_drop hx)) (by rw [HRH.out, h])⟩
       have HREST2 := Aside0.mk hrest2
       have XK := XK1
       obtain ⟨i1, hi1⟩ : ∃ i1, i1 = k + j + 1 := ⟨_, rfl⟩
       have HKI := Aside0.mk (show k < i1 by omega)
       rw [← hi1] at HRH HIH XK
       clear hrest hR hrest2 hi1
       go_wp2_with fail
       refine wp_loop_f m60_2 10 (fun kq us w' => ∃ (x y z : Int), us 6 = .int .i64 x ∧ us 14 = .int .u64 y ∧ us 13 = .int .i64 z ∧ Aside0 (w' = WK) ∧ Aside0 (∃ j a : Nat, x = ((i1 + j : Nat) : Int) ∧ y = ((7 * j : Nat) : Int) ∧ z = (a : Int) ∧ j + kq = 10 ∧ VI xs i1 9 RH j a)) ?atSH (by kernel_rfl) ?rndH
       case atSH => exact ⟨_, 0, 0, rfl, rfl, rfl, ⟨rfl⟩, ⟨0, 0, XK.out, rfl, rfl, rfl, VI.start HRH.out (by decide) HIH.out⟩⟩
       case rndH =>
        intro gkH usH WH hrel JH KH hJH hKH
        dsimp only [ovl, m60_2]
        obtain ⟨x, y, z, h6, hsh, hz, HW, HJ⟩ := hrel
        rw [h6, hsh, hz]
        clear h6 hsh hz
        have ew := HW.out
        subst ew
        obtain ⟨j, a, hxj, hyj, hza, hjk, hVI⟩ := HJ.out
        subst hza
        have hj9 : j ≤ 9 := by have := hVI.jk; omega
        have m1 : decide ((64 : Int) ≤ y) = false := decide_eq_false (by omega)
        have HJ0 := Aside0.mk (show j + gkH = 10 ∧ j ≤ 9 from ⟨hjk, hj9⟩)
        rcases hVI.byte (b := 63) HBX.out (by decide) HVH.out with ⟨hA, hRn⟩ | ⟨cc, m, hc, hlt, hc256, hm, hsb, hBC⟩
        ·have m2 : decide ((n : Int) ≤ x) = true := decide_eq_true (by have := HN.out; omega)
         have HRT := Aside0.mk (HNH.out hRn)
         obtain ⟨T1, X1, hg1⟩ := (HGE.out.below HLM.out.below).2.1
         clear hA hRn hxj hyj hjk hVI HJ hj9
         go_wp2_with fail
         go_ret
         exact UnPost.err HRT.out _ _ HLM.out.below
        ·obtain ⟨v1, v2, v3, v4⟩ := acc_words .i64 63 (by decide) (by decide) words_i64 hc256 hm hVI.lt hsb
         obtain ⟨s, hs⟩ : ∃ s : Nat, s = m * 2 ^ (7 * j) := ⟨_, rfl⟩
         rw [← hs] at v3 v4 hsb hBC
         obtain ⟨a1, ha1⟩ : ∃ q : Nat, q = a + s := ⟨_, rfl⟩
         rw [← ha1] at v4 hBC hsb
         rw [← hyj] at v3
         rw [← hxj] at hc
         obtain ⟨ad', eA, hx⟩ := Kd.at_int HLM.out.inp x (by omega) (by have := HN.out; omega)
         injection eA with eA
         subst eA
         rw [hc] at hx
         obtain ⟨x1, hx1⟩ : ∃ z : Int, wrap64 (x + 1) = z := ⟨_, rfl⟩
         have hx1w : IntKind.i64.wrap (x + 1) = x1 := (i64_w _).trans hx1
         have XH1 := Aside0.mk (show x1 = ((i1 + j + 1 : Nat) : Int) by have := HN2.out; have := HN.out; rw [← hx1]; unfold wrap64; omega)
         have HLH := Aside0.mk (show i1 + j + 1 ≤ xs.length by omega)
         obtain ⟨y1, hy1⟩ : ∃ z : Int, IntKind.u64.wrap (y + 7) = z := ⟨_, rfl⟩
         have Y1 := Aside0.mk (show y1 = ((7 * (j + 1) : Nat) : Int) by rw [← hy1, words_u64 _ (by omega) (by omega)]; omega)
         have m2 : decide ((n : Int) ≤ x) = false := decide_eq_false (by have := HN.out; omega)
         have m3 : (x < (n : Int)) = True := eq_true (by have := HN.out; omega)
         have m4 : ((0 : Int) ≤ x) = True := eq_true (by omega)
         have m6 : (0 : Int) ≤ y := by omega
         have m7 : min y.toNat 64 = y.toNat := Nat.min_eq_left (by omega)
         have m8 : min y.toNat IntKind.i64.bits = y.toNat := m7
         have HBC := Aside0.mk hBC
         have HSB := Aside0.mk hsb
         by_cases hl : cc < 128
         ·have m5 : decide ((cc : Int) < 128) = true := decide_eq_true (by omega)
          have m5n : decide (cc < 128) = true := decide_eq_true hl
          have HDH : Aside0 (RH = some (a1, xs.drop (i1 + j + 1))) := ⟨by rcases HBC.out with ⟨_, h⟩ | ⟨h, _⟩; (exact h); omega⟩
          clear hl HBC
          have v2w : wrap64 (m : Int) = (m : Int) := (i64_w _).symm.trans v2
          have v3w : wrap64 ((m : Int) * 2 ^ y.toNat) = (s : Int) := (i64_w _).symm.trans v3
          clear hxj hyj hjk hVI HJ hj9 hlt hc256 hm hs ha1 hsb hBC hc HW
          have a63 : a1 < 2 ^ 63 := HSB.out
          have HA63 := Aside0.mk a63
          obtain ⟨l2, hl2, hlen⟩ : ∃ l2, l2 = xs.drop (i1 + j + 1) ∧ ((a1 ≤ l2.length ∧ ∃ tt, (fun x => some { sl with data := some x }) (l2.take a1) = some tt ∧ umN k' (l2.drop a1) tt = some RT) ∨ (l2.length < a1 ∧ RT = none)) := by
           rcases HREST2.out with ⟨h2, _⟩ | ⟨key, l1, h2, h3⟩
           ·have := HDH.out; rw [h2] at this; cases this
           ·have := HDH.out; rw [h2] at this; cases this; exact ⟨_, rfl, h3⟩
          have hl2n : l2.length + (i1 + j + 1) = xs.length := by rw [hl2, List.length_drop]; have := HLH.out; omega
          have HL2 := Aside0.mk hl2
          have HL2N := Aside0.mk hl2n
          clear hl2
          obtain ⟨p, hp⟩ : ∃ z : Int, wrap64 (x1 + (a1 : Int)) = z := ⟨_, rfl⟩
          have hpw : IntKind.i64.wrap (x1 + (a1 : Int)) = p := (i64_w _).trans hp
          have q1 : decide ((a1 : Int) < 0) = false := decide_eq_false (by omega)
          rcases hlen with ⟨hle, tt, htt, hum⟩ | ⟨hgt, hRT⟩
          ·have hpv : p = ((i1 + j + 1 + a1 : Nat) : Int) ∧ i1 + j + 1 + a1 ≤ n := by have h1 := XH1.out; have h2 := HN2.out; have h3 := HN.out; refine ⟨?_, by omega⟩; rw [← hp]; unfold wrap64; omega
           have HPV := Aside0.mk hpv
           have HPX := Aside0.mk (show i1 + j + 1 + a1 ≤ xs.length by have h1 := hpv.2; have h2 := HN.out; omega)
           have HUM := Aside0.mk hum
           have HLE := Aside0.mk hle
           have q2 : decide (p < 0) = false := decide_eq_false (by omega)
           have q3 : decide ((n : Int) < p) = false := decide_eq_false (by omega)
           have htt2 := Option.some.inj htt
           subst htt2
           clear htt
           obtain ⟨i05, hi05, hsz5⟩ : ∃ i, Tryd.prog.info? 5 = some i ∧ i.size = 1 := Option.map_eq_some_iff.1 info5s
           have hx1p : (x1 ≤ p) = True := eq_true (by have := XH1.out; omega)
           have hx10 : ((0 : Int) ≤ x1) = True := eq_true (by have := XH1.out; omega)
           have hcutB := cut_mid (P := Tryd.prog) 22 5 .i64 .i64 Tryd.underlying22 hi05 1 hsz5 (some ad) n c x1 p (of_eq_true hx10) (of_eq_true hx1p) (by omega) HNC.out
           obtain ⟨DD, hDD⟩ : ∃ D_, D_ = (if c = x1.toNat then some ad else Option.map (fun x : Addr => x.add (x1.toNat * 1)) (some ad)) := ⟨_, rfl⟩
           rw [← hDD] at hcutB
           obtain ⟨pl, hpl⟩ : ∃ m : Nat, m = p.toNat - x1.toNat := ⟨_, rfl⟩
           rw [← hpl] at hcutB
           obtain ⟨cD, hcD⟩ : ∃ m : Nat, m = c - x1.toNat := ⟨_, rfl⟩
           rw [← hcD] at hcutB
           have HDB : Aside0 (∀ a', DD = some a' → a'.block = ad.block) := ⟨fun a' h => by rw [hDD] at h; split at h; (injection h with h; rw [h]); (injection h with h; rw [← h]; exact add_block ad _)⟩
           have HPL := Aside0.mk (show pl = a1 by have := XH1.out; omega)
           obtain ⟨hs, hhs⟩ : ∃ q, q = l2.take a1 := ⟨_, rfl⟩
           have hsl : hs.length = a1 := by rw [hhs, List.length_take]; omega
           have HHS := Aside0.mk hhs
           have HSL := Aside0.mk hsl
           have hd2 : xs.drop (i1 + j + 1) = hs ++ l2.drop a1 := by rw [← HL2.out, hhs, List.take_append_drop]
           have HCX : Aside0 (Kd.C (Kd.int .u8) WH DD pl hs) := ⟨by rw [hDD, hpl]; have h1 := XH1.out; have h2 : p.toNat = x1.toNat + hs.length := (by omega); exact mid_row (j := p.toNat) HLM.out.inp HNC.out (by rw [h1, Int.toNat_natCast]; exact hd2) (by rw [h1, Int.toNat_natCast]; exact HLH.out) h2⟩
           have HUM2 : Aside0 (umN k' (xs.drop (i1 + j + 1 + a1)) { sl with data := some hs } = some RT) := ⟨by (try rw [hhs]); rw [← List.drop_drop, ← HL2.out]; exact HUM.out⟩
           obtain ⟨A0, n0, cap0, xs0, rfl, hn0, hRu⟩ := HLM.out.dataR
           have HRU := Aside0.mk hRu
           have hg1 : WH.cell? ⟨g, 1, none⟩ = some (.slice A0 n0 cap0) := (blk_cell HLM.out.blk 1).trans rfl
           have hcutA := cut_to (P := Tryd.prog) 22 5 .i64 Tryd.underlying22 hi05 A0 n0 cap0 (0 : Int) (Int.le_refl _) (by omega) hn0
           have hN1 : some g ≠ (Value.slice A0 0 cap0).ownBlock := by rw [own_cut A0 0 n0 cap0 cap0]; exact Kd.R_ne hRu HLM.out.blk (by decide)
           have HN1 := Aside0.mk hN1
           clear hi05 hsz5 hDD hpl hcD hhs hsl hd2 hn0 hRu hN1 hpv hum hle hl2n hp a63
           go_wp2_with fail
           refine start_ (n := 14) (S := fun w' => w'.cell? ⟨g, 1, none⟩ = some (.slice A0 n0 cap0)) (ds := [13]) #[false, false, false, false, false, false, false, false, false, false, false, false, false, false] (by kernel_rfl) rfl rfl (hg1) (fun hHeld => ?_)
           refine pure_ (i := 0) (N := some 151) (v := ?_) (a' := ?_) #[true, false, false, false, false, false, false, false, false, false, false, false, false, false] rfl rfl (by kernel_rfl) (fun _ _ _ h => h) (Or.inl ⟨by rfl, ?_⟩) ?_ ?_
           rotate_left
           ·intro w'
            go_simp
            with_reducible rfl
           rotate_left
           ·simp only [Act.put, List.setIfInBounds_toArray, List.set_cons_zero, List.set_cons_succ, i64_w, i32_w]
            rfl
           refine pure_ (i := 1) (N := some 152) (v := ?_) (a' := ?_) #[true, true, false, false, false, false, false, false, false, false, false, false, false, false] rfl rfl (by kernel_rfl) (fun _ _ _ h => h) (Or.inl ⟨by rfl, ?_⟩) ?_ ?_
           rotate_left
           ·intro w'
            go_simp
            with_reducible rfl
           rotate_left
           ·simp only [Act.put, List.setIfInBounds_toArray, List.set_cons_zero, List.set_cons_succ, i64_w, i32_w]
            rfl
           refine pure_ (i := 2) (N := some 153) (v := ?_) (a' := ?_) #[true, true, true, false, false, false, false, false, false, false, false, false, false, false] rfl rfl (by kernel_rfl) (fun _ _ _ h => h) (Or.inl ⟨by rfl, ?_⟩) ?_ ?_
           rotate_left
           ·intro w'
            go_simp
            with_reducible rfl
           rotate_left
           ·simp only [Act.put, List.setIfInBounds_toArray, List.set_cons_zero, List.set_cons_succ, i64_w, i32_w]
            rfl
           refine pure_ (i := 3) (N := some 154) (v := ?_) (a' := ?_) #[true, true, true, true, false, false, false, false, false, false, false, false, false, false] rfl rfl (by kernel_rfl) (fun _ _ _ h => h) (Or.inl ⟨by rfl, ?_⟩) ?_ ?_
           rotate_left
           ·intro w'
            go_simp
            with_reducible rfl
           rotate_left
           ·simp only [Act.put, List.setIfInBounds_toArray, List.set_cons_zero, List.set_cons_succ, i64_w, i32_w]
            rfl
           refine pure_ (i := 6) (N := some 157) (v := ?_) (a' := ?_) #[true, true, true, true, false, false, true, false, false, false, false, false, false, false] rfl rfl (by kernel_rfl) (fun _ _ _ h => h) (Or.inl ⟨by rfl, ?_⟩) ?_ ?_
           rotate_left
           ·intro w'
            go_simp
            with_reducible rfl
           rotate_left
           ·simp only [Act.put, List.setIfInBounds_toArray, List.set_cons_zero, List.set_cons_succ, i64_w, i32_w]
            rfl
           refine pure_ (i := 7) (N := some 158) (v := ?_) (a' := ?_) #[true, true, true, true, false, false, true, true, false, false, false, false, false, false] rfl rfl (by kernel_rfl) (fun _ _ _ h => h) (Or.inl ⟨by rfl, ?_⟩) ?_ ?_
           rotate_left
           ·intro w'
            go_simp
            with_reducible rfl
           rotate_left
           ·simp only [Act.put, List.setIfInBounds_toArray, List.set_cons_zero, List.set_cons_succ, i64_w, i32_w]
            rfl
           refine pure_ (i := 8) (N := some 159) (v := ?_) (a' := ?_) #[true, true, true, true, false, false, true, true, true, false, false, false, false, false] rfl rfl (by kernel_rfl) (fun _ _ _ h => h) (Or.inl ⟨by rfl, ?_⟩) ?_ ?_
           rotate_left
           ·intro w'
            go_simp
            with_reducible rfl
           rotate_left
           ·simp only [Act.put, List.setIfInBounds_toArray, List.set_cons_zero, List.set_cons_succ, i64_w, i32_w]
            rfl
           refine pure_ (i := 9) (N := some 160) (v := ?_) (a' := ?_) #[true, true, true, true, false, false, true, true, true, true, false, false, false, false] rfl rfl (by kernel_rfl) (fun _ _ _ h => h) (Or.inl ⟨by rfl, ?_⟩) ?_ ?_
           rotate_left
           ·intro w'
            go_simp
            with_reducible rfl
           rotate_left
           ·simp only [Act.put, List.setIfInBounds_toArray, List.set_cons_zero, List.set_cons_succ, i64_w, i32_w]
            rfl
           refine take_ (i := 4) (N := some 155) (v := ?_) (a' := ?_) #[true, true, true, true, true, false, true, true, true, true, false, false, false, false] rfl rfl (by kernel_rfl) (fun _ _ _ h => h) (Or.inl ⟨by rfl, ?_⟩) hHeld ?_ ?_
           rotate_left
           ·intro w' s0
            go_simp
            with_reducible rfl
           rotate_left
           ·simp only [Act.put, List.setIfInBounds_toArray, List.set_cons_zero, List.set_cons_succ, i64_w, i32_w]
            rfl
           refine pure_ (i := 5) (N := some 156) (v := ?_) (a' := ?_) #[true, true, true, true, true, true, true, true, true, true, false, false, false, false] rfl rfl (by kernel_rfl) (fun _ _ _ h => h) (Or.inl ⟨by rfl, ?_⟩) ?_ ?_
           rotate_left
           ·intro w'
            go_simp
            with_reducible rfl
           rotate_left
           ·simp only [Act.put, List.setIfInBounds_toArray, List.set_cons_zero, List.set_cons_succ, i64_w, i32_w]
            rfl
           refine one_ (i := 10) (N := some 161) #[true, true, true, true, true, true, true, true, true, true, true, false, false, false] rfl rfl (by kernel_rfl) (by decide) (fun K hK => ?_)
           refine Kd.R_append_rows_step (Kd.int .u8) (Rr := fun x cs => cs = [Value.int .u8 x]) (w0 := w0) w0.heap.size (by rfl) (.tmp 156) (.tmp 160) 22 5 (.int .u8 0) 1 rfl Tryd.underlying22 info5e rfl (by decide) (by decide) (.slice A0 0 cap0) [] hs DD pl _ (okn (some ad) n g) (fun _ => False) rfl rfl (R_cut0 (Kd.R_drew HRU.out)) (Kd.C_drew HCX.out) (fun x cs hx => hx) (fun _ hk => hk.elim) (fun k hk => HLM.out.okNew k hk) (below_drew HLM.out.below) (below_size (below_drew HLM.out.below)) (by have h1 := HPL.out; have h2 := HLE.out; have h3 := HL2N.out; have h4 := HN2.out; have h5 := HN.out; simp only [List.length_nil]; omega) ?_
           intro va wa hR hB hg hat
           rw [List.nil_append] at hR
           obtain ⟨AA, cA, rfl⟩ := Kd.R_slice hR
           have HRa := Aside0.mk hR
           have HBa := Aside0.mk hB
           have HGa := Aside0.mk hg
           have HAT := Aside0.mk hat
           have hga_ := (hg.block g (blk_lt HLM.out.blk) HN1.out).trans HLM.out.blk
           have HGAB := Aside0.mk hga_
           have hga := (blk_cell hga_ 1).trans rfl
           have hgaf := blk_frozen hga_ 1
           clear hR hB hg hat hg1 hga_
           refine hK.out _ _ (hga) (fun hHeld => ?_)
           clear hK K
           refine norm_ (a' := ?_) ?_ ?_
           rotate_left
           ·show Act.put _ (some 161) _ = _
            simp only [Act.put, List.setIfInBounds_toArray, List.set_cons_zero, List.set_cons_succ, i64_w, i32_w]
            rfl
           refine pure_ (i := 11) (N := some 162) (v := ?_) (a' := ?_) #[true, true, true, true, true, true, true, true, true, true, true, true, false, false] rfl rfl (by kernel_rfl) (fun _ _ _ h => h) (Or.inl ⟨by rfl, ?_⟩) ?_ ?_
           rotate_left
           ·intro w'
            go_simp
            with_reducible rfl
           rotate_left
           ·simp only [Act.put, List.setIfInBounds_toArray, List.set_cons_zero, List.set_cons_succ, i64_w, i32_w]
            rfl
           refine pure_ (i := 12) (N := some 163) (v := ?_) (a' := ?_) #[true, true, true, true, true, true, true, true, true, true, true, true, true, false] rfl rfl (by kernel_rfl) (fun _ _ _ h => h) (Or.inl ⟨by rfl, ?_⟩) ?_ ?_
           rotate_left
           ·intro w'
            go_simp
            with_reducible rfl
           rotate_left
           ·simp only [Act.put, List.setIfInBounds_toArray, List.set_cons_zero, List.set_cons_succ, i64_w, i32_w]
            rfl
           refine last_ (i := 13) (N := none) #[true, true, true, true, true, true, true, true, true, true, true, true, true, true] rfl rfl (by kernel_rfl) (by decide) (fun K hK => ?_)
           refine skip_ (w1 := ?_) (by rfl) rfl ?_ ?_
           rotate_left
           ·go_simp
            rfl
           refine hK.out _ _ ?_
           clear hK K
           refine done_ (by kernel_rfl) ?_

           obtain ⟨wb, hwb⟩ : ∃ w_, w_ = wa.setCell ⟨g, 1, none⟩ (.slice AA hs.length cA) := ⟨_, rfl⟩
           rw [← hwb]
           have HWB := Aside0.mk hwb
           have hgb_ : wb.heap[g]? = some (.cells #[c0, .slice AA hs.length cA, .slice none 0 0, .int .i32 0] 112 (0, 0)) := by rw [hwb]; exact blk_put HGAB.out 1 _ rfl
           have HGB := Aside0.mk hgb_
           have hgb := (blk_cell hgb_ 1).trans rfl
           have hgbf := blk_frozen hgb_ 1
           have HGD : Aside0 (WH.grownBy wa (Value.slice A0 n0 cap0).ownBlock) := ⟨⟨HGa.out.os, HGa.out.tape, HGa.out.output, HGa.out.size, fun k hk hne => HGa.out.block k hk (by rw [own_cut A0 0 n0 cap0 cap0]; exact hne)⟩⟩
           clear hwb hga hgaf hgb_
           cases AA with
           | some ad9 =>
            have heq9 : ∀ W : World, (binOp .eql 22 (.slice (some ad9) hs.length cA) (.slice none 0 0)).run Tryd.prog W = .ok (.bool false) W := fun W => Lib.run_eql_slice_nil W 22 5 (some ad9) hs.length cA 0 0 Tryd.underlying22
            go_wp2_with fail
            have HU2 : Aside0 (Nm (some ad) n xs w0 wb g { sl with data := some hs } c0 (.slice (some ad9) hs.length cA)) := ⟨by
             rw [HWB.out]
             refine HLM.out.setData (fun k hk _ hne => HGD.out.block k hk hne) HGAB.out HBa.out ad9 cA hs HRa.out (fun k hlt ho => ?_)
             rcases HAT.out with h | ⟨b, h, hb⟩
             ·rw [ho, h, own_cut A0 0 n0 cap0 cap0]
             ·rw [h] at ho; injection ho with ho; (have : WH.drew.heap.size = WH.heap.size := rfl); omega⟩
            refine Handed.intro k' ?msH1 (hJ1 _ _ _ ?rlH1 ?frH1)
            case frH1 => kernel_rfl
            case msH1 => have := HK'.out; omega
            case rlH1 => exact ⟨p, rfl, ⟨i1 + j + 1 + a1, _, _, _, HPV.out.1, HPX.out, (by have h1 := HLL.out; have h2 := HKI.out; first | (show sl.links.length ≤ _; omega) | (simp only [List.length_append, List.length_singleton]; omega)), HUM2.out, HU2.out⟩⟩
           | none =>
            have heq9 : ∀ W : World, (binOp .eql 22 (.slice none hs.length cA) (.slice none 0 0)).run Tryd.prog W = .ok (.bool true) W := fun W => Lib.run_eql_slice_nil W 22 5 none hs.length cA 0 0 Tryd.underlying22
            have HBW : Aside0 (Below w0.heap.size w0 wb) := ⟨by rw [HWB.out]; exact below_set HBa.out HLM.out.gge⟩
            go_wp2_with (first | ((with_reducible refine gate_dst (N := 170) rfl ?_); refine Kd.R_lit (Kd.int .u8) (w0 := w0) (W := wb) w0.heap.size 5 rfl (N := 170) rfl (xs := ([] : List Int)) (inner := []) (ok := okn (some ad) n g) (okp := fun _ => False) ?hr22 (by constructor <;> simp) (fun _ hk => hk.elim) (HLM.out.okNew _ (Nat.le_trans HGD.out.size (by rw [HWB.out]; simp [World.setCell]))) HBW.out HBW.out.size (by simp) ?_; (case hr22 => first | (go_simp; done) | (go_simp; rfl)); intro v9 we hR9 hB9 hG9 hat9; have HAT9 := Aside0.mk hat9; obtain ⟨ad9, c9, rfl⟩ := own_some hR9 hat9; have HR9 := Aside0.mk hR9; have HB9 := Aside0.mk hB9; have HG9 := Aside0.mk hG9; have hgc_ := (hG9.block g (blk_lt HGB.out) (by simp)).trans HGB.out; have hgc := (blk_cell hgc_ 1).trans rfl; have hgcf := blk_frozen hgc_ 1; clear hR9 hB9 hG9 hat9 hgc_ hgb hgbf) | ((with_reducible refine gate_store (t := 22) (p := 172) rfl ?_); refine store_event (t := 22) (p := 172) (v := ?vo_H2) (w1 := (we.setCell ⟨g, 1, none⟩ (.slice (some ad9) 0 c9))) ?hg ?ho ?hn ?hr ?_; (case ho => rfl); (case hg => rfl); (case hn => rfl); (case hr => first | (go_simp; done) | (go_simp; rfl)); intro wc hw; have HWC := Aside0.mk hw; clear hw hgc hgcf))
            have hx0 : hs = [] := by
             rcases Nat.eq_zero_or_pos hs.length with h | h
             ·exact List.eq_nil_of_length_eq_zero h
             ·obtain ⟨g9, c9, e9, _⟩ := Kd.R_form HRa.out h
              cases e9
            have HU2 : Aside0 (Nm (some ad) n xs w0 wc g { sl with data := some hs } c0 (.slice (some ad9) 0 c9)) := ⟨by
             rw [HWC.out, hx0]
             have hsz : WH.heap.size ≤ wb.heap.size := Nat.le_trans HGD.out.size (by rw [HWB.out]; simp [World.setCell])
             exact HLM.out.setData (fun k hk hkg hne => by
              refine (HG9.out.block k (Nat.lt_of_lt_of_le hk hsz) (by simp)).trans ?_
              rw [HWB.out]
              exact (Below.heap_setCell wa ⟨g, 1, none⟩ _ k (by simpa using hkg)).trans (HGD.out.block k hk hne)) ((HG9.out.block g (blk_lt HGB.out) (by simp)).trans HGB.out) HB9.out ad9 c9 [] HR9.out (fun k hlt ho => by obtain ⟨b, h, hb⟩ := HAT9.out; rw [h] at ho; injection ho with ho; omega)⟩
            refine Handed.intro k' ?msH3 (hJ1 _ _ _ ?rlH3 ?frH3)
            case frH3 => kernel_rfl
            case msH3 => have := HK'.out; omega
            case rlH3 => exact ⟨p, rfl, ⟨i1 + j + 1 + a1, _, _, _, HPV.out.1, HPX.out, (by have h1 := HLL.out; have h2 := HKI.out; first | (show sl.links.length ≤ _; omega) | (simp only [List.length_append, List.length_singleton]; omega)), HUM2.out, HU2.out⟩⟩
          ·have HRT := Aside0.mk hRT
           have hxx := XH1.out
           have hnn := HN.out
           by_cases hov : i1 + j + 1 + a1 < 2 ^ 63
           ·have hpv : p = ((i1 + j + 1 + a1 : Nat) : Int) := by rw [← hp]; unfold wrap64; omega
            have q2 : decide (p < 0) = false := decide_eq_false (by omega)
            have q3 : decide ((n : Int) < p) = true := decide_eq_true (by omega)
            obtain ⟨T1, X1, hg1⟩ := (HGE.out.below HLM.out.below).2.1
            clear hpv hov hp hRT hgt hl2n hxx hnn a63
            go_wp2_with fail
            go_ret
            exact UnPost.err HRT.out _ _ HLM.out.below
           ·have hn2 := HN2.out
            have q2 : decide (p < 0) = true := decide_eq_true (by rw [← hp]; unfold wrap64; omega)
            obtain ⟨T1, X1, hg1⟩ := (HGE.out.below HLM.out.below).2.2
            clear hov hp hRT hgt hl2n hxx hnn a63 hn2
            go_wp2_with fail
            go_ret
            exact UnPost.err HRT.out _ _ HLM.out.below
         ·have m5 : decide ((cc : Int) < 128) = false := decide_eq_false (by omega)
          have m5n : decide (cc < 128) = false := decide_eq_false hl
          have HVN : Aside0 (VI xs i1 9 RH (j + 1) a1) := ⟨by rcases HBC.out with ⟨h, _⟩ | ⟨_, h⟩; (exact absurd h hl); exact h⟩
          clear hl HBC
          have v2w : wrap64 (m : Int) = (m : Int) := (i64_w _).symm.trans v2
          have v3w : wrap64 ((m : Int) * 2 ^ y.toNat) = (s : Int) := (i64_w _).symm.trans v3
          clear hxj hyj hjk hVI HJ hj9 hlt hc256 hm hs ha1 hsb hBC hc HW
          go_wp2_with fail
          refine Handed.intro (gkH - 1) ?msHb (hJH _ _ _ ?rlHb ?frHb)
          case frHb => kernel_rfl
          case msHb => have := HJ0.out; omega
          case rlHb => exact ⟨x1, y1, (a1 : Int), rfl, rfl, rfl, ⟨rfl⟩, ⟨j + 1, a1, XH1.out, Y1.out, rfl, by have := HJ0.out; omega, HVN.out⟩⟩
      ·have v4k : Go.bits .or .u64 (a : Int) (s : Int) = 18 := by rw [v4, hk0]; rfl
       clear v4
       have kb4 : Go.bits .and .u64 18 7 = 2 := by decide +kernel
       have kb5 : wrap32 2 = 2 := by decide +kernel
       have kb6 : wrap64 2 = 2 := by decide +kernel
       clear hk0
       obtain ⟨RN, hR, hrest2⟩ := lenN_step hrest
       rw [HL1.out] at hR
       have HRN := Aside0.mk hR
       have HIN := Aside0.mk HLK.out
       have HNN : Aside0 (RN = none → RT = none) := ⟨fun h => by rcases hrest2 with ⟨_, h2⟩ | ⟨key, l1, h2, _⟩; (exact h2); (rw [h] at h2; cases h2)⟩
       have HVN : Aside0 (∀ v r, RN = some (v, r) → v < 2 ^ 63) := ⟨fun v r h => rdv_lt 9 _ v r (fun x hx => HBX.out x (List.mem_of_mem_drop hx)) (by rw [HRN.out, h])⟩
       have HREST2 := Aside0.mk hrest2
       have XK := XK1
       obtain ⟨i1, hi1⟩ : ∃ i1, i1 = k + j + 1 := ⟨_, rfl⟩
       have HKI := Aside0.mk (show k < i1 by omega)
       rw [← hi1] at HRN HIN XK
       clear hrest hR hrest2 hi1
       go_wp2_with fail
       refine wp_loop_f m60_3 10 (fun kq us w' => ∃ (x y z : Int), us 6 = .int .i64 x ∧ us 18 = .int .u64 y ∧ us 17 = .int .i64 z ∧ Aside0 (w' = WK) ∧ Aside0 (∃ j a : Nat, x = ((i1 + j : Nat) : Int) ∧ y = ((7 * j : Nat) : Int) ∧ z = (a : Int) ∧ j + kq = 10 ∧ VI xs i1 9 RN j a)) ?atSN (by kernel_rfl) ?rndN
       case atSN => exact ⟨_, 0, 0, rfl, rfl, rfl, ⟨rfl⟩, ⟨0, 0, XK.out, rfl, rfl, rfl, VI.start HRN.out (by decide) HIN.out⟩⟩
       case rndN =>
        intro gkN usN WN hrel JN KN hJN hKN
        dsimp only [ovl, m60_3]
        obtain ⟨x, y, z, h6, hsh, hz, HW, HJ⟩ := hrel
        rw [h6, hsh, hz]
        clear h6 hsh hz
        have ew := HW.out
        subst ew
        obtain ⟨j, a, hxj, hyj, hza, hjk, hVI⟩ := HJ.out
        subst hza
        have hj9 : j ≤ 9 := by have := hVI.jk; omega
        have m1 : decide ((64 : Int) ≤ y) = false := decide_eq_false (by omega)
        have HJ0 := Aside0.mk (show j + gkN = 10 ∧ j ≤ 9 from ⟨hjk, hj9⟩)
        rcases hVI.byte (b := 63) HBX.out (by decide) HVN.out with ⟨hA, hRn⟩ | ⟨cc, m, hc, hlt, hc256, hm, hsb, hBC⟩
        ·have m2 : decide ((n : Int) ≤ x) = true := decide_eq_true (by have := HN.out; omega)
         have HRT := Aside0.mk (HNN.out hRn)
         obtain ⟨T1, X1, hg1⟩ := (HGE.out.below HLM.out.below).2.1
         clear hA hRn hxj hyj hjk hVI HJ hj9
         go_wp2_with fail
         go_ret
         exact UnPost.err HRT.out _ _ HLM.out.below
        ·obtain ⟨v1, v2, v3, v4⟩ := acc_words .i64 63 (by decide) (by decide) words_i64 hc256 hm hVI.lt hsb
         obtain ⟨s, hs⟩ : ∃ s : Nat, s = m * 2 ^ (7 * j) := ⟨_, rfl⟩
         rw [← hs] at v3 v4 hsb hBC
         obtain ⟨a1, ha1⟩ : ∃ q : Nat, q = a + s := ⟨_, rfl⟩
         rw [← ha1] at v4 hBC hsb
         rw [← hyj] at v3
         rw [← hxj] at hc
         obtain ⟨ad', eA, hx⟩ := Kd.at_int HLM.out.inp x (by omega) (by have := HN.out; omega)
         injection eA with eA
         subst eA
         rw [hc] at hx
         obtain ⟨x1, hx1⟩ : ∃ z : Int, wrap64 (x + 1) = z := ⟨_, rfl⟩
         have hx1w : IntKind.i64.wrap (x + 1) = x1 := (i64_w _).trans hx1
         have XN1 := Aside0.mk (show x1 = ((i1 + j + 1 : Nat) : Int) by have := HN2.out; have := HN.out; rw [← hx1]; unfold wrap64; omega)
         have HLN := Aside0.mk (show i1 + j + 1 ≤ xs.length by omega)
         obtain ⟨y1, hy1⟩ : ∃ z : Int, IntKind.u64.wrap (y + 7) = z := ⟨_, rfl⟩
         have Y1 := Aside0.mk (show y1 = ((7 * (j + 1) : Nat) : Int) by rw [← hy1, words_u64 _ (by omega) (by omega)]; omega)
         have m2 : decide ((n : Int) ≤ x) = false := decide_eq_false (by have := HN.out; omega)
         have m3 : (x < (n : Int)) = True := eq_true (by have := HN.out; omega)
         have m4 : ((0 : Int) ≤ x) = True := eq_true (by omega)
         have m6 : (0 : Int) ≤ y := by omega
         have m7 : min y.toNat 64 = y.toNat := Nat.min_eq_left (by omega)
         have m8 : min y.toNat IntKind.i64.bits = y.toNat := m7
         have HBC := Aside0.mk hBC
         have HSB := Aside0.mk hsb
         by_cases hl : cc < 128
         ·have m5 : decide ((cc : Int) < 128) = true := decide_eq_true (by omega)
          have m5n : decide (cc < 128) = true := decide_eq_true hl
          have HDN : Aside0 (RN = some (a1, xs.drop (i1 + j + 1))) := ⟨by rcases HBC.out with ⟨_, h⟩ | ⟨h, _⟩; (exact h); omega⟩
          clear hl HBC
          have v2w : wrap64 (m : Int) = (m : Int) := (i64_w _).symm.trans v2
          have v3w : wrap64 ((m : Int) * 2 ^ y.toNat) = (s : Int) := (i64_w _).symm.trans v3
          clear hxj hyj hjk hVI HJ hj9 hlt hc256 hm hs ha1 hsb hBC hc HW
          have a63 : a1 < 2 ^ 63 := HSB.out
          have HA63 := Aside0.mk a63
          obtain ⟨l2, hl2, hlen⟩ : ∃ l2, l2 = xs.drop (i1 + j + 1) ∧ ((a1 ≤ l2.length ∧ ∃ tt, (putL1 sl) (l2.take a1) = some tt ∧ umN k' (l2.drop a1) tt = some RT) ∨ (l2.length < a1 ∧ RT = none)) := by
           rcases HREST2.out with ⟨h2, _⟩ | ⟨key, l1, h2, h3⟩
           ·have := HDN.out; rw [h2] at this; cases this
           ·have := HDN.out; rw [h2] at this; cases this; exact ⟨_, rfl, h3⟩
          have hl2n : l2.length + (i1 + j + 1) = xs.length := by rw [hl2, List.length_drop]; have := HLN.out; omega
          have HL2 := Aside0.mk hl2
          have HL2N := Aside0.mk hl2n
          clear hl2
          obtain ⟨p, hp⟩ : ∃ z : Int, wrap64 (x1 + (a1 : Int)) = z := ⟨_, rfl⟩
          have hpw : IntKind.i64.wrap (x1 + (a1 : Int)) = p := (i64_w _).trans hp
          have q1 : decide ((a1 : Int) < 0) = false := decide_eq_false (by omega)
          rcases hlen with ⟨hle, tt, htt, hum⟩ | ⟨hgt, hRT⟩
          ·have hpv : p = ((i1 + j + 1 + a1 : Nat) : Int) ∧ i1 + j + 1 + a1 ≤ n := by have h1 := XN1.out; have h2 := HN2.out; have h3 := HN.out; refine ⟨?_, by omega⟩; rw [← hp]; unfold wrap64; omega
           have HPV := Aside0.mk hpv
           have HPX := Aside0.mk (show i1 + j + 1 + a1 ≤ xs.length by have h1 := hpv.2; have h2 := HN.out; omega)
           have HUM := Aside0.mk hum
           have HLE := Aside0.mk hle
           have q2 : decide (p < 0) = false := decide_eq_false (by omega)
           have q3 : decide ((n : Int) < p) = false := decide_eq_false (by omega)
           obtain ⟨tl, htl, htt2⟩ := putL1_some htt
           subst htt2
           clear htt
           obtain ⟨i05, hi05, hsz5⟩ : ∃ i, Tryd.prog.info? 5 = some i ∧ i.size = 1 := Option.map_eq_some_iff.1 info5s
           have hx1p : (x1 ≤ p) = True := eq_true (by have := XN1.out; omega)
           have hx10 : ((0 : Int) ≤ x1) = True := eq_true (by have := XN1.out; omega)
           have hcutB := cut_mid (P := Tryd.prog) 22 5 .i64 .i64 Tryd.underlying22 hi05 1 hsz5 (some ad) n c x1 p (of_eq_true hx10) (of_eq_true hx1p) (by omega) HNC.out
           obtain ⟨DD, hDD⟩ : ∃ D_, D_ = (if c = x1.toNat then some ad else Option.map (fun x : Addr => x.add (x1.toNat * 1)) (some ad)) := ⟨_, rfl⟩
           rw [← hDD] at hcutB
           obtain ⟨pl, hpl⟩ : ∃ m : Nat, m = p.toNat - x1.toNat := ⟨_, rfl⟩
           rw [← hpl] at hcutB
           obtain ⟨cD, hcD⟩ : ∃ m : Nat, m = c - x1.toNat := ⟨_, rfl⟩
           rw [← hcD] at hcutB
           have HDB : Aside0 (∀ a', DD = some a' → a'.block = ad.block) := ⟨fun a' h => by rw [hDD] at h; split at h; (injection h with h; rw [h]); (injection h with h; rw [← h]; exact add_block ad _)⟩
           have HPL := Aside0.mk (show pl = a1 by have := XN1.out; omega)
           obtain ⟨hs, hhs⟩ : ∃ q, q = l2.take a1 := ⟨_, rfl⟩
           have hsl : hs.length = a1 := by rw [hhs, List.length_take]; omega
           have HHS := Aside0.mk hhs
           have HSL := Aside0.mk hsl
           have hd2 : xs.drop (i1 + j + 1) = hs ++ l2.drop a1 := by rw [← HL2.out, hhs, List.take_append_drop]
           have HCX : Aside0 (Kd.C (Kd.int .u8) WN DD pl hs) := ⟨by rw [hDD, hpl]; have h1 := XN1.out; have h2 : p.toNat = x1.toNat + hs.length := (by omega); exact mid_row (j := p.toNat) HLM.out.inp HNC.out (by rw [h1, Int.toNat_natCast]; exact hd2) (by rw [h1, Int.toNat_natCast]; exact HLN.out) h2⟩
           have HUM2 : Aside0 (umN k' (xs.drop (i1 + j + 1 + a1)) { sl with links := sl.links ++ [tl] } = some RT) := ⟨by (try rw [hhs]); rw [← List.drop_drop, ← HL2.out]; exact HUM.out⟩
           have HTL : Aside0 (umL 4 hs ⟨none, none, none⟩ = some (some tl)) := ⟨by rw [hhs]; exact htl⟩
           have HBH : Aside0 (∀ x ∈ hs, 0 ≤ x ∧ x ≤ 255) := ⟨fun x hx => HBX.out x (by rw [hhs] at hx; have h1 := List.mem_of_mem_take hx; rw [HL2.out] at h1; exact List.mem_of_mem_drop h1)⟩
           obtain ⟨gs, hR0, hgl, hat⟩ := HLM.out.rows
           obtain ⟨A0, cap0, rfl⟩ := Kd.R_slice hR0
           have HR0 := Aside0.mk hR0
           have HGL := Aside0.mk hgl
           have HAT := Aside0.mk hat
           have HGB : Aside0 (gs.length ≤ 40000000) := ⟨by have h1 := HLL.out; have h2 := HKI.out; have h3 := HN2.out; have h4 := HN.out; have h5 := HLN.out; omega⟩
           have hgb := HGB.out
           have hg0 : WN.cell? ⟨g, 0, none⟩ = some (.slice A0 gs.length cap0) := (blk_cell HLM.out.blk 0).trans rfl
           have HO0 : Aside0 (∀ k, some k = (Value.slice A0 gs.length cap0).ownBlock → okn (some ad) n g k) := ⟨fun k ho => hR0.1 k ho.symm⟩
           have HN1 := Aside0.mk (show some g ≠ (Value.slice A0 gs.length cap0).ownBlock from Kd.R_ne hR0 HLM.out.blk (by decide))
           have HB2 := Aside0.mk (below_alloc (below_alloc HLM.out.below (.cells #[.slice none 0 0, .pointer none, .pointer none, .slice none 0 0, .int .i32 0] 96)) (.cells #[.pointer (some ⟨WN.heap.size, 0, none⟩)] 91))
           have HG2 := Aside0.mk (blk_alloc (blk_alloc HLM.out.blk (.cells #[.slice none 0 0, .pointer none, .pointer none, .slice none 0 0, .int .i32 0] 96)) (.cells #[.pointer (some ⟨WN.heap.size, 0, none⟩)] 91))
           have HPT := Aside0.mk (C_ptr _ (WN.heap.size + 1) WN.heap.size (heap2_1 WN (.cells #[.slice none 0 0, .pointer none, .pointer none, .slice none 0 0, .int .i32 0] 96) (.cells #[.pointer (some ⟨WN.heap.size, 0, none⟩)] 91)))
           have HR2 := Aside0.mk (Kd.R_alloc (Kd.R_alloc hR0 (.cells #[.slice none 0 0, .pointer none, .pointer none, .slice none 0 0, .int .i32 0] 96)) (.cells #[.pointer (some ⟨WN.heap.size, 0, none⟩)] 91))
           have HPC := Aside0.mk (show pl ≤ cD by have h1 := HNC.out; have h2 := hpv.2; have h3 := hpv.1; omega)
           have HPN := Aside0.mk (show pl = hs.length by rw [hsl]; exact HPL.out)
           have HP2 := Aside0.mk (show pl ≤ 40000000 by have h1 := HPL.out; have h2 := HPX.out; have h3 := HN.out; have h4 := HN2.out; omega)
           have HP0 : Aside0 (0 < pl → 0 < n) := ⟨fun _ => by have h2 := HPX.out; have h3 := HN.out; omega⟩
           clear hi05 hsz5 hDD hpl hcD hhs hsl hd2 hR0 hgl hat hpv hum hle hl2n hp a63 htl
           go_wp2_with (first | ((with_reducible refine gate_builtin (b := .append) (xs := #[.tmp 220, .tmp 223]) rfl ?_); at_builtin; refine Kd.R_append_rows kp (Rr := fun x cs => cs = [Value.pointer (some ⟨x, 0, none⟩)]) (w0 := w0) w0.heap.size rfl (.tmp 220) (.tmp 223) 110 91 (.pointer none) 8 rfl Tryd.underlying110 info91e rfl (by decide) (by decide) (.slice A0 gs.length cap0) gs [WN.heap.size] (some ⟨WN.heap.size + 1, 0, none⟩) 1 1 (okn (some ad) n g) (fun _ => False) rfl rfl HR2.out HPT.out (fun x cs hx => hx) (fun _ hk => hk.elim) (fun k hk => HLM.out.okNew k (by rw [size_alloc, size_alloc] at hk; omega)) HB2.out HB2.out.size (by have := HGB.out; omega) ?_; intro v3 w3 hR hB hG hat; have HMD := Aside0.mk (Made.mk' (g := g) (own_lt HR0.out) hG hR hB hat); have hg3 := (hG.block g (blk_lt HG2.out) HN1.out).trans HG2.out; have HG3 := Aside0.mk hg3; obtain ⟨g3, c3, e3, _, _, _⟩ := Kd.R_form hR (by simp); rw [List.length_append, List.length_singleton] at e3; subst e3; have hd0 := (blk_cell hg3 0).trans rfl; have hdf := blk_frozen hg3 0; clear hR hB hG hat hg3 hg0))
           obtain ⟨w4, hw4⟩ : ∃ w_, w_ = w3.setCell ⟨g, 0, none⟩ (.slice (some ⟨g3, 0, none⟩) (gs.length + 1) c3) := ⟨_, rfl⟩
           rw [← hw4]
           have HW4 := Aside0.mk hw4
           have hg4 : w4.heap[g]? = some (.cells #[.slice (some ⟨g3, 0, none⟩) (gs.length + 1) c3, c1, .slice none 0 0, .int .i32 0] 112 (0, 0)) := by rw [hw4]; exact blk_put HG3.out 0 _ rfl
           have hga := (blk_cell hg4 0).trans rfl
           have hx4 : w4.cell? ⟨g3, gs.length, none⟩ = some (.pointer (some ⟨WN.heap.size, 0, none⟩)) := by rw [hw4]; exact last_ptr HMD.out.row (fun e => Kd.R_ne HMD.out.row HG3.out (by decide) (by rw [← e]; rfl))
           have hlms := Lm_sub HLM.out HMD.out HO0.out HCX.out HDB.out HP0.out
           rw [← hw4] at hlms
           have HLMS := Aside0.mk hlms
           have p1 : ((0 : Int) ≤ (gs.length : Int)) = True := eq_true (by omega)
           have p2 : ((gs.length : Int) < (gs.length : Int) + 1) = True := eq_true (by omega)
           have wq1 : wrap64 ((gs.length : Int) + 1 - 1) = (gs.length : Int) := by rw [show (gs.length : Int) + 1 - 1 = (gs.length : Int) by omega]; unfold wrap64; omega
           have wq2 : IntKind.i64.wrap ((gs.length : Int) + 1 - 1) = (gs.length : Int) := (i64_w _).trans wq1
           have wq3 : wrap64 (gs.length : Int) = (gs.length : Int) := by unfold wrap64; omega
           have wq4 : IntKind.i64.wrap (gs.length : Int) = (gs.length : Int) := (i64_w _).trans wq3
           clear hw4 hg4 hd0 hdf hlms
           go_still_tail 16, (by kernel_rfl)
           change wpList _ _ _ _ _ w4.drew
           go_wp2_with (go_at_call 50; refine (@UmLink (keepBut w4 WN.heap.size) w0 w4.drew WN.heap.size hs HBH.out DD pl cD HLMS.out HGE.out HPN.out HPC.out HP2.out 4 (some tl) HTL.out).mono ?_; intro e w5 hpost; obtain ⟨rfl, hB5, Aj, nj, xj, k0, k1, k2, hL5⟩ := hpost; have HL5 := Aside0.mk hL5; clear hB5 hL5)
           have HU2 : Aside0 (Nm (some ad) n xs w0 w5 g { sl with links := sl.links ++ [tl] } (.slice (some ⟨g3, 0, none⟩) (gs.length + 1) c3) c1) := ⟨Nm_link HLM.out HGL.out HAT.out HMD.out HW4.out HG3.out HL5.out⟩
           refine Handed.intro k' ?msN1 (hJ1 _ _ _ ?rlN1 ?frN1)
           case frN1 => kernel_rfl
           case msN1 => have := HK'.out; omega
           case rlN1 => exact ⟨p, rfl, ⟨i1 + j + 1 + a1, _, _, _, HPV.out.1, HPX.out, (by have h1 := HLL.out; have h2 := HKI.out; first | (show sl.links.length ≤ _; omega) | (simp only [List.length_append, List.length_singleton]; omega)), HUM2.out, HU2.out⟩⟩
          ·have HRT := Aside0.mk hRT
           have hxx := XN1.out
           have hnn := HN.out
           by_cases hov : i1 + j + 1 + a1 < 2 ^ 63
           ·have hpv : p = ((i1 + j + 1 + a1 : Nat) : Int) := by rw [← hp]; unfold wrap64; omega
            have q2 : decide (p < 0) = false := decide_eq_false (by omega)
            have q3 : decide ((n : Int) < p) = true := decide_eq_true (by omega)
            obtain ⟨T1, X1, hg1⟩ := (HGE.out.below HLM.out.below).2.1
            clear hpv hov hp hRT hgt hl2n hxx hnn a63
            go_wp2_with fail
            go_ret
            exact UnPost.err HRT.out _ _ HLM.out.below
           ·have hn2 := HN2.out
            have q2 : decide (p < 0) = true := decide_eq_true (by rw [← hp]; unfold wrap64; omega)
            obtain ⟨T1, X1, hg1⟩ := (HGE.out.below HLM.out.below).2.2
            clear hov hp hRT hgt hl2n hxx hnn a63 hn2
            go_wp2_with fail
            go_ret
            exact UnPost.err HRT.out _ _ HLM.out.below
         ·have m5 : decide ((cc : Int) < 128) = false := decide_eq_false (by omega)
          have m5n : decide (cc < 128) = false := decide_eq_false hl
          have HVN : Aside0 (VI xs i1 9 RN (j + 1) a1) := ⟨by rcases HBC.out with ⟨h, _⟩ | ⟨_, h⟩; (exact absurd h hl); exact h⟩
          clear hl HBC
          have v2w : wrap64 (m : Int) = (m : Int) := (i64_w _).symm.trans v2
          have v3w : wrap64 ((m : Int) * 2 ^ y.toNat) = (s : Int) := (i64_w _).symm.trans v3
          clear hxj hyj hjk hVI HJ hj9 hlt hc256 hm hs ha1 hsb hBC hc HW
          go_wp2_with fail
          refine Handed.intro (gkN - 1) ?msNb (hJN _ _ _ ?rlNb ?frNb)
          case frNb => kernel_rfl
          case msNb => have := HJ0.out; omega
          case rlNb => exact ⟨x1, y1, (a1 : Int), rfl, rfl, rfl, ⟨rfl⟩, ⟨j + 1, a1, XN1.out, Y1.out, rfl, by have := HJ0.out; omega, HVN.out⟩⟩
     ·have m5 : decide ((cc : Int) < 128) = false := decide_eq_false (by omega)
      have m5n : decide (cc < 128) = false := decide_eq_false hl
      have HVN : Aside0 (VI xs k 10 RK (j + 1) a1) := ⟨by rcases HBC.out with ⟨h, _⟩ | ⟨_, h⟩; (exact absurd h hl); exact h⟩
      clear hl HBC
      clear hxj hyj hjk hVI HJ hj9 hlt hc256 hm hs ha1 hsb hBC hc HW
      go_wp2_with fail
      refine Handed.intro (gkK - 1) ?msKb (hJK _ _ _ ?rlKb ?frKb)
      case frKb => kernel_rfl
      case msKb => have := HJ0.out; omega
      case rlKb => exact ⟨x1, y1, (a1 : Int), rfl, rfl, rfl, ⟨rfl⟩, ⟨j + 1, a1, XK1.out, Y1.out, rfl, by have := HJ0.out; omega, HVN.out⟩⟩
end Go.Proofs.YtnhnlodmkbiiiaaDoor.HandFields
end
/- What a node of merkledag tells: its data and its links, as plain ones: the function of the package impl, by what it hands back. -/
section
namespace Go.Proofs.YtnhnlodmkbiiiaaDoor.HandPj
open Go Go.RowKit Go.Proofs.YtnhnlodmkbiiiaaDoorL Go.Proofs.YtnhnlodmkbiiiaaDoorW.PrintWords Go.Proofs.YtnhnlodmkbiiiaaDoorW.PrintLast Go.Proofs.YtnhnlodmkbiiiaaDoorW.PrintMore Go.Proofs.YtnhnlodmkbiiiaaDoor.HandFields Go.Proofs.YtnhnlodmkbiiiaaDoor.PPbJoin
attribute [local go_sem] max2_int min2_int max_two min_two max_three min_three max_four min_four
set_option linter.unusedVariables false
set_option linter.unusedSimpArgs false
/-- A link told as a plain one. -/
def toS (s : Lnk) : S27 := ⟨s.hash.isSome, s.name.isSome, s.ts.isSome, s.hash.getD [], strOfNums (s.name.getD []), ((s.ts.getD 0 : Nat) : Int)⟩
/-- A node in memory, to be read. -/
structure RdN (W : World) (g : Nat) (s : Nde) (A0 : Option Addr) (cap : Nat) (gs : List Nat) (A1 : Option Addr) (c1 : Nat) : Prop where
 blk : W.heap[g]? = some (.cells #[.slice A0 gs.length cap, .slice A1 (s.data.getD []).length c1, .slice none 0 0, .int .i32 0] 112 (0, 0))
 row : Kd.C kp W A0 gs.length gs
 links : ∀ (j gj : Nat), gs[j]? = some gj → ∃ sj k0 k1 k2, s.links[j]? = some sj ∧ RdL W gj sj k0 k1 k2
 len : gs.length = s.links.length
 cap1 : (s.data.getD []).length ≤ c1
 dat : Kd.C (Kd.int .u8) W A1 (s.data.getD []).length (s.data.getD [])
 some1 : A1.isSome = s.data.isSome
theorem Nm.rd {Ai : Option Addr} {ni : Nat} {xi : List Int} {w0 W : World} {g : Nat} {s : Nde} {c0 c1 : Value} (h : Nm Ai ni xi w0 W g s c0 c1) : ∃ A0 cap gs A1 cp, RdN W g s A0 cap gs A1 cp := by
 obtain ⟨gs, hR, hl, hat⟩ := h.rows
 obtain ⟨A0, cap, rfl⟩ := Kd.R_slice hR
 have hd : ∃ A1 cp, c1 = .slice A1 (s.data.getD []).length cp ∧ (s.data.getD []).length ≤ cp ∧ Kd.C (Kd.int .u8) W A1 (s.data.getD []).length (s.data.getD []) ∧ A1.isSome = s.data.isSome := by
  cases hs : s.data with
  | none => exact ⟨none, 0, h.dat0 hs, Nat.le_refl _, Kd.C_nil _ _, rfl⟩
  | some xs =>
   obtain ⟨A, c, e, hR1⟩ := h.dat1 xs hs
   rw [e] at hR1
   have hr := Kd.R_reads' hR1
   exact ⟨some A, c, e, hr.2.1, hr.2.2, rfl⟩
 obtain ⟨A1, cp, rfl, hc, hC, hs⟩ := hd
 refine ⟨A0, cap, gs, A1, cp, h.blk, (Kd.R_reads' hR).2.2, fun j gj hj => ?_, hl, hc, hC, hs⟩
 obtain ⟨sj, hsj⟩ : ∃ sj, s.links[j]? = some sj := by
  have := (List.getElem?_eq_some_iff.1 hj).1
  exact ⟨_, List.getElem?_eq_getElem (by omega)⟩
 obtain ⟨k0, k1, k2, hr, _⟩ := hat j gj sj hj hsj
 exact ⟨sj, k0, k1, k2, hsj, hr⟩
theorem RdN.below {w w' : World} {g : Nat} {s : Nde} {A0 : Option Addr} {cap : Nat} {gs : List Nat} {A1 : Option Addr} {c1 : Nat} (h : RdN w g s A0 cap gs A1 c1) (hB : Below w.heap.size w w') : RdN w' g s A0 cap gs A1 c1 :=
 ⟨(hB.block _ (blk_lt h.blk)).trans h.blk, Kd.C_below h.row hB, fun j gj hj => by obtain ⟨sj, k0, k1, k2, h1, h2⟩ := h.links j gj hj; exact ⟨sj, k0, k1, k2, h1, h2.below hB⟩, h.len, h.cap1, Kd.C_below h.dat hB, h.some1⟩
/-- The blocks that the made node's rows may not lie in. -/
def okb (g2 b3 : Nat) : Nat → Prop := fun k => k ≠ g2 ∧ k ≠ b3
/-- A plain node while its links are told: v1 its data, v2 the links so far. -/
structure PnI (w W : World) (b3 : Nat) (d : Bool) (v1 v2 : Value) (xs : List Int) (ls : List S27) : Prop where
 below : Below w.heap.size w W
 gt : w.heap.size < b3
 res : W.heap[w.heap.size]? = some (.cells #[.bool false, .slice none 0 0, .slice none 0 0] 36 (0, 0))
 blk : W.heap[b3]? = some (.cells #[.bool d, v1, v2] 36 (0, 0))
 r1 : Kd.R (Kd.int .u8) 5 W w.heap.size (okb w.heap.size b3) v1 xs
 r2 : Kd.R k27 27 W w.heap.size (okb w.heap.size b3) v2 ls
section
variable {w W W' wa : World} {b3 : Nat} {d : Bool} {v1 v2 v3 : Value} {xs : List Int} {ls : List S27} {p : S27}
theorem PnI.call (h : PnI w W b3 d v1 v2 xs ls) (hB : Below W.heap.size W W') : PnI w W' b3 d v1 v2 xs ls :=
 ⟨below_step h.below hB, h.gt, (hB.block _ (blk_lt h.res)).trans h.res, (hB.block _ (blk_lt h.blk)).trans h.blk, Kd.R_below h.r1 hB, Kd.R_below h.r2 hB⟩
theorem PnI.drew (h : PnI w W b3 d v1 v2 xs ls) : PnI w W.drew b3 d v1 v2 xs ls := ⟨below_drew h.below, h.gt, h.res, h.blk, h.r1, h.r2⟩
theorem PnI.app (h : PnI w W b3 d v1 v2 xs ls) {cs : Array Value} (hB : Below w.heap.size w wa) (hG : W.grownBy wa v2.ownBlock) (hR : Kd.R k27 27 wa w.heap.size (okb w.heap.size b3) v3 (ls ++ [p])) : PnI w (wa.setCell ⟨b3, 2, none⟩ v3) b3 d v1 v3 xs (ls ++ [p]) := by
 have n1 := Kd.R_ne h.r2 h.res (by decide)
 have n2 := Kd.R_ne h.r2 h.blk (by decide)
 have hset : ∀ k, k ≠ b3 → (wa.setCell ⟨b3, 2, none⟩ v3).heap[k]? = wa.heap[k]? := fun k hk => Below.heap_setCell wa ⟨b3, 2, none⟩ v3 k (by simpa using hk)
 have hgt := h.gt
 refine ⟨below_set hB (by show _ ≤ b3; omega), hgt, ?_, blk_put ((hG.block _ (blk_lt h.blk) n2).trans h.blk) 2 _ rfl, ?_, ?_⟩
 ·exact (hset _ (by omega)).trans ((hG.block _ (blk_lt h.res) n1).trans h.res)
 ·refine R_own rfl h.r1 (fun k ho hlt => ?_)
  have hk := h.r1.1 k ho.symm
  obtain ⟨cs1, hc1⟩ := own_type h.r1 ho
  exact (hset k hk.2).trans (hG.block k hlt (Kd.R_ne h.r2 hc1 (by decide)))
 ·exact Kd.R_step hR (fun k hk _ => hset k hk.2)
/-- A link's cells, made behind the node. -/
theorem row_made {Wc : World} (h1 : Kd.R (Kd.int .u8) 5 W Wc.heap.size (fun _ => True) v1 xs) (hle : w.heap.size ≤ Wc.heap.size) : Kd.R (Kd.int .u8) 5 W w.heap.size (fun k => Wc.heap.size ≤ k ∧ k < W.heap.size) v1 xs := by
 obtain ⟨h0, inner, ho, hr⟩ := Kd.R_bound h1
 refine ⟨fun k hk => ⟨(h0 k hk).2.1, (h0 k hk).2.2.1⟩, inner, ⟨ho.1, ?_⟩, hr⟩
 rcases ho.2 with h1 | ⟨g, c, cur, e, hge, h2⟩
 ·exact .inl h1
 ·exact .inr ⟨g, c, cur, e, by omega, h2⟩
end
def NdPost (w : World) (s : Nde) (e : Ending) (w' : World) : Prop := ∃ v1 v2, e = .returned (.agg #[.bool s.data.isSome, v1, v2]) ∧ Kd.R (Kd.int .u8) 5 w' w.heap.size (fun _ => True) v1 (s.data.getD []) ∧ Kd.R k27 27 w' w.heap.size (fun _ => True) v2 (s.links.map toS) ∧ Below w.heap.size w w'
theorem RdN.drew {w : World} {g : Nat} {s : Nde} {A0 : Option Addr} {cap : Nat} {gs : List Nat} {A1 : Option Addr} {c1 : Nat} (h : RdN w g s A0 cap gs A1 c1) : RdN w.drew g s A0 cap gs A1 c1 :=
 ⟨h.blk, Kd.C_drew h.row, fun j gj hj => by obtain ⟨sj, k0, k1, k2, h1, h2⟩ := h.links j gj hj; exact ⟨sj, k0, k1, k2, h1, h2.drew⟩, h.len, h.cap1, Kd.C_drew h.dat, h.some1⟩
/-- A plain node behind its making: no field is set yet. -/
structure Pn0 (w W : World) (b3 : Nat) (A2 : Option Addr) (c2 : Nat) (xs : List Int) : Prop where
 base : PnI w W b3 false (.slice none 0 0) (.slice none 0 0) [] []
 r : Kd.R (Kd.int .u8) 5 W w.heap.size (okb w.heap.size b3) (.slice A2 xs.length c2) xs
section
variable {w W2 : World} {A2 : Option Addr} {c2 : Nat} {xs : List Int}
theorem Pn0.ca (hB : Below (w.alloc (.cells #[.bool false, .slice none 0 0, .slice none 0 0] 36)).drew.heap.size (w.alloc (.cells #[.bool false, .slice none 0 0, .slice none 0 0] 36)).drew W2) (hR : Kd.R (Kd.int .u8) 5 W2 (w.alloc (.cells #[.bool false, .slice none 0 0, .slice none 0 0] 36)).drew.heap.size (fun _ => True) (.slice A2 xs.length c2) xs) : Pn0 w (W2.alloc (.cells #[.bool false, .slice none 0 0, .slice none 0 0] 36)) W2.heap.size A2 c2 xs := by
 have hs : (w.alloc (.cells #[.bool false, .slice none 0 0, .slice none 0 0] 36)).drew.heap.size = w.heap.size + 1 := by rw [size_drew', size_alloc]
 have h2 := hB.size
 rw [hs] at h2
 have hb1 : Below w.heap.size w W2 := below_step (below_drew (below_alloc (Below.refl _ _) _)) hB
 refine ⟨⟨below_alloc hb1 _, by omega, ?_, blk_new _ _, Kd.R_nil _ _ _ _ _, Kd.R_nil _ _ _ _ _⟩, Kd.R_mono (Kd.R_alloc (row_made hR (by omega)) _) (fun k hk => ?_)⟩
 ·exact blk_alloc ((hB.block _ (by omega)).trans (blk_new w _)) _
 ·obtain ⟨hk1, hk2⟩ := hk; rw [hs] at hk1; exact ⟨by omega, by omega⟩
theorem Pn0.ac (hB : Below ((w.alloc (.cells #[.bool false, .slice none 0 0, .slice none 0 0] 36)).alloc (.cells #[.bool false, .slice none 0 0, .slice none 0 0] 36)).drew.heap.size ((w.alloc (.cells #[.bool false, .slice none 0 0, .slice none 0 0] 36)).alloc (.cells #[.bool false, .slice none 0 0, .slice none 0 0] 36)).drew W2) (hR : Kd.R (Kd.int .u8) 5 W2 ((w.alloc (.cells #[.bool false, .slice none 0 0, .slice none 0 0] 36)).alloc (.cells #[.bool false, .slice none 0 0, .slice none 0 0] 36)).drew.heap.size (fun _ => True) (.slice A2 xs.length c2) xs) : Pn0 w W2 (w.heap.size + 1) A2 c2 xs := by
 have hs : (w.alloc (.cells #[.bool false, .slice none 0 0, .slice none 0 0] 36)).drew.heap.size = w.heap.size + 1 := by rw [size_drew', size_alloc]
 have hs2 : ((w.alloc (.cells #[.bool false, .slice none 0 0, .slice none 0 0] 36)).alloc (.cells #[.bool false, .slice none 0 0, .slice none 0 0] 36)).drew.heap.size = w.heap.size + 2 := by rw [size_drew', size_alloc, size_alloc]
 have h2 := hB.size
 rw [hs2] at h2
 have hb1 : Below w.heap.size w W2 := below_step (below_drew (below_alloc (below_alloc (Below.refl _ _) _) _)) hB
 refine ⟨⟨hb1, by omega, ?_, ?_, Kd.R_nil _ _ _ _ _, Kd.R_nil _ _ _ _ _⟩, Kd.R_mono (row_made hR (by omega)) (fun k hk => ⟨by omega, by omega⟩)⟩
 ·exact (hB.block _ (by omega)).trans (blk_alloc (blk_new w _) _)
 ·have h9 := blk_new (w.alloc (.cells #[.bool false, .slice none 0 0, .slice none 0 0] 36)) (.cells #[.bool false, .slice none 0 0, .slice none 0 0] 36); rw [size_alloc] at h9; exact (hB.block _ (by omega)).trans h9
theorem Pn0.store {W : World} {b3 : Nat} (h : Pn0 w W b3 A2 c2 xs) (d : Bool) : PnI w (((W.setCell ⟨b3, 0, none⟩ (.bool d)).setCell ⟨b3, 1, none⟩ (.slice A2 xs.length c2)).setCell ⟨b3, 2, none⟩ (.slice none 0 0)) b3 d (.slice A2 xs.length c2) (.slice none 0 0) xs [] := by
 have hgt := h.base.gt
 have h1 : w.heap.size ≤ (⟨b3, 0, none⟩ : Addr).block := by show _ ≤ b3; omega
 have hset : ∀ k, k ≠ b3 → (((W.setCell ⟨b3, 0, none⟩ (.bool d)).setCell ⟨b3, 1, none⟩ (.slice A2 xs.length c2)).setCell ⟨b3, 2, none⟩ (.slice none 0 0)).heap[k]? = W.heap[k]? := fun k hk => by
  rw [Below.heap_setCell _ ⟨b3, 2, none⟩ _ k (by simpa using hk), Below.heap_setCell _ ⟨b3, 1, none⟩ _ k (by simpa using hk), Below.heap_setCell _ ⟨b3, 0, none⟩ _ k (by simpa using hk)]
 exact ⟨below_set (below_set (below_set h.base.below h1) h1) h1, hgt, (hset _ (by omega)).trans h.base.res, blk_put (blk_put (blk_put h.base.blk 0 _ rfl) 1 _ rfl) 2 _ rfl, Kd.R_step h.r (fun k hk _ => hset k hk.2), Kd.R_nil _ _ _ _ _⟩
end
theorem at_ptr {W : World} {A : Option Addr} {gs : List Nat} {k gj : Nat} (h : Kd.C kp W A gs.length gs) (hj : gs[k]? = some gj) : ∃ ad, A = some ad ∧ W.cell? (ad.add k) = some (.pointer (some ⟨gj, 0, none⟩)) := by
 have hk := (List.getElem?_eq_some_iff.1 hj).1
 obtain ⟨ad, e, hc⟩ := h.2.2 (by omega)
 refine ⟨ad, e, ?_⟩
 obtain ⟨cs, _, h2, h3⟩ := hc k gj hj
 have h2' : cs = [.pointer (some ⟨gj, 0, none⟩)] := h2
 have h4 := h3 0 _ (by rw [h2']; rfl)
 have h5 : k * kp.sz + 0 = k := by show k * 1 + 0 = k; omega
 rw [h5] at h4
 exact h4
theorem info27e : (Tryd.prog.info? 27).map (fun i => (i.zero, i.size, i.bytes)) = some (some (.agg #[.bool false, .bool false, .bool false, .slice none 0 0, .string ⟨#[]⟩, .int .u64 0]), 6, 56) := by kernel_rfl
def m61_0 : List (Option Nat) := [none, none, none, none, none, some 5, none, none, none, none, none, none, none, none, none, none, none, none, none, none, none, none, some 22, some 23, some 24, some 25, some 26, some 27, some 28, some 29, some 30, some 31, some 32, some 33, none]
set_option maxHeartbeats 16000000 in
set_option maxRecDepth 100000 in
theorem plainNode_calls {w : World} {g : Nat} {s : Nde} {A0 : Option Addr} {cap : Nat} {gs : List Nat} {A1 : Option Addr} {cp : Nat} (h : RdN w g s A0 cap gs A1 cp) (hd : (s.data.getD []).length ≤ 1000000) (hgn : gs.length ≤ 1000000) (hh : ∀ l ∈ s.links, ∀ xs, l.hash = some xs → xs.length ≤ 1000000) : Calls Tryd.prog 61 #[.pointer (some ⟨g, 0, none⟩)] w (NdPost w s) := by
 have RD := Aside0.mk h
 have HGN := Aside0.mk hgn
 have HH := Aside0.mk hh
 have hcl : PPbJoin.bytes_Clone.f (s.data.getD []) = some (s.data.getD []) := by unfold PPbJoin.bytes_Clone.f; rw [if_pos (by omega)]
 have HCL := Aside0.mk hcl
 have hb0 := below_alloc (Below.refl w.heap.size w) (.cells #[.bool false, .slice none 0 0, .slice none 0 0] 36)
 have RD1 := Aside0.mk ((h.below hb0).drew)
 have hk0 := (blk_cell RD1.out.blk 0).trans rfl
 have hk1 := (blk_cell RD1.out.blk 1).trans rfl
 have n0 : ∀ W : World, (binOp .neq 22 (.slice A1 (s.data.getD []).length cp) (.slice none 0 0)).run Tryd.prog W = .ok (.bool A1.isSome) W := fun W => run_neq_slice_nil' W 22 5 A1 (s.data.getD []).length cp 0 0 Tryd.underlying22
 clear h hd hgn hh hcl hb0
 go_enter Tryd.func61, Tryd.ntmps61
 go_wp2_with fail
 refine start_ (n := 13) (S := fun w' => w'.cell? ⟨g, 1, none⟩ = some (.slice A1 (s.data.getD []).length cp)) (ds := [12]) #[false, false, false, false, false, false, false, false, false, false, false, false, false] (by kernel_rfl) rfl rfl (hk1) (fun hHeld => ?_)
 refine pure_ (i := 0) (N := some 6) (v := ?_) (a' := ?_) #[true, false, false, false, false, false, false, false, false, false, false, false, false] rfl rfl (by kernel_rfl) (fun _ _ _ h => h) (Or.inl ⟨by rfl, ?_⟩) ?_ ?_
 rotate_left
 ·intro w'
  go_simp
  with_reducible rfl
 rotate_left
 ·simp only [Act.put, List.setIfInBounds_toArray, List.set_cons_zero, List.set_cons_succ, i64_w, i32_w]
  rfl
 refine pure_ (i := 1) (N := some 7) (v := ?_) (a' := ?_) #[true, true, false, false, false, false, false, false, false, false, false, false, false] rfl rfl (by kernel_rfl) (fun _ _ _ h => h) (Or.inl ⟨by rfl, ?_⟩) ?_ ?_
 rotate_left
 ·intro w'
  go_simp
  with_reducible rfl
 rotate_left
 ·simp only [Act.put, List.setIfInBounds_toArray, List.set_cons_zero, List.set_cons_succ, i64_w, i32_w]
  rfl
 refine pure_ (i := 2) (N := some 8) (v := ?_) (a' := ?_) #[true, true, true, false, false, false, false, false, false, false, false, false, false] rfl rfl (by kernel_rfl) (fun _ _ _ h => h) (Or.inl ⟨by rfl, ?_⟩) ?_ ?_
 rotate_left
 ·intro w'
  go_simp
  with_reducible rfl
 rotate_left
 ·simp only [Act.put, List.setIfInBounds_toArray, List.set_cons_zero, List.set_cons_succ, i64_w, i32_w]
  rfl
 refine pure_ (i := 5) (N := some 11) (v := ?_) (a' := ?_) #[true, true, true, false, false, true, false, false, false, false, false, false, false] rfl rfl (by kernel_rfl) (fun _ _ _ h => h) (Or.inl ⟨by rfl, ?_⟩) ?_ ?_
 rotate_left
 ·intro w'
  go_simp
  with_reducible rfl
 rotate_left
 ·simp only [Act.put, List.setIfInBounds_toArray, List.set_cons_zero, List.set_cons_succ, i64_w, i32_w]
  rfl
 refine pure_ (i := 6) (N := some 12) (v := ?_) (a' := ?_) #[true, true, true, false, false, true, true, false, false, false, false, false, false] rfl rfl (by kernel_rfl) (fun _ _ _ h => h) (Or.inl ⟨by rfl, ?_⟩) ?_ ?_
 rotate_left
 ·intro w'
  go_simp
  with_reducible rfl
 rotate_left
 ·simp only [Act.put, List.setIfInBounds_toArray, List.set_cons_zero, List.set_cons_succ, i64_w, i32_w]
  rfl
 refine pure_ (i := 7) (N := some 13) (v := ?_) (a' := ?_) #[true, true, true, false, false, true, true, true, false, false, false, false, false] rfl rfl (by kernel_rfl) (fun _ _ _ h => h) (Or.inl ⟨by rfl, ?_⟩) ?_ ?_
 rotate_left
 ·intro w'
  go_simp
  with_reducible rfl
 rotate_left
 ·simp only [Act.put, List.setIfInBounds_toArray, List.set_cons_zero, List.set_cons_succ, i64_w, i32_w]
  rfl
 refine take_ (i := 3) (N := some 9) (v := ?_) (a' := ?_) #[true, true, true, true, false, true, true, true, false, false, false, false, false] rfl rfl (by kernel_rfl) (fun _ _ _ h => h) (Or.inl ⟨by rfl, ?_⟩) hHeld ?_ ?_
 rotate_left
 ·intro w' s0
  go_simp
  with_reducible rfl
 rotate_left
 ·simp only [Act.put, List.setIfInBounds_toArray, List.set_cons_zero, List.set_cons_succ, i64_w, i32_w]
  rfl
 refine pure_ (i := 4) (N := some 10) (v := ?_) (a' := ?_) #[true, true, true, true, true, true, true, true, false, false, false, false, false] rfl rfl (by kernel_rfl) (fun _ _ _ h => h) (Or.inl ⟨by rfl, ?_⟩) ?_ ?_
 rotate_left
 ·intro w'
  go_simp
  with_reducible rfl
 rotate_left
 ·simp only [Act.put, List.setIfInBounds_toArray, List.set_cons_zero, List.set_cons_succ, i64_w, i32_w]
  rfl
 refine take_ (i := 8) (N := some 14) (v := ?_) (a' := ?_) #[true, true, true, true, true, true, true, true, true, false, false, false, false] rfl rfl (by kernel_rfl) (fun _ _ _ h => h) (Or.inl ⟨by rfl, ?_⟩) hHeld ?_ ?_
 rotate_left
 ·intro w' s0
  go_simp
  with_reducible rfl
 rotate_left
 ·simp only [Act.put, List.setIfInBounds_toArray, List.set_cons_zero, List.set_cons_succ, i64_w, i32_w]
  rfl
 refine join_ (σ := (Option Addr × Nat) × Nat) 1 #[true, true, true, true, true, true, true, true, true, true, true, true, false] (fun s_ => [(15, .slice s_.1.1 (s.data.getD []).length s_.1.2), (16, .agg #[.bool A1.isSome, .slice s_.1.1 (s.data.getD []).length s_.1.2, .slice none 0 0]), (3, .pointer (some ⟨s_.2, 0, none⟩))]) (fun s_ w' => Pn0 w w' s_.2 s_.1.1 s_.1.2 (s.data.getD [])) ?_ ?_
 rotate_left
 ·intro hCont
  refine two_ (i := 9) (j := 11) (Ni := some 15) (Nj := some 3) #[true, true, true, true, true, true, true, true, true, true, false, false, false] #[true, true, true, true, true, true, true, true, true, false, false, true, false] rfl rfl rfl rfl (by kernel_rfl) (by decide) (by decide) (fun K hK => ?_) (fun K hK => ?_)
  ·skip
   refine goes_ Tryd.func51 (by kernel_rfl) rfl #[.slice A1 (s.data.getD []).length cp] (by rfl) rfl rfl (by simp only [List.map_toArray, List.map_cons, List.map_nil]; rfl) ?_
   with_reducible refine (PPbJoin.bytes_Clone.calls A1 cp (s.data.getD []) (s.data.getD []) _ (Kd.C_drew (Kd.C_alloc RD.out.dat _)) RD.out.cap1 HCL.out).mono ?_
   rintro e w2 ⟨v2, rfl, hR, hB⟩
   obtain ⟨A2, c2, rfl⟩ := Kd.R_slice hR
   have HR2 := Aside0.mk hR
   have HBc := Aside0.mk hB
   have hj1 := (blk_cell ((RD1.out.below hB).blk) 1).trans rfl
   clear hR hB
   refine ⟨_, rfl, ?_⟩
   refine hK.out _ _ (hj1) (fun hHeld => ?_)
   clear hK K
   refine norm_ (a' := ?_) ?_ ?_
   rotate_left
   ·show Act.put _ (some 15) _ = _
    simp only [Act.put, List.setIfInBounds_toArray, List.set_cons_zero, List.set_cons_succ, i64_w, i32_w]
    rfl
   refine pure_ (i := 10) (N := some 16) (v := ?_) (a' := ?_) #[true, true, true, true, true, true, true, true, true, true, true, false, false] rfl rfl (by kernel_rfl) (fun _ _ _ h => h) (Or.inl ⟨by rfl, ?_⟩) ?_ ?_
   rotate_left
   ·intro w'
    go_simp
    with_reducible rfl
   rotate_left
   ·simp only [Act.put, List.setIfInBounds_toArray, List.set_cons_zero, List.set_cons_succ, i64_w, i32_w]
    rfl
   refine one_ (i := 11) (N := some 3) #[true, true, true, true, true, true, true, true, true, true, true, true, false] rfl rfl (by kernel_rfl) (by decide) (fun K hK => ?_)
   refine value_ (w1 := ?_) (v := ?_) (by rfl) rfl ?_ ?_
   rotate_left 2
   ·go_simp
    constructor
    ·rfl
    ·rfl
   have HPc := Aside0.mk (Pn0.ca HBc.out HR2.out)
   refine hK.out _ _ ((blk_cell (blk_alloc (RD1.out.below HBc.out).blk _) 1).trans rfl) (fun hHeld => ?_)
   clear hK K
   refine norm_ (a' := ?_) ?_ ?_
   rotate_left
   ·show Act.put _ (some 3) _ = _
    simp only [Act.put, List.setIfInBounds_toArray, List.set_cons_zero, List.set_cons_succ, i64_w, i32_w]
    rfl
   exact norm_ (by simp only [putAll, Act.put, List.setIfInBounds_toArray, List.set_cons_zero, List.set_cons_succ]) (hCont ((A2, c2), w2.heap.size) _ HPc.out)
  ·skip
   refine value_ (w1 := ?_) (v := ?_) (by rfl) rfl ?_ ?_
   rotate_left 2
   ·go_simp
    constructor
    ·rfl
    ·rfl
   refine hK.out _ _ ((blk_cell (blk_alloc RD1.out.blk _) 1).trans rfl) (fun hHeld => ?_)
   clear hK K
   refine norm_ (a' := ?_) ?_ ?_
   rotate_left
   ·show Act.put _ (some 3) _ = _
    simp only [Act.put, List.setIfInBounds_toArray, List.set_cons_zero, List.set_cons_succ, i64_w, i32_w]
    rfl
   refine one_ (i := 9) (N := some 15) #[true, true, true, true, true, true, true, true, true, true, false, true, false] rfl rfl (by kernel_rfl) (by decide) (fun K hK => ?_)
   refine goes_ Tryd.func51 (by kernel_rfl) rfl #[.slice A1 (s.data.getD []).length cp] (by rfl) rfl rfl (by simp only [List.map_toArray, List.map_cons, List.map_nil]; rfl) ?_
   with_reducible refine (PPbJoin.bytes_Clone.calls A1 cp (s.data.getD []) (s.data.getD []) _ (Kd.C_drew (Kd.C_alloc (Kd.C_alloc RD.out.dat _) _)) RD.out.cap1 HCL.out).mono ?_
   rintro e w2 ⟨v2, rfl, hR, hB⟩
   obtain ⟨A2, c2, rfl⟩ := Kd.R_slice hR
   have HR2 := Aside0.mk hR
   have HBc := Aside0.mk hB
   have HPc := Aside0.mk (Pn0.ac hB hR)
   have hj1 := (blk_cell (RD.out.below HPc.out.base.below).blk 1).trans rfl
   clear hR hB
   refine ⟨_, rfl, ?_⟩
   refine hK.out _ _ (hj1) (fun hHeld => ?_)
   clear hK K
   refine norm_ (a' := ?_) ?_ ?_
   rotate_left
   ·show Act.put _ (some 15) _ = _
    simp only [Act.put, List.setIfInBounds_toArray, List.set_cons_zero, List.set_cons_succ, i64_w, i32_w]
    rfl
   refine pure_ (i := 10) (N := some 16) (v := ?_) (a' := ?_) #[true, true, true, true, true, true, true, true, true, true, true, true, false] rfl rfl (by kernel_rfl) (fun _ _ _ h => h) (Or.inl ⟨by rfl, ?_⟩) ?_ ?_
   rotate_left
   ·intro w'
    go_simp
    with_reducible rfl
   rotate_left
   ·simp only [Act.put, List.setIfInBounds_toArray, List.set_cons_zero, List.set_cons_succ, i64_w, i32_w]
    rfl
   exact norm_ (by simp only [putAll, Act.put, List.setIfInBounds_toArray, List.set_cons_zero, List.set_cons_succ]) (hCont ((A2, c2), w.heap.size + 1) _ HPc.out)
 rintro ⟨⟨A2, c2⟩, b3⟩ w3 hF
 have HPF := Aside0.mk hF
 have hHeld : w3.cell? ⟨g, 1, none⟩ = some (.slice A1 (s.data.getD []).length cp) := (blk_cell (RD.out.below hF.base.below).blk 1).trans rfl
 have hq0 := (blk_cell hF.base.blk 0).trans rfl
 have hq1 := (blk_cell hF.base.blk 1).trans rfl
 have hq2 := (blk_cell hF.base.blk 2).trans rfl
 have hqf := blk_frozen hF.base.blk
 clear hF
 refine norm_ (a' := ?_) ?_ ?_
 rotate_left
 ·simp only [putAll, Act.put, List.setIfInBounds_toArray, List.set_cons_zero, List.set_cons_succ]
  rfl
 refine last_ (i := 12) (N := none) #[true, true, true, true, true, true, true, true, true, true, true, true, true] rfl rfl (by kernel_rfl) (by decide) (fun K hK => ?_)
 refine skip_ (w1 := ?_) (by rfl) rfl ?_ ?_
 rotate_left
 ·go_simp
  rfl
 refine hK.out _ _ ?_
 clear hK K
 refine done_ (by kernel_rfl) ?_
 have HPS := Aside0.mk (HPF.out.store A1.isSome)
 obtain ⟨W0, hW0⟩ : ∃ w_, w_ = ((w3.setCell ⟨b3, 0, none⟩ (.bool A1.isSome)).setCell ⟨b3, 1, none⟩ (.slice A2 (s.data.getD []).length c2)).setCell ⟨b3, 2, none⟩ (.slice none 0 0) := ⟨_, rfl⟩
 rw [← hW0] at HPS
 have hm0 := (blk_cell (RD.out.below HPS.out.below).blk 0).trans rfl
 (first | rw [← hW0] | (trace_state; fail))
 clear hW0 hq0 hq1 hq2 hqf
 have HR1 := Aside0.mk HPS.out.r1
 go_wp2_with fail
 refine wp_loop_f m61_0 gs.length (fun kq us w' => ∃ (k : Nat) (v2 : Value), us 22 = .int .i64 (k : Int) ∧ k + kq = gs.length ∧ Aside0 (PnI w w' b3 A1.isSome (.slice A2 (s.data.getD []).length c2) v2 (s.data.getD []) ((s.links.take k).map toS))) ?at1 (by kernel_rfl) ?rnd1
 case at1 => exact ⟨0, _, rfl, Nat.zero_add _, HPS⟩
 case rnd1 =>
  intro gk1 us1 W1 hrel J1 K1 hJ1 hK1
  dsimp only [ovl, m61_0]
  obtain ⟨k, v2, h22, hkq, HPI⟩ := hrel
  rw [h22]
  clear h22
  have HK := Aside0.mk hkq
  rcases Nat.lt_or_ge k gs.length with hlt | hge
  ·have q1 : decide ((k : Int) < (gs.length : Int)) = true := decide_eq_true (by omega)
   have q1n : decide (k < gs.length) = true := decide_eq_true (by omega)
   obtain ⟨gk2, rfl⟩ : ∃ q, gk1 = q + 1 := ⟨gk1 - 1, by omega⟩
   have hRk := RD.out.below HPI.out.below
   obtain ⟨gj, hgj⟩ : ∃ gj, gs[k]? = some gj := ⟨_, List.getElem?_eq_getElem hlt⟩
   obtain ⟨sj, k0, k1, k2, hsj, hrd⟩ := hRk.links k gj hgj
   obtain ⟨ad, rfl, hld⟩ := at_ptr hRk.row hgj
   have RDJ := Aside0.mk hrd
   have HFJ := Aside0.mk (HH.out sj (List.mem_of_getElem? hsj))
   have HSJ := Aside0.mk hsj
   have hb2 := (blk_cell HPI.out.blk 2).trans rfl
   have p1 : ((0 : Int) ≤ (k : Int)) = True := eq_true (by omega)
   have p2 : ((k : Int) < (gs.length : Int)) = True := eq_true (by omega)
   obtain ⟨x1, hx1⟩ : ∃ x : Int, wrap64 ((k : Int) + 1) = x := ⟨_, rfl⟩
   have hx1w : IntKind.i64.wrap ((k : Int) + 1) = x1 := (i64_w _).trans hx1
   have HX1 := Aside0.mk (show x1 = ((k + 1 : Nat) : Int) by rw [← hx1]; have := HGN.out; unfold wrap64; omega)
   clear hRk hgj hsj hrd hlt hkq
   go_wp2_with fail
   refine start_ (n := 8) (S := fun w' => w'.cell? ⟨b3, 2, none⟩ = some v2) (ds := [7]) #[false, false, false, false, false, false, false, false] (by kernel_rfl) rfl rfl (hb2) (fun hHeld => ?_)
   refine pure_ (i := 0) (N := some 26) (v := ?_) (a' := ?_) #[true, false, false, false, false, false, false, false] rfl rfl (by kernel_rfl) (fun _ _ _ h => h) (Or.inl ⟨by rfl, ?_⟩) ?_ ?_
   rotate_left
   ·intro w'
    go_simp
    with_reducible rfl
   rotate_left
   ·simp only [Act.put, List.setIfInBounds_toArray, List.set_cons_zero, List.set_cons_succ, i64_w, i32_w]
    rfl
   refine pure_ (i := 2) (N := some 28) (v := ?_) (a' := ?_) #[true, false, true, false, false, false, false, false] rfl rfl (by kernel_rfl) (fun _ _ _ h => h) (Or.inl ⟨by rfl, ?_⟩) ?_ ?_
   rotate_left
   ·intro w'
    go_simp
    with_reducible rfl
   rotate_left
   ·simp only [Act.put, List.setIfInBounds_toArray, List.set_cons_zero, List.set_cons_succ, i64_w, i32_w]
    rfl
   refine take_ (i := 1) (N := some 27) (v := ?_) (a' := ?_) #[true, true, true, false, false, false, false, false] rfl rfl (by kernel_rfl) (fun _ _ _ h => h) (Or.inl ⟨by rfl, ?_⟩) hHeld ?_ ?_
   rotate_left
   ·intro w' s0
    go_simp
    with_reducible rfl
   rotate_left
   ·simp only [Act.put, List.setIfInBounds_toArray, List.set_cons_zero, List.set_cons_succ, i64_w, i32_w]
    rfl
   refine one_ (i := 3) (N := some 29) #[true, true, true, true, false, false, false, false] rfl rfl (by kernel_rfl) (by decide) (fun K hK => ?_)
   refine goes_ Tryd.func52 (by kernel_rfl) rfl #[.pointer (some ⟨gj, 0, none⟩)] (by rfl) rfl rfl (by simp only [List.map_toArray, List.map_cons, List.map_nil]; rfl) ?_
   with_reducible refine (plainPb_calls RDJ.out.drew HFJ.out).mono ?_
   rintro e w4 ⟨v3, rfl, hR, hB⟩
   have HP4 := Aside0.mk (HPI.out.drew.call hB)
   have HR4 := Aside0.mk hR
   clear hR hB
   refine ⟨_, rfl, ?_⟩
   refine hK.out _ _ ((blk_cell HP4.out.blk 2).trans rfl) (fun hHeld => ?_)
   clear hK K
   refine norm_ (a' := ?_) ?_ ?_
   rotate_left
   ·show Act.put _ (some 29) _ = _
    simp only [Act.put, List.setIfInBounds_toArray, List.set_cons_zero, List.set_cons_succ, i64_w, i32_w]
    rfl
   refine one_ (i := 4) (N := some 30) #[true, true, true, true, true, false, false, false] rfl rfl (by kernel_rfl) (by decide) (fun K hK => ?_)
   refine value_ (w1 := ?_) (v := ?_) (by rfl) rfl ?_ ?_
   rotate_left 2
   ·go_simp
    constructor
    ·rfl
    ·rfl
   refine hK.out _ _ ((blk_cell (blk_alloc HP4.out.blk _) 2).trans rfl) (fun hHeld => ?_)
   clear hK K
   refine norm_ (a' := ?_) ?_ ?_
   rotate_left
   ·show Act.put _ (some 30) _ = _
    simp only [Act.put, List.setIfInBounds_toArray, List.set_cons_zero, List.set_cons_succ, i64_w, i32_w]
    rfl
   refine one_ (i := 5) (N := some 31) #[true, true, true, true, true, true, false, false] rfl rfl (by kernel_rfl) (by decide) (fun K hK => ?_)
   refine Kd.R_append_step k27 (w0 := w) w.heap.size (by rfl) (.tmp 27) (.tmp 30) 34 27 (.agg #[.bool false, .bool false, .bool false, .slice none 0 0, .string ⟨#[]⟩, .int .u64 0]) 56 rfl Tryd.underlying34 info27e rfl (by decide) (by decide) v2 ((s.links.take k).map toS) (toS sj) [.bool sj.hash.isSome, .bool sj.name.isSome, .bool sj.ts.isSome, v3, .string (strOfNums (sj.name.getD [])), .int .u64 ((sj.ts.getD 0 : Nat) : Int)] (okb w.heap.size b3) (fun k_ => W1.heap.size ≤ k_ ∧ k_ < w4.heap.size) rfl rfl (k27_mkM _ _ _ (toS sj) (row_made HR4.out HPI.out.below.size)) (fun k_ hk => ⟨⟨by have := blk_lt HPI.out.res; omega, by have := blk_lt HPI.out.blk; omega⟩, fun e => by have := own_lt HPI.out.r2 _ e; omega⟩) (fun k_ hk => ⟨by have := blk_lt HP4.out.res; omega, by have := blk_lt HP4.out.blk; omega⟩) HP4.out.r2 HP4.out.below HP4.out.below.size (by have h1 := HGN.out; have h2 := HK.out; simp only [List.length_map, List.length_take]; omega) ?_
   intro va wa hR hB hG hat
   obtain ⟨Av, cv, rfl⟩ := Kd.R_slice hR
   obtain ⟨nv, hnv⟩ : ∃ n_, n_ = ((s.links.take k).map toS ++ [toS sj]).length := ⟨_, rfl⟩
   rw [← hnv] at hR ⊢
   clear hnv
   have HPA := Aside0.mk (HP4.out.app (cs := #[]) hB hG hR)
   have hga_ := (hG.block b3 (blk_lt HP4.out.blk) (Kd.R_ne HP4.out.r2 HP4.out.blk (by decide))).trans HP4.out.blk
   have hd2 := (blk_cell hga_ 2).trans rfl
   have hdf := blk_frozen hga_
   clear hR hB hG hat hga_
   refine hK.out _ _ (hd2) (fun hHeld => ?_)
   clear hK K
   refine norm_ (a' := ?_) ?_ ?_
   rotate_left
   ·show Act.put _ (some 31) _ = _
    simp only [Act.put, List.setIfInBounds_toArray, List.set_cons_zero, List.set_cons_succ, i64_w, i32_w]
    rfl
   refine pure_ (i := 6) (N := some 32) (v := ?_) (a' := ?_) #[true, true, true, true, true, true, true, false] rfl rfl (by kernel_rfl) (fun _ _ _ h => h) (Or.inl ⟨by rfl, ?_⟩) ?_ ?_
   rotate_left
   ·intro w'
    go_simp
    with_reducible rfl
   rotate_left
   ·simp only [Act.put, List.setIfInBounds_toArray, List.set_cons_zero, List.set_cons_succ, i64_w, i32_w]
    rfl
   refine last_ (i := 7) (N := none) #[true, true, true, true, true, true, true, true] rfl rfl (by kernel_rfl) (by decide) (fun K hK => ?_)
   refine skip_ (w1 := ?_) (by rfl) rfl ?_ ?_
   rotate_left
   ·go_simp
    rfl
   refine hK.out _ _ ?_
   clear hK K
   refine done_ (by kernel_rfl) ?_
   obtain ⟨W5, hW5⟩ : ∃ w_, w_ = wa.setCell ⟨b3, 2, none⟩ (.slice Av nv cv) := ⟨_, rfl⟩
   rw [← hW5] at HPA
   rw [← hW5]
   clear hW5
   go_wp2_with fail
   refine Handed.intro gk2 ?ms1 (hJ1 _ _ _ ?rl1 ?fr1)
   case fr1 => kernel_rfl
   case ms1 => exact Nat.lt_succ_self _
   case rl1 => exact ⟨k + 1, _, by rw [← HX1.out]; rfl, by have := HK.out; omega, ⟨by rw [List.take_add_one, HSJ.out]; simp only [Option.toList, List.map_append, List.map_cons, List.map_nil]; exact HPA.out⟩⟩
  ·have q1 : decide ((k : Int) < (gs.length : Int)) = false := decide_eq_false (by omega)
   have q1n : decide (k < gs.length) = false := decide_eq_false (by omega)
   have htk : s.links.take k = s.links := List.take_of_length_le (by have := RD.out.len; omega)
   rw [htk] at HPI
   obtain ⟨Av, cv, e9⟩ := Kd.R_slice HPI.out.r2
   obtain ⟨nv, hnv⟩ : ∃ n_, n_ = (s.links.map toS).length := ⟨_, rfl⟩
   rw [← hnv] at e9
   subst e9
   clear hnv htk hge hkq
   have hb0 := (blk_cell HPI.out.blk 0).trans rfl
   have hb1 := (blk_cell HPI.out.blk 1).trans rfl
   have hb2 := (blk_cell HPI.out.blk 2).trans rfl
   have hr0 := (blk_cell HPI.out.res 0).trans rfl
   have hr1 := (blk_cell HPI.out.res 1).trans rfl
   have hr2 := (blk_cell HPI.out.res 2).trans rfl
   have hrf := blk_frozen HPI.out.res
   go_wp2_with fail
   have hres := blk_put (blk_put (blk_put HPI.out.res 0 (.bool A1.isSome) rfl) 1 (.slice A2 (s.data.getD []).length c2) rfl) 2 (.slice Av nv cv) rfl
   refine bodyPost_ret (results_cell_row rfl _ _ w.heap.size 36 #[.bool A1.isSome, .slice A2 (s.data.getD []).length c2, .slice Av nv cv] (0, 0) _ rfl hres Tryd.underlying36 rfl (by kernel_rfl)) rfl ?_
   have hset : ∀ k_, k_ ≠ w.heap.size → (((W1.setCell ⟨w.heap.size, 0, none⟩ (.bool A1.isSome)).setCell ⟨w.heap.size, 1, none⟩ (.slice A2 (s.data.getD []).length c2)).setCell ⟨w.heap.size, 2, none⟩ (.slice Av nv cv)).heap[k_]? = W1.heap[k_]? := fun k_ hk => by
    rw [Below.heap_setCell _ ⟨w.heap.size, 2, none⟩ _ k_ (by simpa using hk), Below.heap_setCell _ ⟨w.heap.size, 1, none⟩ _ k_ (by simpa using hk), Below.heap_setCell _ ⟨w.heap.size, 0, none⟩ _ k_ (by simpa using hk)]
   rw [RD.out.some1] at hset ⊢
   exact ⟨_, _, rfl, Kd.R_mono (Kd.R_step HPI.out.r1 (fun k_ hk _ => hset k_ hk.1)) (fun _ _ => trivial), Kd.R_mono (Kd.R_step HPI.out.r2 (fun k_ hk _ => hset k_ hk.1)) (fun _ _ => trivial), below_set (below_set (below_set HPI.out.below (Nat.le_refl _)) (Nat.le_refl _)) (Nat.le_refl _)⟩
end Go.Proofs.YtnhnlodmkbiiiaaDoor.HandPj
end
/- What bytes tell as a node of merkledag: the function of the package impl, by what it hands back. -/
section
namespace Go.Proofs.YtnhnlodmkbiiiaaDoor.HandPj
open Go Go.RowKit Go.Proofs.YtnhnlodmkbiiiaaDoorL Go.Proofs.YtnhnlodmkbiiiaaDoorW.PrintWords Go.Proofs.YtnhnlodmkbiiiaaDoorW.PrintLast Go.Proofs.YtnhnlodmkbiiiaaDoorW.PrintMore Go.Proofs.YtnhnlodmkbiiiaaDoor.HandFields Go.Proofs.YtnhnlodmkbiiiaaDoor.PPbJoin
attribute [local go_sem] max2_int min2_int max_two min_two max_three min_three max_four min_four
set_option linter.unusedVariables false
set_option linter.unusedSimpArgs false
/-- A new node, beside bytes that lie in blocks of their own. -/
theorem Nm.new {A : Option Addr} {c : Nat} {l : List Int} {ok : Nat → Prop} {w0 W : World} (hB : Below (w0.alloc (.cells #[.slice none 0 0, .slice none 0 0, .slice none 0 0, .int .i32 0] 112)).heap.size (w0.alloc (.cells #[.slice none 0 0, .slice none 0 0, .slice none 0 0, .int .i32 0] 112)) W) (hR : Kd.R (Kd.int .u8) 5 W (w0.alloc (.cells #[.slice none 0 0, .slice none 0 0, .slice none 0 0, .int .i32 0] 112)).heap.size ok (.slice A l.length c) l) : Nm A l.length l w0 W w0.heap.size ⟨[], none⟩ (.slice none 0 0) (.slice none 0 0) := by
 have h1 := R_far hR
 rw [size_alloc] at h1
 exact ⟨(Kd.R_reads' hR).2.2, fun ad e _ => by have := h1 ad e; omega, (hB.block _ (by rw [size_alloc]; omega)).trans (blk_new w0 _), Nat.le_refl _, below_then (below_alloc (Below.refl _ _) _) (by rw [size_alloc]; omega) hB, ⟨[], Kd.R_nil _ _ _ _ _, rfl, fun j gj sj h _ => by cases h⟩, fun _ => rfl, fun _ h => (by cases h)⟩
def NDPost (w : World) (s : Nde) (e : Ending) (w' : World) : Prop := ∃ v1 v2, e = .returned (.tuple #[.agg #[.bool s.data.isSome, v1, v2], .bool true]) ∧ Kd.R (Kd.int .u8) 5 w' w.heap.size (fun _ => True) v1 (s.data.getD []) ∧ Kd.R k27 27 w' w.heap.size (fun _ => True) v2 (s.links.map toS) ∧ Below w.heap.size w w'
set_option maxHeartbeats 8000000 in
theorem NDecoded_calls (w : World) (hge : GE w) (A0 : Option Addr) (c0 : Nat) (l : List Int) (hbx : ∀ x ∈ l, 0 ≤ x ∧ x ≤ 255) (hl : l.length ≤ 1000000) (hr0 : Kd.C (Kd.int .u8) w A0 l.length l) (hc0 : l.length ≤ c0) (kf : Nat) (t : Nde) (hR : umN kf l ⟨[], none⟩ = some (some t)) (hd : (t.data.getD []).length ≤ 1000000) (hgn : t.links.length ≤ 1000000) (hh : ∀ l ∈ t.links, ∀ xs, l.hash = some xs → xs.length ≤ 1000000) :
  Calls Tryd.prog 22 #[.slice A0 l.length c0] w (NDPost w t) := by
 have HGE := Aside0.mk (hge.below (below_alloc (Below.refl w.heap.size w) (.cells #[.bool false, .slice none 0 0, .slice none 0 0] 36)))
 have HR0 := Aside0.mk hr0
 have HC0 := Aside0.mk hc0
 have HL := Aside0.mk hl
 have HBX := Aside0.mk hbx
 have HRT := Aside0.mk hR
 have HD := Aside0.mk hd
 have HGN := Aside0.mk hgn
 have HH := Aside0.mk hh
 have hcl : PPbJoin.bytes_Clone.f l = some l := by unfold PPbJoin.bytes_Clone.f; rw [if_pos (by omega)]
 have HCL := Aside0.mk hcl
 have hb0 := below_alloc (Below.refl w.heap.size w) (.cells #[.bool false, .slice none 0 0, .slice none 0 0] 36)
 have hg0 := (blk_new w (.cells #[.bool false, .slice none 0 0, .slice none 0 0] 36))
 have HB0 := Aside0.mk hb0
 have HG0 := Aside0.mk hg0
 clear hge hr0 hc0 hl hbx hR hcl hb0 hg0 hd hgn hh
 go_enter Tryd.func22, Tryd.ntmps22
 go_wp2_with (first
  | (go_at_call 51; refine (PPbJoin.bytes_Clone.calls A0 c0 l l _ (Kd.C_alloc (Kd.C_alloc HR0.out _) _) HC0.out HCL.out).mono ?_; rintro e w1 ⟨v1, rfl, hR, hB⟩; obtain ⟨A1, c1, rfl⟩ := Kd.R_slice hR; have HNM := Aside0.mk (Nm.new hB hR); have HN1 := Aside0.mk (Kd.R_reads' hR).2.1; have hum := UmNode _ _ _ l HBX.out A1 l.length c1 HNM.out HGE.out rfl HN1.out (by have := HL.out; omega) kf _ HRT.out; rw [size_alloc] at hum; have HUM := Aside0.mk hum; clear hR hB hum)
  | (go_at_call 60; refine HUM.out.mono ?_; intro e w2 hp; obtain ⟨rfl, hB, Ai, ni, xi, k0, k1, hL⟩ := hp; obtain ⟨A3, cap, gs, A4, cp, hrd⟩ := Nm.rd hL; have HRD := Aside0.mk hrd; have HB2 := Aside0.mk hB; clear hB hL hrd)
  | (go_at_call 61; refine (plainNode_calls HRD.out HD.out (by have := HRD.out.len; have := HGN.out; omega) HH.out).mono ?_; rintro e w3 ⟨v1, v2, rfl, hR1, hR2, hB⟩; obtain ⟨A5, c5, rfl⟩ := Kd.R_slice hR1; obtain ⟨A6, c6, e6⟩ := Kd.R_slice hR2; obtain ⟨nv, hnv⟩ : ∃ n_, n_ = (t.links.map toS).length := ⟨_, rfl⟩; rw [← hnv] at e6; subst e6; have HR5 := Aside0.mk hR1; have HR6 := Aside0.mk hR2; have HB3 := Aside0.mk (below_then HB2.out HB2.out.size hB); have hg2 := (HB3.out.block _ (blk_lt HG0.out)).trans HG0.out; have HG2 := Aside0.mk hg2; have hq0 := (blk_cell hg2 0).trans rfl; have hq1 := (blk_cell hg2 1).trans rfl; have hq2 := (blk_cell hg2 2).trans rfl; have hqf := blk_frozen hg2; clear hB hR1 hR2 hg2 hnv))
 have HB5 := below_step HB0.out HB3.out
 have hz := HB2.out.size
 rw [size_alloc] at hz
 have hb5 := blk_put (blk_put (blk_put HG2.out 0 (.bool t.data.isSome) rfl) 1 (.slice A5 (t.data.getD []).length c5) rfl) 2 (.slice A6 nv c6) rfl
 refine bodyPost_ret (results_ct rfl _ _ w.heap.size 36 #[.bool t.data.isSome, .slice A5 (t.data.getD []).length c5, .slice A6 nv c6] (0, 0) _ rfl hb5 Tryd.underlying36 rfl (by kernel_rfl)) rfl ?_
 refine ⟨_, _, rfl, Kd.R_mono (Kd.R_lower (R_put (R_put (R_put HR5.out (by omega)) (by omega)) (by omega)) (by omega)) (fun _ _ => trivial), Kd.R_mono (Kd.R_lower (R_put (R_put (R_put HR6.out (by omega)) (by omega)) (by omega)) (by omega)) (fun _ _ => trivial), below_set (below_set (below_set HB5 (Nat.le_refl _)) (Nat.le_refl _)) (Nat.le_refl _)⟩
end Go.Proofs.YtnhnlodmkbiiiaaDoor.HandPj
end
