/- Several texts of this claim, joined. -/
import Derived.Test.YtnhnlodmkbiiiaaDoorQJ5b
import Derived.Deep.Slices
import Derived.OpenShut
import Derived.SliceStrings
import Derived.ChangeOld
import Derived.ShutString
import Derived.Deep.DeepHandedRow
/- The law FnPbJoined tells true at any two nodes. -/
section
namespace Go.Proofs.YtnhnlodmkbiiiaaDoor.HandPj
open Go Go.RowKit Go.Proofs.YtnhnlodmkbiiiaaDoorL Go.Proofs.YtnhnlodmkbiiiaaDoorW.PrintWords Go.Proofs.YtnhnlodmkbiiiaaDoorW.PrintLast Go.Proofs.YtnhnlodmkbiiiaaDoorW.PrintMore Go.Proofs.YtnhnlodmkbiiiaaDoor.HandFields Go.Proofs.YtnhnlodmkbiiiaaDoor.PPbJoin
attribute [local go_sem] max2_int min2_int max_two min_two max_three min_three max_four min_four
set_option linter.unusedVariables false
set_option linter.unusedSimpArgs false
theorem mS_hash (p : S27) (hp : p.f3.length ≤ 100) : ∀ xs, (mS p).hash = some xs → xs.length ≤ 1000000 := by
 intro xs h
 unfold mS Go.Proofs.YtnhnlodmkbiiiaaDoor.HandPb.mkL at h
 by_cases hb : p.f0 = true
 ·simp only [hb, if_true] at h
  injection h with h
  rw [← h]; omega
 ·simp only [hb] at h
  cases h
/-- What comes in lies in bounds. -/
structure InR (d : List Int) (l : List S27) : Prop where
 d : ∀ x ∈ d, 0 ≤ x ∧ x ≤ 255
 l : ∀ p ∈ l, (0 ≤ p.f5 ∧ p.f5 < 18446744073709551616) ∧ ∀ x ∈ p.f3, 0 ≤ x ∧ x ≤ 255
theorem InR.ok {d : List Int} {l : List S27} (h : InR d l) (hs : ∀ p ∈ l, p.f3.length ≤ 100 ∧ p.f4.size ≤ 100) : ∀ p ∈ l, OkS p :=
 fun p hp => ⟨(hs p hp).1, (hs p hp).2, (h.l p hp).1.1, (h.l p hp).1.2, (h.l p hp).2⟩
theorem law5_calls (w : World) (ha hb : Bool) (da db : List Int) (la lb : List S27) (A1 A2 B1 B2 : Option Addr) (c1 c2 d1 d2 : Nat) (hA1 : Kd.C (Kd.int .u8) w A1 da.length da) (hc1 : da.length ≤ c1) (hA2 : Kd.C k27 w A2 la.length la) (hc2 : la.length ≤ c2) (hB1 : Kd.C (Kd.int .u8) w B1 db.length db) (hd1 : db.length ≤ d1) (hB2 : Kd.C k27 w B2 lb.length lb) (hd2 : lb.length ≤ d2) (hge : GE w) (ia : InR da la) (ib : InR db lb) :
  Calls Tryd.prog 5 #[.agg #[.bool ha, .slice A1 da.length c1, .slice A2 la.length c2], .agg #[.bool hb, .slice B1 db.length d1, .slice B2 lb.length d2]] w fun e w' => e = .returned (.bool true) ∧ Below w.heap.size w w' := by
 obtain ⟨ka, ra, hfa, ba⟩ := fits_eq ha da la
 cases ra with
 | false => exact law5_a w ha hb da db la lb A1 A2 B1 B2 c1 c2 d1 d2 hA1 hc1 hA2 hc2 hB1 hd1 hB2 hd2 (kb := 0) (ja := 0) (jb := 0) hfa
 | true =>
 obtain ⟨kb, rb, hfb, bb⟩ := fits_eq hb db lb
 cases rb with
 | false => exact law5_b w ha hb da db la lb A1 A2 B1 B2 c1 c2 d1 d2 hA1 hc1 hA2 hc2 hB1 hd1 hB2 hd2 (ja := 0) (jb := 0) hfa hfb
 | true =>
 obtain ⟨ja, sa, hsa, ca⟩ := small_eq ha da la (ba rfl).2
 cases sa with
 | false => exact law5_c w ha hb da db la lb A1 A2 B1 B2 c1 c2 d1 d2 hA1 hc1 hA2 hc2 hB1 hd1 hB2 hd2 (jb := 0) hfa hfb hsa
 | true =>
 obtain ⟨jb, sb, hsb, cb⟩ := small_eq hb db lb (bb rfl).2
 cases sb with
 | false => exact law5_d w ha hb da db la lb A1 A2 B1 B2 c1 c2 d1 d2 hA1 hc1 hA2 hc2 hB1 hd1 hB2 hd2 hfa hfb hsa hsb
 | true =>
 obtain ⟨a1, a2, a3⟩ := ca rfl
 obtain ⟨b1, b2, b3⟩ := cb rfl
 have oka := ia.ok a3
 have okb := ib.ok b3
 have okl : ∀ p ∈ la ++ lb, 0 ≤ p.f5 := fun p hp => by
  rcases List.mem_append.1 hp with h | h
  ·exact (oka p h).t0
  ·exact (okb p h).t0
 obtain ⟨kf, hu⟩ := umN_two ha hb da db la lb oka okb a1 b1
 have la1 := pbF_len ha da la oka a2 a1
 have lb1 := pbF_len hb db lb okb b2 b1
 have hdl : ((tt ha da la hb db lb).data.getD []).length ≤ 1000000 := by unfold tt dOr; cases ha <;> cases hb <;> simp <;> omega
 have hll : (tt ha da la hb db lb).links.length ≤ 1000000 := by unfold tt; rw [List.length_append, List.length_map, List.length_map]; omega
 have hhh : ∀ l ∈ (tt ha da la hb db lb).links, ∀ xs, l.hash = some xs → xs.length ≤ 1000000 := by
  intro l hl
  unfold tt at hl
  rcases List.mem_append.1 hl with h | h
  ·obtain ⟨p, hp, rfl⟩ := List.mem_map.1 h; exact mS_hash p (oka p hp).h
  ·obtain ⟨p, hp, rfl⟩ := List.mem_map.1 h; exact mS_hash p (okb p hp).h
 have hby : ∀ x ∈ pbF ha da la ++ pbF hb db lb, 0 ≤ x ∧ x ≤ 255 := by
  intro x hx
  rcases List.mem_append.1 hx with h | h
  ·exact pbF_byte ha da la oka a1 ia.d x h
  ·exact pbF_byte hb db lb okb b1 ib.d x h
 have hdec := Dec_calls (hx := (ha || hb)) (dx := (tt ha da la hb db lb).data.getD []) (lx := (la ++ lb).map (fun p => toS (mS p))) (pbF ha da la ++ pbF hb db lb) (tt ha da la hb db lb) kf hu (tt_has ..) rfl (tt_links ..) hby (by rw [List.length_append]; omega) hdl hll hhh
 have hsm := same_eq (ha || hb) ((tt ha da la hb db lb).data.getD []) (if hb = true then db else da) (tt_data ha hb da db la lb) (la ++ lb) okl (by rw [List.length_append]; omega)
 have hpa := pbBytes_eq ha da la oka a2 a1
 have hpb := pbBytes_eq hb db lb okb b2 b1
 cases ha with
 | true => exact law5_small_true w hb da db la lb A1 A2 B1 B2 c1 c2 d1 d2 hA1 hc1 hA2 hc2 hB1 hd1 hB2 hd2 hge hfa hfb hsa hsb hpa hpb rfl la1 lb1 (fun W A c h1 h2 h3 => hdec W h1 A c h2 h3) hsm rfl a2 b2
 | false => exact law5_small_false w hb da db la lb A1 A2 B1 B2 c1 c2 d1 d2 hA1 hc1 hA2 hc2 hB1 hd1 hB2 hd2 hge hfa hfb hsa hsb hpa hpb rfl la1 lb1 (fun W A c h1 h2 h3 => hdec W h1 A c h2 h3) hsm rfl a2 b2
end Go.Proofs.YtnhnlodmkbiiiaaDoor.HandPj
end
/- Nodes and links that come in, as the claim's worlds tell them. -/
section
namespace Go.Proofs.YtnhnlodmkbiiiaaDoor.HandPj
open Go Go.RowKit Go.Proofs.YtnhnlodmkbiiiaaDoorL Go.Proofs.YtnhnlodmkbiiiaaDoorW.PrintWords Go.Proofs.YtnhnlodmkbiiiaaDoorW.PrintLast Go.Proofs.YtnhnlodmkbiiiaaDoorW.PrintMore Go.Proofs.YtnhnlodmkbiiiaaDoor.HandFields Go.Proofs.YtnhnlodmkbiiiaaDoor.PPbJoin
attribute [local go_sem] max2_int min2_int max_two min_two max_three min_three max_four min_four
set_option linter.unusedVariables false
set_option linter.unusedSimpArgs false
open Go.ChangeShapes Go.WideShapes Go.ChangeAt
section
variable {H : Type} {enc : TypeId × Value → H} {W : World}
theorem cells_get {a : Addr} {n : Nat} {cs : List Value} (h : W.cells? 0 a n = some cs) : cs.length = n ∧ ∀ (i : Nat) (u : Value), cs[i]? = some u → W.cell? (a.add i) = some u := by
 unfold World.cells? at h
 rw [if_pos (Nat.zero_le _)] at h
 have hl : cs.length = n := by simpa using mapM_some_length h
 refine ⟨hl, fun i u hu => ?_⟩
 have hi : i < n := by rw [← hl]; exact (List.getElem?_eq_some_iff.1 hu).1
 have := mapM_some_get h i i (by simp [hi])
 rw [this, hu]
/-- A row of bytes that came in. -/
theorem open_by {n : Nat} {v : Value} {x : DataW H × List MemPlace} (h : DataW.trod enc Tryd.prog W 0 (fun _ => true) true n 22 [v] = some x) : ∃ A c l, v = .slice A l.length c ∧ l.length ≤ c ∧ Kd.C (Kd.int .u8) W A l.length l ∧ ∀ x ∈ l, (0 : Int) ≤ x ∧ x ≤ 255 := by
 have w0 : ∃ a0 len0 cap0 z0, v = .slice a0 len0 cap0 ∧ ((a0 = none ∧ len0 = 0 ∧ cap0 = 0 ∧ z0 = []) ∨ ∃ x, a0 = some x ∧ len0 ≤ cap0 ∧ cap0 ≤ maxLen ∧ z0.length = cap0 ∧ (∀ i, i < z0.length → W.cell? (x.add i) = some (.int .u8 (z0.getD i 0))) ∧ ∀ n ∈ z0, (Lit.int .u8 n).wf = true) := by
  rcases open_ints Tryd.underlying22 Tryd.underlying5 (by kernel_rfl) h with ⟨hcs, _⟩ | ⟨x, l, c, zs, hcs, _, hl, hm, hzs, _, hcell, hwz⟩
  ·cases hcs
   exact ⟨_, _, _, [], rfl, .inl ⟨rfl, rfl, rfl, rfl⟩⟩
  ·cases hcs
   exact ⟨_, _, _, zs, rfl, .inr ⟨_, rfl, hl, hm, by simpa using hzs, hcell, hwz⟩⟩
 obtain ⟨a0, len0, cap0, z0, rfl, w0⟩ := w0
 obtain ⟨xs, rfl, hr0, hm0, hw0, hc0⟩ := ReadsInt.ofRowC w0
 refine ⟨_, _, xs, rfl, hc0, Kd.C_of_reads (d := (0 : Int)) (h1 := fun _ => rfl) hr0, fun x hx => ?_⟩
 have := hw0 x hx
 simp [Lit.wf, IntKind.bits, IntKind.signed, IntKind.min, IntKind.max] at this
 omega
/-- A link's cells that came in. -/
theorem open_lk {n : Nat} {cs : List Value} {x : DataW H × List MemPlace} (hl : cs.length = 6) (h : DataW.trod enc Tryd.prog W 0 (fun _ => true) true n 27 cs = some x) : ∃ p : S27, k27.K W p cs ∧ (0 ≤ p.f5 ∧ p.f5 < 18446744073709551616) ∧ ∀ x ∈ p.f3, 0 ≤ x ∧ x ≤ 255 := by
 match cs, hl with
 | [c0, c1, c2, c3, c4, c5], _ =>
 obtain ⟨xs, n, _, _, _, hlen, hfs⟩ := DataW.trod_struct Tryd.underlying27 h
 have k4 : Tryd.prog.cellsOf 4 = 1 := by kernel_rfl
 have k22 : Tryd.prog.cellsOf 22 = 1 := by kernel_rfl
 have k9 : Tryd.prog.cellsOf 9 = 1 := by kernel_rfl
 have k24 : Tryd.prog.cellsOf 24 = 1 := by kernel_rfl
 match xs, hlen with
 | [y0, y1, y2, y3, y4, y5], _ =>
  have h0 := hfs 0 _ rfl
  have h1 := hfs 1 _ rfl
  have h2 := hfs 2 _ rfl
  have h3 := hfs 3 _ rfl
  have h4 := hfs 4 _ rfl
  have h5 := hfs 5 _ rfl
  change DataW.trod enc Tryd.prog W 0 (fun _ => true) true n 4 (List.take (Tryd.prog.cellsOf 4) (List.drop 0 [c0, c1, c2, c3, c4, c5])) = some y0 at h0
  rw [k4] at h0
  change DataW.trod enc Tryd.prog W 0 (fun _ => true) true n 4 (List.take (Tryd.prog.cellsOf 4) (List.drop 1 [c0, c1, c2, c3, c4, c5])) = some y1 at h1
  rw [k4] at h1
  change DataW.trod enc Tryd.prog W 0 (fun _ => true) true n 4 (List.take (Tryd.prog.cellsOf 4) (List.drop 2 [c0, c1, c2, c3, c4, c5])) = some y2 at h2
  rw [k4] at h2
  change DataW.trod enc Tryd.prog W 0 (fun _ => true) true n 22 (List.take (Tryd.prog.cellsOf 22) (List.drop 3 [c0, c1, c2, c3, c4, c5])) = some y3 at h3
  rw [k22] at h3
  change DataW.trod enc Tryd.prog W 0 (fun _ => true) true n 9 (List.take (Tryd.prog.cellsOf 9) (List.drop 4 [c0, c1, c2, c3, c4, c5])) = some y4 at h4
  rw [k9] at h4
  change DataW.trod enc Tryd.prog W 0 (fun _ => true) true n 24 (List.take (Tryd.prog.cellsOf 24) (List.drop 5 [c0, c1, c2, c3, c4, c5])) = some y5 at h5
  rw [k24] at h5
  obtain ⟨b0, e0, _⟩ := DataW.trod_bool Tryd.underlying4 h0
  obtain ⟨b1, e1, _⟩ := DataW.trod_bool Tryd.underlying4 h1
  obtain ⟨b2, e2, _⟩ := DataW.trod_bool Tryd.underlying4 h2
  obtain ⟨st, e4, _, _⟩ := DataW.trod_string Tryd.underlying9 h4
  obtain ⟨z, e5, _, hz⟩ := DataW.trod_int Tryd.underlying24 h5
  obtain ⟨A, c, l, e3, hc, hC, hb⟩ := open_by h3
  cases e0; cases e1; cases e2; cases e4; cases e5
  subst e3
  simp [Lit.wf, IntKind.bits, IntKind.signed, IntKind.min, IntKind.max] at hz
  exact ⟨⟨b0, b1, b2, l, st, z⟩, k27_mk W ⟨b0, b1, b2, l, st, z⟩ hc hC, ⟨by show (0 : Int) ≤ z; omega, by show z < 18446744073709551616; omega⟩, hb⟩
instance : Inhabited S27 := ⟨z27⟩
/-- A row of links that came in. -/
theorem open_lks {n : Nat} {v : Value} {x : DataW H × List MemPlace} (h : DataW.trod enc Tryd.prog W 0 (fun _ => true) true n 34 [v] = some x) : ∃ A c l, v = .slice A l.length c ∧ l.length ≤ c ∧ Kd.C k27 W A l.length l ∧ ∀ p ∈ l, (0 ≤ p.f5 ∧ p.f5 < 18446744073709551616) ∧ ∀ x ∈ p.f3, 0 ≤ x ∧ x ≤ 255 := by
 have k27c : Tryd.prog.cellsOf 27 = 6 := by kernel_rfl
 rcases Go.Deep.open_slice Tryd.underlying34 h with ⟨hcs, _⟩ | ⟨a, len, cap, m, n', D, Pl, hcs, _, hl, hm, hmm, _, hel⟩
 ·cases hcs
  exact ⟨none, 0, [], rfl, Nat.le_refl _, Kd.C_nil _ _, fun p hp => by cases hp⟩
 ·cases hcs
  rw [k27c] at hel
  rw [if_pos rfl] at hmm
  obtain ⟨f, hf⟩ := Go.Deep.choose_lt (n := len) (p := fun i (p : S27) => (∃ cs, cs.length = 6 ∧ k27.K W p cs ∧ ∀ (j : Nat) (u : Value), cs[j]? = some u → W.cell? (a.add (i * 6 + j)) = some u) ∧ (0 ≤ p.f5 ∧ p.f5 < 18446744073709551616) ∧ ∀ x ∈ p.f3, 0 ≤ x ∧ x ≤ 255) (fun i hi => by
   obtain ⟨cs, h1, h2⟩ := hel i (by omega)
   obtain ⟨h3, h4⟩ := cells_get h1
   obtain ⟨p, hp, hr, hb⟩ := open_lk h3 h2
   exact ⟨p, ⟨cs, h3, hp, fun j u hu => by have := h4 j u hu; rw [Go.Deep.add_add] at this; exact this⟩, hr, hb⟩)
  have hlen : ((List.range len).map f).length = len := by rw [List.length_map, List.length_range]
  have hget : ∀ (j : Nat) (p : S27), ((List.range len).map f)[j]? = some p → j < len ∧ p = f j := fun j p hj => by
   have hlt : j < len := by have := (List.getElem?_eq_some_iff.1 hj).1; rw [hlen] at this; exact this
   rw [List.getElem?_map, List.getElem?_range hlt] at hj
   exact ⟨hlt, (Option.some.inj hj).symm⟩
  refine ⟨some a, cap, (List.range len).map f, by rw [hlen], by rw [hlen]; exact hl, ⟨rfl, by rw [hlen]; exact Nat.le_trans hl (Nat.le_trans hm (by decide)), fun _ => ⟨a, rfl, fun j p hj => ?_⟩⟩, fun p hp => ?_⟩
  ·obtain ⟨hlt, rfl⟩ := hget j p hj
   exact (hf j hlt).1
  ·obtain ⟨j, hj⟩ := List.mem_iff_getElem?.1 hp
   obtain ⟨hlt, rfl⟩ := hget j p hj
   exact (hf j hlt).2
/-- A node that came in by value. -/
theorem open_nd {cs : Array Value} (hn : cs.size = 3) {d : DataW H} {ps : List MemPlace} (hd : DataW.Trod enc Tryd.prog W 0 (fun _ => true) true 36 (.agg cs) d ps) :
  ∃ h A1 c1 A2 c2 da la, cs = #[.bool h, .slice A1 da.length c1, .slice A2 la.length c2] ∧ Kd.C (Kd.int .u8) W A1 da.length da ∧ da.length ≤ c1 ∧ Kd.C k27 W A2 la.length la ∧ la.length ≤ c2 ∧ InR da la := by
 obtain ⟨fuel, hf⟩ := hd
 obtain ⟨c0, c1, c2, rfl⟩ : ∃ c0 c1 c2, cs = #[c0, c1, c2] := by
  obtain ⟨l⟩ := cs
  match l, hn with
  | [c0, c1, c2], _ => exact ⟨c0, c1, c2, rfl⟩
 obtain ⟨xs, n, _, _, _, hlen, hfs⟩ := DataW.trod_struct Tryd.underlying36 hf
 have k4 : Tryd.prog.cellsOf 4 = 1 := by kernel_rfl
 have k22 : Tryd.prog.cellsOf 22 = 1 := by kernel_rfl
 have k34 : Tryd.prog.cellsOf 34 = 1 := by kernel_rfl
 match xs, hlen with
 | [y0, y1, y2], _ =>
  have h0 := hfs 0 _ rfl
  have h1 := hfs 1 _ rfl
  have h2 := hfs 2 _ rfl
  change DataW.trod enc Tryd.prog W 0 (fun _ => true) true n 4 (List.take (Tryd.prog.cellsOf 4) (List.drop 0 [c0, c1, c2])) = some y0 at h0
  rw [k4] at h0
  change DataW.trod enc Tryd.prog W 0 (fun _ => true) true n 22 (List.take (Tryd.prog.cellsOf 22) (List.drop 1 [c0, c1, c2])) = some y1 at h1
  rw [k22] at h1
  change DataW.trod enc Tryd.prog W 0 (fun _ => true) true n 34 (List.take (Tryd.prog.cellsOf 34) (List.drop 2 [c0, c1, c2])) = some y2 at h2
  rw [k34] at h2
  obtain ⟨b0, e0, _⟩ := DataW.trod_bool Tryd.underlying4 h0
  obtain ⟨A1, k1, da, e1, hc1, hC1, hb1⟩ := open_by h1
  obtain ⟨A2, k2, la, e2, hc2, hC2, hb2⟩ := open_lks h2
  cases e0
  subst e1 e2
  exact ⟨b0, A1, k1, A2, k2, da, la, rfl, hC1, hc1, hC2, hc2, ⟨hb1, hb2⟩⟩
end
end Go.Proofs.YtnhnlodmkbiiiaaDoor.HandPj
end
