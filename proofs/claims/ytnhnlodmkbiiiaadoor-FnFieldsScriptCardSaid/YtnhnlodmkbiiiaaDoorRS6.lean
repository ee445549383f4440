/- Edits that come in, as the claim's worlds tell them. -/
import Derived.Test.YtnhnlodmkbiiiaaDoorRS5
import Derived.Deep.Slices
import Derived.OpenShut
import Derived.SliceStrings
import Derived.ChangeOld
import Derived.ShutString
import Derived.Deep.DeepHandedRow
namespace Go.Proofs.YtnhnlodmkbiiiaaDoor.HandFields
open Go Go.RowKit Go.Proofs.YtnhnlodmkbiiiaaDoorL Go.Proofs.YtnhnlodmkbiiiaaDoorW.PrintWords Go.Proofs.YtnhnlodmkbiiiaaDoorW.PrintLast Go.Proofs.YtnhnlodmkbiiiaaDoorW.PrintMore Go.Proofs.YtnhnlodmkbiiiaaDoor.PFieldsBase Go.Proofs.YtnhnlodmkbiiiaaDoor.PScr
attribute [local go_sem] max2_int min2_int max_two min_two max_three min_three max_four min_four
set_option linter.unusedVariables false
set_option linter.unusedSimpArgs false
open Go.ChangeShapes Go.WideShapes Go.ChangeAt
section
variable {H : Type} {enc : TypeId × Value → H} {W : World}
theorem cells_get {a : Addr} {n : Nat} {cs : List Value} (h : W.cells? 0 a n = some cs) : cs.length = n ∧ ∀ (i : Nat) (u : Value), cs[i]? = some u → W.cell? (a.add i) = some u := by
 unfold World.cells? at h
 rw [if_pos (Nat.zero_le _)] at h
 have hl : cs.length = n := by simpa using mapM_some_length h
 refine ⟨hl, fun i u hu => ?_⟩
 have hi : i < n := by rw [← hl]; exact (List.getElem?_eq_some_iff.1 hu).1
 have := mapM_some_get h i i (by simp [hi])
 rw [this, hu]
/-- A row of bytes that came in. -/
theorem open_by {n : Nat} {v : Value} {x : DataW H × List MemPlace} (h : DataW.trod enc Tryd.prog W 0 (fun _ => true) true n 22 [v] = some x) : ∃ A c l, v = .slice A l.length c ∧ l.length ≤ c ∧ Kd.C (Kd.int .u8) W A l.length l ∧ ∀ x ∈ l, (0 : Int) ≤ x ∧ x ≤ 255 := by
 have w0 : ∃ a0 len0 cap0 z0, v = .slice a0 len0 cap0 ∧ ((a0 = none ∧ len0 = 0 ∧ cap0 = 0 ∧ z0 = []) ∨ ∃ x, a0 = some x ∧ len0 ≤ cap0 ∧ cap0 ≤ maxLen ∧ z0.length = cap0 ∧ (∀ i, i < z0.length → W.cell? (x.add i) = some (.int .u8 (z0.getD i 0))) ∧ ∀ n ∈ z0, (Lit.int .u8 n).wf = true) := by
  rcases open_ints Tryd.underlying22 Tryd.underlying5 (by kernel_rfl) h with ⟨hcs, _⟩ | ⟨x, l, c, zs, hcs, _, hl, hm, hzs, _, hcell, hwz⟩
  ·cases hcs
   exact ⟨_, _, _, [], rfl, .inl ⟨rfl, rfl, rfl, rfl⟩⟩
  ·cases hcs
   exact ⟨_, _, _, zs, rfl, .inr ⟨_, rfl, hl, hm, by simpa using hzs, hcell, hwz⟩⟩
 obtain ⟨a0, len0, cap0, z0, rfl, w0⟩ := w0
 obtain ⟨xs, rfl, hr0, hm0, hw0, hc0⟩ := ReadsInt.ofRowC w0
 refine ⟨_, _, xs, rfl, hc0, Kd.C_of_reads (d := (0 : Int)) (h1 := fun _ => rfl) hr0, fun x hx => ?_⟩
 have := hw0 x hx
 simp [Lit.wf, IntKind.bits, IntKind.signed, IntKind.min, IntKind.max] at this
 omega
/-- An edit's cells that came in. -/
theorem open_ed {n : Nat} {cs : List Value} {x : DataW H × List MemPlace} (hl : cs.length = 4) (h : DataW.trod enc Tryd.prog W 0 (fun _ => true) true n 65 cs = some x) : ∃ p : S65, k65.K W p cs ∧ (0 ≤ p.f2 ∧ p.f2 < 18446744073709551616) ∧ ∀ x ∈ p.f1, 0 ≤ x ∧ x ≤ 255 := by
 match cs, hl with
 | [c0, c1, c2, c3], _ =>
 obtain ⟨xs, n, _, _, _, hlen, hfs⟩ := DataW.trod_struct Tryd.underlying65 h
 have k3 : Tryd.prog.cellsOf 3 = 1 := by kernel_rfl
 have k22 : Tryd.prog.cellsOf 22 = 1 := by kernel_rfl
 have k24 : Tryd.prog.cellsOf 24 = 1 := by kernel_rfl
 match xs, hlen with
 | [y0, y1, y2, y3], _ =>
  have h0 := hfs 0 _ rfl
  have h1 := hfs 1 _ rfl
  have h2 := hfs 2 _ rfl
  have h3 := hfs 3 _ rfl
  change DataW.trod enc Tryd.prog W 0 (fun _ => true) true n 3 (List.take (Tryd.prog.cellsOf 3) (List.drop 0 [c0, c1, c2, c3])) = some y0 at h0
  rw [k3] at h0
  change DataW.trod enc Tryd.prog W 0 (fun _ => true) true n 22 (List.take (Tryd.prog.cellsOf 22) (List.drop 1 [c0, c1, c2, c3])) = some y1 at h1
  rw [k22] at h1
  change DataW.trod enc Tryd.prog W 0 (fun _ => true) true n 24 (List.take (Tryd.prog.cellsOf 24) (List.drop 2 [c0, c1, c2, c3])) = some y2 at h2
  rw [k24] at h2
  change DataW.trod enc Tryd.prog W 0 (fun _ => true) true n 3 (List.take (Tryd.prog.cellsOf 3) (List.drop 3 [c0, c1, c2, c3])) = some y3 at h3
  rw [k3] at h3
  obtain ⟨z0, e0, _, _⟩ := DataW.trod_int Tryd.underlying3 h0
  obtain ⟨z2, e2, _, hz⟩ := DataW.trod_int Tryd.underlying24 h2
  obtain ⟨z3, e3, _, _⟩ := DataW.trod_int Tryd.underlying3 h3
  obtain ⟨A, c, l, e1, hc, hC, hb⟩ := open_by h1
  cases e0; cases e2; cases e3
  subst e1
  simp [Lit.wf, IntKind.bits, IntKind.signed, IntKind.min, IntKind.max] at hz
  exact ⟨⟨z0, l, z2, z3⟩, k65_mk W ⟨z0, l, z2, z3⟩ hc hC, ⟨by show (0 : Int) ≤ z2; omega, by show z2 < 18446744073709551616; omega⟩, hb⟩
instance : Inhabited S65 := ⟨z65⟩
/-- A row of edits that came in. -/
theorem open_eds {n : Nat} {v : Value} {x : DataW H × List MemPlace} (h : DataW.trod enc Tryd.prog W 0 (fun _ => true) true n 62 [v] = some x) : ∃ A c l, v = .slice A l.length c ∧ l.length ≤ c ∧ Kd.C k65 W A l.length l ∧ ∀ p ∈ l, (0 ≤ p.f2 ∧ p.f2 < 18446744073709551616) ∧ ∀ x ∈ p.f1, 0 ≤ x ∧ x ≤ 255 := by
 have k65c : Tryd.prog.cellsOf 65 = 4 := by kernel_rfl
 rcases Go.Deep.open_slice Tryd.underlying62 h with ⟨hcs, _⟩ | ⟨a, len, cap, m, n', D, Pl, hcs, _, hl, hm, hmm, _, hel⟩
 ·cases hcs
  exact ⟨none, 0, [], rfl, Nat.le_refl _, Kd.C_nil _ _, fun p hp => by cases hp⟩
 ·cases hcs
  rw [k65c] at hel
  rw [if_pos rfl] at hmm
  obtain ⟨f, hf⟩ := Go.Deep.choose_lt (n := len) (p := fun i (p : S65) => (∃ cs, cs.length = 4 ∧ k65.K W p cs ∧ ∀ (j : Nat) (u : Value), cs[j]? = some u → W.cell? (a.add (i * 4 + j)) = some u) ∧ (0 ≤ p.f2 ∧ p.f2 < 18446744073709551616) ∧ ∀ x ∈ p.f1, 0 ≤ x ∧ x ≤ 255) (fun i hi => by
   obtain ⟨cs, h1, h2⟩ := hel i (by omega)
   obtain ⟨h3, h4⟩ := cells_get h1
   obtain ⟨p, hp, hr, hb⟩ := open_ed h3 h2
   exact ⟨p, ⟨cs, h3, hp, fun j u hu => by have := h4 j u hu; rw [Go.Deep.add_add] at this; exact this⟩, hr, hb⟩)
  have hlen : ((List.range len).map f).length = len := by rw [List.length_map, List.length_range]
  have hget : ∀ (j : Nat) (p : S65), ((List.range len).map f)[j]? = some p → j < len ∧ p = f j := fun j p hj => by
   have hlt : j < len := by have := (List.getElem?_eq_some_iff.1 hj).1; rw [hlen] at this; exact this
   rw [List.getElem?_map, List.getElem?_range hlt] at hj
   exact ⟨hlt, (Option.some.inj hj).symm⟩
  refine ⟨some a, cap, (List.range len).map f, by rw [hlen], by rw [hlen]; exact hl, ⟨rfl, by rw [hlen]; exact Nat.le_trans hl (Nat.le_trans hm (by decide)), fun _ => ⟨a, rfl, fun j p hj => ?_⟩⟩, fun p hp => ?_⟩
  ·obtain ⟨hlt, rfl⟩ := hget j p hj
   exact (hf j hlt).1
  ·obtain ⟨j, hj⟩ := List.mem_iff_getElem?.1 hp
   obtain ⟨hlt, rfl⟩ := hget j p hj
   exact (hf j hlt).2
end
end Go.Proofs.YtnhnlodmkbiiiaaDoor.HandFields
