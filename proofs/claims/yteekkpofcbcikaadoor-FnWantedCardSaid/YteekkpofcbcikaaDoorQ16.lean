/- The law FnWanted at any input. -/
import Derived.Test.YteekkpofcbcikaaDoorQE
import Derived.Test.YteekkpofcbcikaaDoorQ14
import Derived.Test.YteekkpofcbcikaaDoorM2
import Derived.Deep.Slices
import Derived.OpenShut
import Derived.SliceStrings
import Derived.ChangeOld
import Derived.ShutString
import Derived.Deep.DeepHandedRow
import Derived.ChangeShapes
import Derived.WideShapes
namespace Go.Proofs.YteekkpofcbcikaaDoor.HandWan
open Go Go.RowKit Go.Proofs.YteekkpofcbcikaaDoorL Go.Proofs.YteekkpofcbcikaaDoorW.PrintWords Go.Proofs.YteekkpofcbcikaaDoorW.PrintLast Go.Proofs.YteekkpofcbcikaaDoorW.PrintMore Go.Proofs.YteekkpofcbcikaaDoor.PWan
attribute [local go_sem] max2_int min2_int max_two min_two max_three min_three max_four min_four
set_option linter.unusedVariables false
set_option linter.unusedSimpArgs false
open Go.ChangeShapes Go.WideShapes Go.ChangeAt
section
variable {H : Type} {enc : TypeId × Value → H} {W : World}
theorem cells_get {a : Addr} {n : Nat} {cs : List Value} (h : W.cells? 0 a n = some cs) : cs.length = n ∧ ∀ (i : Nat) (u : Value), cs[i]? = some u → W.cell? (a.add i) = some u := by
  unfold World.cells? at h
  rw [if_pos (Nat.zero_le _)] at h
  have hl : cs.length = n := by simpa using mapM_some_length h
  refine ⟨hl, fun i u hu => ?_⟩
  have hi : i < n := by rw [← hl]; exact (List.getElem?_eq_some_iff.1 hu).1
  have := mapM_some_get h i i (by simp [hi])
  rw [this, hu]
/-- A step's cells that came in. -/
theorem open_st {n : Nat} {cs : List Value} {x : DataW H × List MemPlace} (hl : cs.length = 4) (h : DataW.trod enc Tryd.prog W 0 (fun _ => true) true n 73 cs = some x) : ∃ p : S73, k73.K W p cs ∧ (0 ≤ p.f0 ∧ p.f0 < 256) ∧ (0 ≤ p.f1 ∧ p.f1 < 256) := by
  match cs, hl with
  | [c0, c1, c2, c3], _ =>
  obtain ⟨xs, n, _, _, _, hlen, hfs⟩ := DataW.trod_struct Tryd.underlying73 h
  have k5 : Tryd.prog.cellsOf 5 = 1 := by kernel_rfl
  have k21 : Tryd.prog.cellsOf 21 = 1 := by kernel_rfl
  have k4 : Tryd.prog.cellsOf 4 = 1 := by kernel_rfl
  match xs, hlen with
  | [y0, y1, y2, y3], _ =>
    have h0 := hfs 0 _ rfl
    have h1 := hfs 1 _ rfl
    have h2 := hfs 2 _ rfl
    have h3 := hfs 3 _ rfl
    change DataW.trod enc Tryd.prog W 0 (fun _ => true) true n 5 (List.take (Tryd.prog.cellsOf 5) (List.drop 0 [c0, c1, c2, c3])) = some y0 at h0
    rw [k5] at h0
    change DataW.trod enc Tryd.prog W 0 (fun _ => true) true n 5 (List.take (Tryd.prog.cellsOf 5) (List.drop 1 [c0, c1, c2, c3])) = some y1 at h1
    rw [k5] at h1
    change DataW.trod enc Tryd.prog W 0 (fun _ => true) true n 21 (List.take (Tryd.prog.cellsOf 21) (List.drop 2 [c0, c1, c2, c3])) = some y2 at h2
    rw [k21] at h2
    change DataW.trod enc Tryd.prog W 0 (fun _ => true) true n 4 (List.take (Tryd.prog.cellsOf 4) (List.drop 3 [c0, c1, c2, c3])) = some y3 at h3
    rw [k4] at h3
    obtain ⟨z0, e0, _, hz0⟩ := DataW.trod_int Tryd.underlying5 h0
    obtain ⟨z1, e1, _, hz1⟩ := DataW.trod_int Tryd.underlying5 h1
    obtain ⟨z2, e2, _, _⟩ := DataW.trod_int Tryd.underlying21 h2
    obtain ⟨z3, e3, _⟩ := DataW.trod_bool Tryd.underlying4 h3
    cases e0; cases e1; cases e2; cases e3
    simp [Lit.wf, IntKind.bits, IntKind.signed, IntKind.min, IntKind.max] at hz0 hz1
    exact ⟨⟨z0, z1, z2, z3⟩, k73_mk W ⟨z0, z1, z2, z3⟩, ⟨by show (0 : Int) ≤ z0; omega, by show z0 < 256; omega⟩, ⟨by show (0 : Int) ≤ z1; omega, by show z1 < 256; omega⟩⟩
instance : Inhabited S73 := ⟨z73⟩
/-- A row of edits that came in. -/
theorem open_steps {n : Nat} {v : Value} {x : DataW H × List MemPlace} (h : DataW.trod enc Tryd.prog W 0 (fun _ => true) true n 22 [v] = some x) : ∃ A c l, v = .slice A l.length c ∧ l.length ≤ c ∧ Kd.C k73 W A l.length l ∧ ∀ p ∈ l, (0 ≤ p.f0 ∧ p.f0 < 256) ∧ (0 ≤ p.f1 ∧ p.f1 < 256) := by
  have k73c : Tryd.prog.cellsOf 73 = 4 := by kernel_rfl
  rcases Go.Deep.open_slice Tryd.underlying22 h with ⟨hcs, _⟩ | ⟨a, len, cap, m, n', D, Pl, hcs, _, hl, hm, hmm, _, hel⟩
  · cases hcs
    exact ⟨none, 0, [], rfl, Nat.le_refl _, Kd.C_nil _ _, fun p hp => by cases hp⟩
  · cases hcs
    rw [k73c] at hel
    rw [if_pos rfl] at hmm
    obtain ⟨f, hf⟩ := Go.Deep.choose_lt (n := len) (p := fun i (p : S73) => (∃ cs, cs.length = 4 ∧ k73.K W p cs ∧ ∀ (j : Nat) (u : Value), cs[j]? = some u → W.cell? (a.add (i * 4 + j)) = some u) ∧ (0 ≤ p.f0 ∧ p.f0 < 256) ∧ (0 ≤ p.f1 ∧ p.f1 < 256)) (fun i hi => by
      obtain ⟨cs, h1, h2⟩ := hel i (by omega)
      obtain ⟨h3, h4⟩ := cells_get h1
      obtain ⟨p, hp, hr, hb⟩ := open_st h3 h2
      exact ⟨p, ⟨cs, h3, hp, fun j u hu => by have := h4 j u hu; rw [Go.Deep.add_add] at this; exact this⟩, hr, hb⟩)
    have hlen : ((List.range len).map f).length = len := by rw [List.length_map, List.length_range]
    have hget : ∀ (j : Nat) (p : S73), ((List.range len).map f)[j]? = some p → j < len ∧ p = f j := fun j p hj => by
      have hlt : j < len := by have := (List.getElem?_eq_some_iff.1 hj).1; rw [hlen] at this; exact this
      rw [List.getElem?_map, List.getElem?_range hlt] at hj
      exact ⟨hlt, (Option.some.inj hj).symm⟩
    refine ⟨some a, cap, (List.range len).map f, by rw [hlen], by rw [hlen]; exact hl, ⟨rfl, by rw [hlen]; exact Nat.le_trans hl (Nat.le_trans hm (by decide)), fun _ => ⟨a, rfl, fun j p hj => ?_⟩⟩, fun p hp => ?_⟩
    · obtain ⟨hlt, rfl⟩ := hget j p hj
      exact (hf j hlt).1
    · obtain ⟨j, hj⟩ := List.mem_iff_getElem?.1 hp
      obtain ⟨hlt, rfl⟩ := hget j p hj
      exact (hf j hlt).2
end
theorem spRun_all (L : List S31) : ∀ l : List S27, l.length + L.length ≤ 1000 → ∀ t ∈ spRun l L, t.f3.length ≤ 1000 := by
  induction L with
  | nil => intro l _ t ht; cases ht
  | cons x L ih =>
    intro l hl t ht
    have hl : l.length + (L.length + 1) ≤ 1000 := hl
    have h2 := spL_len l x
    rcases List.mem_cons.1 ht with rfl | ht
    · show (sortE (spL l x)).length ≤ 1000
      rw [sortE_len]
      omega
    · exact ih _ (by omega) t ht
theorem mkW_kind (s : S73) (hb : 0 ≤ s.f0 ∧ s.f0 < 256) : (mkW s).f0 = 0 ∨ (mkW s).f0 = 1 ∨ (mkW s).f0 = 2 ∨ (mkW s).f0 = 3 := by
  have h : (mkW s).f0 = s.f0 % 4 := rfl
  omega
set_option maxHeartbeats 8000000 in
theorem wantedlaw_calls (w : World) (A0 : Option Addr) (c0 : Nat) (l0 : List S73) (h0 : Kd.C k73 w A0 l0.length l0) (k0 : l0.length ≤ c0) (hb0 : ∀ s ∈ l0, (0 ≤ s.f0 ∧ s.f0 < 256) ∧ (0 ≤ s.f1 ∧ s.f1 < 256)) :
    Calls Tryd.prog 4 #[.slice A0 l0.length c0] w fun e w' => e = .returned (.bool true) ∧ Below w.heap.size w w' := by
  by_cases ca : 2147483647 < (l0.length : Int)
  · have qa : decide ((l0.length : Int) > 2147483647) = true := decide_eq_true ca
    have qa' : decide (2147483647 < (l0.length : Int)) = true := decide_eq_true ca
    clear h0 hb0 ca
    go_enter Tryd.func4, Tryd.ntmps4
    go_wp2_with fail
    go_ret
    exact ⟨rfl, Below.refl _ _⟩
  · by_cases cc : 60 < (l0.length : Int)
    · have qa : decide ((l0.length : Int) > 2147483647) = false := decide_eq_false ca
      have qa' : decide (2147483647 < (l0.length : Int)) = false := decide_eq_false ca
      have qc : decide ((l0.length : Int) > 60) = true := decide_eq_true cc
      have qc' : decide (60 < (l0.length : Int)) = true := decide_eq_true cc
      clear h0 hb0 ca cc
      go_enter Tryd.func4, Tryd.ntmps4
      go_wp2_with (go_at_call 7; refine (live_calls _).mono ?_; rintro e w1 ⟨rfl, hb⟩; have HB1 := Aside0.mk hb; clear hb)
      go_ret
      exact ⟨rfl, HB1.out⟩
    · have qa : decide ((l0.length : Int) > 2147483647) = false := decide_eq_false ca
      have qa' : decide (2147483647 < (l0.length : Int)) = false := decide_eq_false ca
      have qc : decide ((l0.length : Int) > 60) = false := decide_eq_false cc
      have qc' : decide (60 < (l0.length : Int)) = false := decide_eq_false cc
      have HL0 := Aside0.mk (show l0.length ≤ 60 by omega)
      obtain ⟨L, hL⟩ : ∃ L, L = l0.map mkW := ⟨_, rfl⟩
      have hLl : L.length = l0.length := by rw [hL, List.length_map]
      have HLl := Aside0.mk (show L.length ≤ 60 by rw [hLl]; exact HL0.out)
      have hok : ∀ x ∈ L, OkW x ∧ (x.f0 = 0 ∨ x.f0 = 1 ∨ x.f0 = 2 ∨ x.f0 = 3) := fun x hx => by
        rw [hL] at hx
        obtain ⟨s, hs, rfl⟩ := List.mem_map.1 hx
        exact ⟨mkW_ok s (hb0 s hs), mkW_kind s (hb0 s hs).1⟩
      have HOK := Aside0.mk hok
      obtain ⟨T, hT⟩ : ∃ T, T = spRun [] L := ⟨_, rfl⟩
      have HT := Aside0.mk hT
      have HT2 := Aside0.mk (show wRun (sortN (ded L)) st0 L = T by rw [hT]; exact wanted_eq L hok)
      have HTL := Aside0.mk (show T.length ≤ 60 by rw [hT, spRun_len]; exact HLl.out)
      have HTA := Aside0.mk (show ∀ t ∈ T, t.f3.length ≤ 1000 by rw [hT]; exact spRun_all L [] (by have := HLl.out; simp only [List.length_nil]; omega))
      have HW := Aside0.mk (fun (w' : World) (hb : Below w.heap.size w w') => wants_calls w' A0 c0 l0 (Kd.C_below h0 hb) k0 (by have := HL0.out; omega) hb0)
      rw [← hL] at HW
      clear h0 hb0 ca cc hL hLl hok hT k0
      go_enter Tryd.func4, Tryd.ntmps4
      go_upto_region 5 with fail
      clear qa qa' qc qc'
      go_wp2_with (first
        | (go_at_call 7; refine (live_calls w5).mono ?_; rintro e w6 ⟨rfl, hb⟩; have HB6 := Aside0.mk (below_step HB5.out hb); clear hb)
        | (go_at_call 13; refine (eqTs_calls T At As ct cs w4 HCt.out HCs.out (by have := HTL.out; omega) HTA.out).mono ?_; rintro e w5 ⟨rfl, hb⟩; have HB5 := Aside0.mk (below_step HB4.out hb); clear hb)
        | (go_at_call 12; refine (spec_calls w3 A2 c2 L HC2.out (by have := HLl.out; omega) HOK.out).mono ?_; rintro e w4 ⟨vs, rfl, hN, hb⟩; rw [← HT.out] at hN; obtain ⟨As, cs, rfl⟩ := Kd.N_slice hN; have HCs := Aside0.mk (Kd.N_reads' hN).2.2; have HCt := Aside0.mk (Kd.C_below HCt3.out hb); have HB4 := Aside0.mk (below_step HB3.out hb); clear hN hb)
        | (go_at_call 10; refine (wanted_calls w1 A1 c1 L HC1.out (by have := HLl.out; omega) (fun x hx => (HOK.out x hx).1)).mono ?_; rintro e w2 ⟨vt, rfl, hR, hb⟩; rw [HT2.out] at hR; obtain ⟨At, ct, rfl⟩ := Kd.R_slice hR; have HCt2 := Aside0.mk (Kd.R_reads' hR).2.2; have HB2 := Aside0.mk (below_step HB1.out hb); clear hR hb)
        | (go_at_call 9; refine (HW.out w2 HB2.out).mono ?_; rintro e w3 ⟨v2, rfl, hR, hb⟩; obtain ⟨A2, c2, rfl⟩ := Kd.R_slice hR; have HC2 := Aside0.mk (Kd.R_reads' hR).2.2; have HCt3 := Aside0.mk (Kd.C_below HCt2.out hb); have HB3 := Aside0.mk (below_step HB2.out hb); clear hR hb)
        | (go_at_call 9; refine (HW.out w (Below.refl _ _)).mono ?_; rintro e w1 ⟨v1, rfl, hR, hb⟩; obtain ⟨A1, c1, rfl⟩ := Kd.R_slice hR; have HC1 := Aside0.mk (Kd.R_reads' hR).2.2; have HB1 := Aside0.mk hb; clear hR hb))
      go_ret
      exact ⟨rfl, HB6.out⟩
end Go.Proofs.YteekkpofcbcikaaDoor.HandWan
