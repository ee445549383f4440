/- What laws.wants makes of steps. -/
import Derived.Test.YteekkpofcbcikaaDoorM0
import Derived.Test.YteekkpofcbcikaaDoorM1
import Derived.Test.YteekkpofcbcikaaDoorPWanx8
namespace Go.Proofs.YteekkpofcbcikaaDoor.HandWan
open Go Go.RowKit Go.Proofs.YteekkpofcbcikaaDoorL Go.Proofs.YteekkpofcbcikaaDoorW.PrintWords Go.Proofs.YteekkpofcbcikaaDoorW.PrintLast Go.Proofs.YteekkpofcbcikaaDoorW.PrintMore Go.Proofs.YteekkpofcbcikaaDoor.PWan
attribute [local go_sem] max2_int min2_int max_two min_two max_three min_three max_four min_four
set_option linter.unusedVariables false
set_option linter.unusedSimpArgs false
def mkW (s : S73) : S31 := ⟨s.f0 % 4, ⟨idB s.f1.toNat, s.f2, s.f3⟩⟩
theorem rd73_eq (l : List S73) (j : Nat) (hj : j < l.length) : rd_T73 l (j : Int) = l[j] := by
  unfold rd_T73
  rw [Int.toNat_natCast, List.getD_eq_getElem?_getD, List.getElem?_eq_getElem hj]
  rfl
theorem wants_l0 (l : List S73) (hl : l.length ≤ 1000) (hb : ∀ s ∈ l, (0 ≤ s.f0 ∧ s.f0 < 256) ∧ (0 ≤ s.f1 ∧ s.f1 < 256)) : ∀ (k j : Nat) (acc : List S31), j ≤ l.length → l.length - j < k → acc.length ≤ j → laws_wants.l0 k acc l (l.length : Int) (j : Int) = some (acc ++ (l.drop j).map mkW) := by
  intro k
  induction k with
  | zero => intro j acc _ h; omega
  | succ k ih =>
    intro j acc hj hk ha
    unfold laws_wants.l0
    by_cases h1 : j < l.length
    · have hs := hb l[j] (List.getElem_mem h1)
      rw [if_pos (show (j : Int) < (l.length : Int) by omega), if_pos (show (0 : Int) ≤ (j : Int) by omega), if_pos (show (j : Int) < (l.length : Int) by omega), rd73_eq l j h1]
      have he : laws_Step_entry.f l[j].f0 l[j].f1 l[j].f2 l[j].f3 = some (idB l[j].f1.toNat, l[j].f2, l[j].f3) := by
        unfold laws_Step_entry.f laws_identifier.f
        rw [if_pos hs.2]
        rfl
      have hw : wrap64 ((j : Int) + 1) = ((j + 1 : Nat) : Int) := by unfold wrap64; omega
      have hk4 : wrap64 (Int.tmod l[j].f0 4) = l[j].f0 % 4 := by
        rw [Int.tmod_eq_emod_of_nonneg hs.1.1]
        unfold wrap64
        omega
      rw [he, Option.bind_some, if_pos (by omega), hw, hk4]
      have := ih (j + 1) (acc ++ [mkW l[j]]) (by omega) (by omega) (by rw [List.length_append, List.length_singleton]; omega)
      rw [List.drop_eq_getElem_cons h1, List.map_cons]
      rw [List.append_assoc] at this
      exact this
    · rw [if_neg (show ¬ (j : Int) < (l.length : Int) by omega), List.drop_eq_nil_of_le (by omega)]
      simp
theorem wants_f (l : List S73) (hl : l.length ≤ 1000) (hb : ∀ s ∈ l, (0 ≤ s.f0 ∧ s.f0 < 256) ∧ (0 ≤ s.f1 ∧ s.f1 < 256)) : laws_wants.f (l.length + 1) l = some (l.map mkW) := by
  have := wants_l0 l hl hb (l.length + 1) 0 [] (Nat.zero_le _) (by omega) (Nat.zero_le _)
  rw [List.drop_zero, List.nil_append] at this
  exact this
theorem wants_calls (w : World) (A : Option Addr) (c : Nat) (l : List S73) (hC : Kd.C k73 w A l.length l) (hc : l.length ≤ c) (hl : l.length ≤ 1000) (hb : ∀ s ∈ l, (0 ≤ s.f0 ∧ s.f0 < 256) ∧ (0 ≤ s.f1 ∧ s.f1 < 256)) :
    Calls Tryd.prog 9 #[.slice A l.length c] w fun e w' => ∃ v, e = .returned v ∧ Kd.R k31 31 w' w.heap.size (fun _ => True) v (l.map mkW) ∧ Below w.heap.size w w' := by
  refine (laws_wants.calls (l.length + 1) A c l (l.map mkW) w hC hc (wants_f l hl hb)).mono ?_
  rintro e w' ⟨v, rfl, hS, hB⟩
  exact ⟨v, rfl, Kd.S_R hS, hB⟩
theorem info31e : (Tryd.prog.info? 31).map (fun i => (i.zero, i.size, i.bytes)) = some (some (.agg #[.int .i64 0, .slice none 0 0, .int .i32 0, .bool false]), 4, 40) := by kernel_rfl
theorem mkW_ok (s : S73) (hb : (0 ≤ s.f0 ∧ s.f0 < 256) ∧ (0 ≤ s.f1 ∧ s.f1 < 256)) : OkW (mkW s) := ok_id s.f1.toNat (by omega) _ _ _
theorem reps_four {W : World} {x y z u : S31} {A1 A2 A3 A4 : Option Addr} {c1 c2 c3 c4 : Nat} (l1 : x.f1.f0.length ≤ c1) (g1 : (Kd.int .u8).C W A1 x.f1.f0.length x.f1.f0) (l2 : y.f1.f0.length ≤ c2) (g2 : (Kd.int .u8).C W A2 y.f1.f0.length y.f1.f0) (l3 : z.f1.f0.length ≤ c3) (g3 : (Kd.int .u8).C W A3 z.f1.f0.length z.f1.f0) (l4 : u.f1.f0.length ≤ c4) (g4 : (Kd.int .u8).C W A4 u.f1.f0.length u.f1.f0) :
    Reps (k31.K W) k31.sz [x, y, z, u] [.int .i64 x.f0, .slice A1 x.f1.f0.length c1, .int .i32 x.f1.f1, .bool x.f1.f2, .int .i64 y.f0, .slice A2 y.f1.f0.length c2, .int .i32 y.f1.f1, .bool y.f1.f2, .int .i64 z.f0, .slice A3 z.f1.f0.length c3, .int .i32 z.f1.f1, .bool z.f1.f2, .int .i64 u.f0, .slice A4 u.f1.f0.length c4, .int .i32 u.f1.f1, .bool u.f1.f2] :=
  Reps.snoc (Reps.snoc (reps_two l1 g1 l2 g2) (k31_mk W z l3 g3) rfl) (k31_mk W u l4 g4) rfl
end Go.Proofs.YteekkpofcbcikaaDoor.HandWan
