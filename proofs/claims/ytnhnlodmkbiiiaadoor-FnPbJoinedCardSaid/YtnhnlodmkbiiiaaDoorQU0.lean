/- The message that is filled as bytes are read, in memory; the rounds of a varint's reading. -/
import Derived.Test.YtnhnlodmkbiiiaaDoorQF0
namespace Go.Proofs.YtnhnlodmkbiiiaaDoor.HandFields
open Go Go.RowKit Go.Proofs.YtnhnlodmkbiiiaaDoorL Go.Proofs.YtnhnlodmkbiiiaaDoorW.PrintWords Go.Proofs.YtnhnlodmkbiiiaaDoorW.PrintLast Go.Proofs.YtnhnlodmkbiiiaaDoorW.PrintMore Go.Proofs.YtnhnlodmkbiiiaaDoor.PFieldsBase
attribute [local go_sem] max2_int min2_int max_two min_two max_three min_three max_four min_four
set_option linter.unusedVariables false
set_option linter.unusedSimpArgs false
theorem words_u64 (n : Int) (h0 : 0 ≤ n) (h1 : n < 2 ^ 64) : IntKind.u64.wrap n = n := by unfold IntKind.wrap; simp [IntKind.bits, IntKind.signed]; omega
theorem words_i64 (n : Int) (h0 : 0 ≤ n) (h1 : n < 2 ^ 63) : IntKind.i64.wrap n = n := by unfold IntKind.wrap; simp [IntKind.bits, IntKind.signed]; omega
/-- What is read, or what remains to be read. -/
structure Pd where
 ty : Option Nat
 data : Option (List Int)
 size : Option Nat
 blocks : List Int
section
variable {w0 W W' : World} {g b5 N N' : Nat} {t : TypeId} {e : Pd} {c0 c1 c2 c3 : Value}
end
section
variable {w0 W : World} {g b5 N : Nat} {t : TypeId} {d : Dat} {e q : Pd} {c0 c1 c2 c3 : Value} {k v j : Nat} {x : Int}
end
/-- A part of a row that came in. -/
theorem mid_row {W : World} {A : Option Addr} {n c i j : Nat} {l xs r : List Int} (hC : Kd.C (Kd.int .u8) W A n l) (hnc : n ≤ c) (hd : l.drop i = xs ++ r) (hi : i ≤ l.length) (hj : j = i + xs.length) : Kd.C (Kd.int .u8) W (if c = i then A else A.map (fun x => x.add (i * 1))) (j - i) xs := by
 have hn := Kd.C_len hC
 subst hn
 have h1 := congrArg List.length hd
 rw [List.length_drop, List.length_append] at h1
 have h2 := Kd.C_mid (lo := i) (hi := j) hC (by omega) (by omega) hnc
 have h3 : (l.take j).drop i = xs := by
  rw [List.drop_take, hd, show j - i = xs.length by omega, List.take_left]
 rw [h3, show xs.length = j - i by omega] at h2
 exact h2
section
variable {w0 W W' : World} {g b5 N : Nat} {t : TypeId} {e : Pd} {c0 c1 c2 c3 : Value}
variable {d : Dat} {q : Pd} {k v j : Nat} {x : Int}
end
theorem own_some {W : World} {e base m : Nat} {ok : Nat → Prop} {v : Value} (h : Kd.R (Kd.int .u8) e W base ok v []) (hat : ∃ b, v.ownBlock = some b ∧ m ≤ b) : ∃ A c, v = .slice (some A) ([] : List Int).length c := by
 obtain ⟨A, c, rfl⟩ := Kd.R_slice h
 cases A with
 | some a => exact ⟨a, c, rfl⟩
 | none => obtain ⟨b, hb, _⟩ := hat; cases hb
/-- The i-th of some values. -/
def nthV : List Value → Nat → Value
 | [], _ => undef
 | v :: _, 0 => v
 | _ :: l, i + 1 => nthV l i
/-- A frame of which some slots (by the mask) hold what us says. -/
def ovl : List (Option Nat) → (Nat → Value) → List Value → List Value
 | [], _, l => l
 | _ :: _, _, [] => []
 | none :: m, us, v :: l => v :: ovl m us l
 | some i :: m, us, _ :: l => us i :: ovl m us l
/-- A loop in a large frame: the slots of the mask stand behind one letter. -/
theorem wp_loop_f {P : Program} {Q : Exit → Act → World → Prop} {c : Code} {l : List Value} {x : List Deferred} {w : World} (m : List (Option Nat)) (n0 : Nat) (rel : Nat → (Nat → Value) → World → Prop) (h0 : rel n0 (nthV l) w) (hm : ovl m (nthV l) l = l)
  (round : ∀ (gk : Nat) (us : Nat → Value) (w' : World), rel gk us w' → ∀ (J : Nat → Act → World → Prop) (K : Act → World → Prop), (∀ k l' w', rel k (nthV l') w' → ovl m (nthV l') l = l' → J k ⟨l'.toArray, x⟩ w') → (∀ a' w', Handed J gk a' w' → K a' w') → c.wp P (Exit.then K Q) ⟨(ovl m us l).toArray, x⟩ w') : (Code.loop c).wp P Q ⟨l.toArray, x⟩ w := by
 refine wp_loop_ghost (fun k a w => ∃ us, rel k us w ∧ a = ⟨(ovl m us l).toArray, x⟩) n0 ⟨nthV l, h0, by rw [hm]⟩ ?_
 rintro gk a w' ⟨us, hr, rfl⟩
 exact round gk us w' hr _ _ (fun k l' w' h h2 => ⟨nthV l', h, by rw [h2]⟩) (fun _ _ q => q)
end Go.Proofs.YtnhnlodmkbiiiaaDoor.HandFields
