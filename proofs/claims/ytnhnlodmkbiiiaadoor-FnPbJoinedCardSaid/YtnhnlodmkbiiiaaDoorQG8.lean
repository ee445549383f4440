/- A link is written: pbLink, Size, Marshal, by what they hand back, for any of its fields there or not. -/
import Derived.Test.YtnhnlodmkbiiiaaDoorQG5
import Derived.Lib.BufferWrite
import Derived.Lib.SlBuf
namespace Go.Proofs.YtnhnlodmkbiiiaaDoor.HandPb
open Go Go.RowKit Go.Proofs.YtnhnlodmkbiiiaaDoorL Go.Proofs.YtnhnlodmkbiiiaaDoorW.PrintWords Go.Proofs.YtnhnlodmkbiiiaaDoorW.PrintLast Go.Proofs.YtnhnlodmkbiiiaaDoorW.PrintMore Go.Proofs.YtnhnlodmkbiiiaaDoor.HandFields Go.Proofs.YtnhnlodmkbiiiaaDoor.PPbShare
attribute [local go_sem] max2_int min2_int max_two min_two max_three min_three max_four min_four
set_option linter.unusedVariables false
set_option linter.unusedSimpArgs false
section
variable {ops : Array Oper} {rest : List Oper} {o : Oper} {a : Act} {Q : Exit → Act → World → Prop}
open Go.Proofs.YtnhnlodmkbiiiaaDoorW.PrintWords.Kd (scalar own_of_R)
end
def hsF : Option (List Int) → List Int
 | none => []
 | some xs => 10 :: (uv xs.length ++ xs)
def nmF : Option (List Int) → List Int
 | none => []
 | some xs => 18 :: (uv xs.length ++ xs)
def tsF : Option Nat → List Int
 | none => []
 | some m => 24 :: uv m
/-- The bytes of a link. -/
def mlink (s : Lnk) : List Int := hsF s.hash ++ (nmF s.name ++ tsF s.ts)
structure LFit (s : Lnk) : Prop where
 hash : ∀ xs, s.hash = some xs → xs.length ≤ 1000000
 name : ∀ xs, s.name = some xs → xs.length ≤ 1000000
 byte : ∀ xs, s.name = some xs → ∀ x ∈ xs, 0 ≤ x ∧ x ≤ 255
 ts : ∀ m, s.ts = some m → m < 2 ^ 64
section
variable {w : World} {g : Nat} {s : Lnk} {c0 c1 c2 : Value}
end
section
variable {w0 W : World} {gb n cap : Nat} {hh : Array Obj} {P : Nat} {s : List Int}
end
theorem strOfNums_bytesOf (t : ByteArray) : strOfNums (bytesOf t) = t := by
 unfold strOfNums bytesOf
 rw [List.map_map]
 have h : ((fun n : Int => UInt8.ofNat n.toNat) ∘ fun b : UInt8 => (b.toNat : Int)) = id := by
  funext b
  simp
 rw [h, List.map_id]
/-- The link of some data. -/
def mkL (b0 b1 b2 : Bool) (xs : List Int) (st : ByteArray) (m : Nat) : Lnk := ⟨if b0 = true then some xs else none, if b1 = true then some (bytesOf st) else none, if b2 = true then some m else none⟩
section
variable {w W W' : World} {bx : Array Value} {s : Lnk} {c0 c1 c2 : Value}
end
theorem mkL_fit {b0 b1 b2 : Bool} {xs : List Int} {st : ByteArray} {m : Nat} (h0 : xs.length ≤ 1000000) (h1 : st.size ≤ 1000000) (h2 : m < 2 ^ 64) : LFit (mkL b0 b1 b2 xs st m) := by
 refine ⟨fun ys h => ?_, fun ys h => ?_, fun ys h => ?_, fun k h => ?_⟩
 ·cases b0
  ·cases h
  ·cases h; exact h0
 ·cases b1
  ·cases h
  ·cases h; rw [bytesOf_length]; exact h1
 ·cases b1
  ·cases h
  ·cases h
   intro x hx
   unfold bytesOf at hx
   obtain ⟨b, _, rfl⟩ := List.mem_map.1 hx
   have := b.toNat_lt
   omega
 ·cases b2
  ·cases h
  ·cases h; exact h2
end Go.Proofs.YtnhnlodmkbiiiaaDoor.HandPb
