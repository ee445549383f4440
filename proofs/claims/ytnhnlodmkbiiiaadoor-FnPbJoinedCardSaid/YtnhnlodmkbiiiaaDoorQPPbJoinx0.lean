/- Printed by a program of this session (it drives the print of the kit, with contracts proved by hand beside): the Go functions of one law as Lean functions, and that the Go code comes to what they say. -/
import Derived.Test.YtnhnlodmkbiiiaaDoorProg
import Derived.Test.YtnhnlodmkbiiiaaDoorShelf
import Derived.WalkSpells
import Derived.WalkLawsBesides
import Derived.Below
import Derived.Deep.Draws
import Derived.Deep.AppendLies
import Derived.Maps.AppendAt
import Derived.OwnWalk
import Derived.Laws.BytesArg
import Derived.Laws.MakeOwn
import Derived.Laws.OwnMore
import Derived.Deep.OwnRows
import Derived.Tactics
import Derived.Lib.ConvBytes
import Derived.Laws.Slices
import Derived.WalkKit
import Derived.KernelRfl
import Derived.RowKit3
import Derived.Deep.LoopGhost
import Derived.Deep.QuietTactic
import Derived.BigQuiet
import Derived.WideLaws
import Derived.Deep.DeepCutAuto
import Derived.Deep.CutBlock
import Derived.Deep.RegionHeld3
import Derived.Laws.Rows
import Derived.Lib.AppendStr
import Derived.ArgAppend
import Derived.Laws.IdiomCopy
import Derived.OrdersHeld
import Derived.Laws.BitsLemmas
import Derived.RowKit
import Derived.Test.YtnhnlodmkbiiiaaDoorLOwn
import Derived.Test.YtnhnlodmkbiiiaaDoorLOwn2
import Derived.Test.YtnhnlodmkbiiiaaDoorQG9
import Derived.Test.YtnhnlodmkbiiiaaDoorWWords
import Derived.Test.YtnhnlodmkbiiiaaDoorWLast
import Derived.Test.YtnhnlodmkbiiiaaDoorWTab
import Derived.Test.YtnhnlodmkbiiiaaDoorWQPut
import Derived.Test.YtnhnlodmkbiiiaaDoorWApart
import Derived.Test.YtnhnlodmkbiiiaaDoorWArr
import Derived.Test.YtnhnlodmkbiiiaaDoorWZeros
import Derived.Test.YtnhnlodmkbiiiaaDoorWFoot
import Derived.Test.YtnhnlodmkbiiiaaDoorWKept
import Derived.Test.YtnhnlodmkbiiiaaDoorWShare
import Derived.Test.YtnhnlodmkbiiiaaDoorWN
import Derived.Test.YtnhnlodmkbiiiaaDoorWFootNe
import Derived.Test.YtnhnlodmkbiiiaaDoorWRepsOne
import Derived.Test.YtnhnlodmkbiiiaaDoorWNEv
import Derived.Test.YtnhnlodmkbiiiaaDoorWMore
namespace Go.Proofs.YtnhnlodmkbiiiaaDoor.PPbJoin
open Go.RowKit Go.Proofs.YtnhnlodmkbiiiaaDoorL Go.Proofs.YtnhnlodmkbiiiaaDoorW.PrintWords Go.Proofs.YtnhnlodmkbiiiaaDoorW.PrintLast Go.Proofs.YtnhnlodmkbiiiaaDoorW.PrintMore
attribute [local go_sem] max2_int min2_int max_two min_two max_three min_three max_four min_four   -- for this text's walks alone
set_option linter.unusedVariables false
set_option linter.unusedSimpArgs false

theorem info5 : (Tryd.prog.info? 5).map (fun i => (i.zero, i.size, i.bytes)) = some (some (.int .u8 0), 1, 1) := by kernel_rfl
-- the values' own types
/-! #### struct type 27 -/
structure S27 where
 f0 : Bool
 f1 : Bool
 f2 : Bool
 f3 : (List Int)
 f4 : ByteArray
 f5 : Int
def z27 : S27 := ⟨false, false, false, ([] : List Int), (⟨#[]⟩ : ByteArray), (0 : Int)⟩
def k27 : Kd S27 := Kd.iso (Kd.pair Kd.bool (Kd.pair Kd.bool (Kd.pair Kd.bool (Kd.pair (Kd.slice 5 (Kd.int .u8)) (Kd.pair Kd.string (Kd.int .u64)))))) (fun x : S27 => (x.f0, x.f1, x.f2, x.f3, x.f4, x.f5))
theorem k27_heap : Kd.Heap k27 := Kd.heap_iso _ (Kd.heap_pair Kd.heap_bool (Kd.heap_pair Kd.heap_bool (Kd.heap_pair Kd.heap_bool (Kd.heap_pair (Kd.heap_slice 5 (Kd.heap_int .u8)) (Kd.heap_pair Kd.heap_string (Kd.heap_int .u64))))))
theorem k27_open {w : World} {x : S27} {cs : List Value} (h : k27.K w x cs) : ∃ A3 c3, cs = [.bool x.f0, .bool x.f1, .bool x.f2, .slice A3 x.f3.length c3, .string x.f4, .int .u64 x.f5] ∧ x.f3.length ≤ c3 ∧ (Kd.int .u8).C w A3 x.f3.length x.f3 := by
 obtain ⟨_, _, rfl, rfl, ⟨_, _, rfl, rfl, ⟨_, _, rfl, rfl, ⟨_, _, rfl, ⟨A3, c3, rfl, l3, g3⟩, ⟨_, _, rfl, rfl, rfl⟩⟩⟩⟩⟩ := h
 exact ⟨A3, c3, rfl, l3, g3⟩
theorem k27_mk (w : World) (x : S27) {A3 : Option Addr} {c3 : Nat} (l3 : x.f3.length ≤ c3) (g3 : (Kd.int .u8).C w A3 x.f3.length x.f3) : k27.K w x [.bool x.f0, .bool x.f1, .bool x.f2, .slice A3 x.f3.length c3, .string x.f4, .int .u64 x.f5] := ⟨[.bool x.f0], [.bool x.f1, .bool x.f2, .slice A3 x.f3.length c3, .string x.f4, .int .u64 x.f5], rfl, rfl, ⟨[.bool x.f1], [.bool x.f2, .slice A3 x.f3.length c3, .string x.f4, .int .u64 x.f5], rfl, rfl, ⟨[.bool x.f2], [.slice A3 x.f3.length c3, .string x.f4, .int .u64 x.f5], rfl, rfl, ⟨[.slice A3 x.f3.length c3], [.string x.f4, .int .u64 x.f5], rfl, ⟨A3, c3, rfl, l3, g3⟩, ⟨[.string x.f4], [.int .u64 x.f5], rfl, rfl, rfl⟩⟩⟩⟩⟩
theorem k27_mkM (w : World) (base : Nat) (ok : Nat → Prop) (x : S27) {v3 : Value} (g3 : (Kd.int .u8).R 5 w base ok v3 x.f3) : k27.M w base ok x [.bool x.f0, .bool x.f1, .bool x.f2, v3, .string x.f4, .int .u64 x.f5] := ⟨[.bool x.f0], [.bool x.f1, .bool x.f2, v3, .string x.f4, .int .u64 x.f5], rfl, rfl, ⟨[.bool x.f1], [.bool x.f2, v3, .string x.f4, .int .u64 x.f5], rfl, rfl, ⟨[.bool x.f2], [v3, .string x.f4, .int .u64 x.f5], rfl, rfl, ⟨[v3], [.string x.f4, .int .u64 x.f5], rfl, ⟨v3, rfl, g3⟩, ⟨[.string x.f4], [.int .u64 x.f5], rfl, rfl, rfl⟩⟩⟩⟩⟩
def rd_T27 (xs : List S27) (i : Int) : S27 := xs.getD i.toNat z27
theorem at_T27 {w : World} {A : Option Addr} {n : Nat} {xs : List S27} (h : Kd.C k27 w A n xs) (i : Int) (h0 : 0 ≤ i) (h1 : i < n) : ∃ ad A3 c3, A = some ad ∧ w.cell? (ad.add (i.toNat * 6)) = some (.bool (rd_T27 xs i).f0) ∧ w.cell? ⟨(ad.add (i.toNat * 6)).block, (ad.add (i.toNat * 6)).off + 1, none⟩ = some (.bool (rd_T27 xs i).f1) ∧ w.cell? ⟨(ad.add (i.toNat * 6)).block, (ad.add (i.toNat * 6)).off + 2, none⟩ = some (.bool (rd_T27 xs i).f2) ∧ w.cell? ⟨(ad.add (i.toNat * 6)).block, (ad.add (i.toNat * 6)).off + 3, none⟩ = some (.slice A3 (rd_T27 xs i).f3.length c3) ∧ w.cell? ⟨(ad.add (i.toNat * 6)).block, (ad.add (i.toNat * 6)).off + 4, none⟩ = some (.string (rd_T27 xs i).f4) ∧ w.cell? ⟨(ad.add (i.toNat * 6)).block, (ad.add (i.toNat * 6)).off + 5, none⟩ = some (.int .u64 (rd_T27 xs i).f5) ∧ (rd_T27 xs i).f3.length ≤ c3 ∧ (Kd.int .u8).C w A3 (rd_T27 xs i).f3.length (rd_T27 xs i).f3 := by
 obtain ⟨ad, c, e, _, hK, hc0⟩ := Kd.C_get h z27 i h0 h1
 have hc : ∀ j u, c[j]? = some u → w.cell? (ad.add (i.toNat * 6 + j)) = some u := hc0
 obtain ⟨A3, c3, rfl, l3, g3⟩ := k27_open hK
 exact ⟨ad, A3, c3, e, hc 0 _ rfl, by rw [← add_field _ _ 1 (by omega)]; exact hc 1 _ rfl, by rw [← add_field _ _ 2 (by omega)]; exact hc 2 _ rfl, by rw [← add_field _ _ 3 (by omega)]; exact hc 3 _ rfl, by rw [← add_field _ _ 4 (by omega)]; exact hc 4 _ rfl, by rw [← add_field _ _ 5 (by omega)]; exact hc 5 _ rfl, l3, g3⟩

end Go.Proofs.YtnhnlodmkbiiiaaDoor.PPbJoin
