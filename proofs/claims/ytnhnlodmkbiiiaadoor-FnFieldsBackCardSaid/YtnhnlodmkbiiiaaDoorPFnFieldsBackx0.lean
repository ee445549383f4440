/- Printed by a program of this session (it drives the print of the kit, with contracts proved by hand beside): the Go functions of one law as Lean functions, and that the Go code comes to what they say. -/
import Derived.Test.YtnhnlodmkbiiiaaDoorProg
import Derived.Test.YtnhnlodmkbiiiaaDoorShelf
import Derived.WalkSpells
import Derived.WalkLawsBesides
import Derived.Below
import Derived.Deep.Draws
import Derived.Deep.AppendLies
import Derived.Maps.AppendAt
import Derived.OwnWalk
import Derived.Laws.BytesArg
import Derived.Laws.MakeOwn
import Derived.Laws.OwnMore
import Derived.Deep.OwnRows
import Derived.Tactics
import Derived.Lib.ConvBytes
import Derived.Laws.Slices
import Derived.WalkKit
import Derived.KernelRfl
import Derived.RowKit3
import Derived.Deep.LoopGhost
import Derived.Deep.QuietTactic
import Derived.BigQuiet
import Derived.WideLaws
import Derived.Deep.DeepCutAuto
import Derived.Deep.CutBlock
import Derived.Deep.RegionHeld3
import Derived.Laws.Rows
import Derived.Lib.AppendStr
import Derived.ArgAppend
import Derived.Laws.IdiomCopy
import Derived.OrdersHeld
import Derived.Laws.BitsLemmas
import Derived.RowKit
import Derived.Test.YtnhnlodmkbiiiaaDoorLOwn
import Derived.Test.YtnhnlodmkbiiiaaDoorLOwn2
import Derived.Test.YtnhnlodmkbiiiaaDoorN3
import Derived.Test.YtnhnlodmkbiiiaaDoorWWords
import Derived.Test.YtnhnlodmkbiiiaaDoorWLast
import Derived.Test.YtnhnlodmkbiiiaaDoorWTab
import Derived.Test.YtnhnlodmkbiiiaaDoorWFour
import Derived.Test.YtnhnlodmkbiiiaaDoorWQPut
import Derived.Test.YtnhnlodmkbiiiaaDoorWApart
import Derived.Test.YtnhnlodmkbiiiaaDoorWArr
import Derived.Test.YtnhnlodmkbiiiaaDoorWZeros
import Derived.Test.YtnhnlodmkbiiiaaDoorWFoot
import Derived.Test.YtnhnlodmkbiiiaaDoorWKept
import Derived.Test.YtnhnlodmkbiiiaaDoorWShare
import Derived.Test.YtnhnlodmkbiiiaaDoorWN
import Derived.Test.YtnhnlodmkbiiiaaDoorWFootNe
import Derived.Test.YtnhnlodmkbiiiaaDoorWAt
import Derived.Test.YtnhnlodmkbiiiaaDoorWEqStruct
import Derived.Test.YtnhnlodmkbiiiaaDoorWRepsOne
import Derived.Test.YtnhnlodmkbiiiaaDoorWInv
import Derived.Test.YtnhnlodmkbiiiaaDoorWInvWords
import Derived.Test.YtnhnlodmkbiiiaaDoorWGuard
import Derived.Test.YtnhnlodmkbiiiaaDoorWNEv
import Derived.Test.YtnhnlodmkbiiiaaDoorWMore
namespace Go.Proofs.YtnhnlodmkbiiiaaDoor.PFnFieldsBack
open Go.RowKit Go.Proofs.YtnhnlodmkbiiiaaDoorL Go.Proofs.YtnhnlodmkbiiiaaDoorW.PrintWords Go.Proofs.YtnhnlodmkbiiiaaDoorW.PrintLast Go.Proofs.YtnhnlodmkbiiiaaDoorW.PrintMore
attribute [local go_sem] max2_int min2_int max_two min_two max_three min_three max_four min_four   -- for this text's walks alone
set_option linter.unusedVariables false
set_option linter.unusedSimpArgs false



def errV : Option Int → TypeId → Value → Value
  | none, _, _ => .nilIface
  | some _, T, x => .iface T x
theorem errV_none (T : TypeId) (x : Value) : errV none T x = .nilIface := rfl
theorem errV_some (c : Int) (T : TypeId) (x : Value) : errV (some c) T x = .iface T x := rfl
def errW : Option Int → Value
  | none => .nilIface
  | some c => .iface 0 (.int .i64 c)
theorem errW_none : errW none = .nilIface := rfl
theorem errW_some (c : Int) : errW (some c) = .iface 0 (.int .i64 c) := rfl

theorem info5 : (Tryd.prog.info? 5).map (fun i => (i.zero, i.size, i.bytes)) = some (some (.int .u8 0), 1, 1) := by kernel_rfl
-- the values' own types
def rd_L1 (xs : List (List Int)) (i : Int) : (List Int) := xs.getD i.toNat ([] : List Int)
theorem at_L1 {w : World} {A : Option Addr} {n : Nat} {xs : List (List Int)} (h : Kd.C (Kd.slice 5 (Kd.int .u8)) w A n xs) (i : Int) (h0 : 0 ≤ i) (h1 : i < n) : ∃ ad A0 c0, A = some ad ∧ w.cell? (ad.add i.toNat) = some (.slice A0 (rd_L1 xs i).length c0) ∧ (rd_L1 xs i).length ≤ c0 ∧ (Kd.int .u8).C w A0 (rd_L1 xs i).length (rd_L1 xs i) := by
  obtain ⟨ad, c, e, _, hK, hc0⟩ := Kd.C_get h ([] : List Int) i h0 h1
  have hc : ∀ j u, c[j]? = some u → w.cell? (ad.add (i.toNat * 1 + j)) = some u := hc0
  obtain ⟨A0, c0, rfl, l0, g0⟩ := hK
  exact ⟨ad, A0, c0, e, by have hq := hc 0 _ rfl; rwa [Nat.mul_one, Nat.add_zero] at hq, l0, g0⟩

def rd_L6 (xs : List (List Int)) (i : Int) : (List Int) := xs.getD i.toNat ([] : List Int)
theorem at_L6 {w : World} {A : Option Addr} {n : Nat} {xs : List (List Int)} (h : Kd.C (Kd.slice 24 (Kd.int .u64)) w A n xs) (i : Int) (h0 : 0 ≤ i) (h1 : i < n) : ∃ ad A0 c0, A = some ad ∧ w.cell? (ad.add i.toNat) = some (.slice A0 (rd_L6 xs i).length c0) ∧ (rd_L6 xs i).length ≤ c0 ∧ (Kd.int .u64).C w A0 (rd_L6 xs i).length (rd_L6 xs i) := by
  obtain ⟨ad, c, e, _, hK, hc0⟩ := Kd.C_get h ([] : List Int) i h0 h1
  have hc : ∀ j u, c[j]? = some u → w.cell? (ad.add (i.toNat * 1 + j)) = some u := hc0
  obtain ⟨A0, c0, rfl, l0, g0⟩ := hK
  exact ⟨ad, A0, c0, e, by have hq := hc 0 _ rfl; rwa [Nat.mul_one, Nat.add_zero] at hq, l0, g0⟩

/-! #### struct type 56 -/
structure S56 where
  f0 : Int
  f1 : (List Int)
  f2 : Int
  f3 : (List Int)
  f4 : Int
  f5 : Int
def z56 : S56 := ⟨(0 : Int), ([] : List Int), (0 : Int), ([] : List Int), (0 : Int), (0 : Int)⟩
def k56 : Kd S56 := Kd.iso (Kd.pair (Kd.int .i64) (Kd.pair (Kd.slice 5 (Kd.int .u8)) (Kd.pair (Kd.int .u64) (Kd.pair (Kd.slice 24 (Kd.int .u64)) (Kd.pair (Kd.int .u64) (Kd.int .u64)))))) (fun x : S56 => (x.f0, x.f1, x.f2, x.f3, x.f4, x.f5))
theorem k56_heap : Kd.Heap k56 := Kd.heap_iso _ (Kd.heap_pair (Kd.heap_int .i64) (Kd.heap_pair (Kd.heap_slice 5 (Kd.heap_int .u8)) (Kd.heap_pair (Kd.heap_int .u64) (Kd.heap_pair (Kd.heap_slice 24 (Kd.heap_int .u64)) (Kd.heap_pair (Kd.heap_int .u64) (Kd.heap_int .u64))))))
theorem k56_open {w : World} {x : S56} {cs : List Value} (h : k56.K w x cs) : ∃ A1 c1 A3 c3, cs = [.int .i64 x.f0, .slice A1 x.f1.length c1, .int .u64 x.f2, .slice A3 x.f3.length c3, .int .u64 x.f4, .int .u64 x.f5] ∧ x.f1.length ≤ c1 ∧ (Kd.int .u8).C w A1 x.f1.length x.f1 ∧ x.f3.length ≤ c3 ∧ (Kd.int .u64).C w A3 x.f3.length x.f3 := by
  obtain ⟨_, _, rfl, rfl, ⟨_, _, rfl, ⟨A1, c1, rfl, l1, g1⟩, ⟨_, _, rfl, rfl, ⟨_, _, rfl, ⟨A3, c3, rfl, l3, g3⟩, ⟨_, _, rfl, rfl, rfl⟩⟩⟩⟩⟩ := h
  exact ⟨A1, c1, A3, c3, rfl, l1, g1, l3, g3⟩
theorem k56_openM {w : World} {base : Nat} {ok : Nat → Prop} {x : S56} {cs : List Value} (h : k56.M w base ok x cs) : ∃ v1 v3, cs = [.int .i64 x.f0, v1, .int .u64 x.f2, v3, .int .u64 x.f4, .int .u64 x.f5] ∧ (Kd.int .u8).R 5 w base ok v1 x.f1 ∧ (Kd.int .u64).R 24 w base ok v3 x.f3 := by
  obtain ⟨_, _, rfl, rfl, ⟨_, _, rfl, ⟨v1, rfl, g1⟩, ⟨_, _, rfl, rfl, ⟨_, _, rfl, ⟨v3, rfl, g3⟩, ⟨_, _, rfl, rfl, rfl⟩⟩⟩⟩⟩ := h
  exact ⟨v1, v3, rfl, g1, g3⟩
theorem k56_mk (w : World) (x : S56) {A1 : Option Addr} {c1 : Nat} (l1 : x.f1.length ≤ c1) (g1 : (Kd.int .u8).C w A1 x.f1.length x.f1) {A3 : Option Addr} {c3 : Nat} (l3 : x.f3.length ≤ c3) (g3 : (Kd.int .u64).C w A3 x.f3.length x.f3) : k56.K w x [.int .i64 x.f0, .slice A1 x.f1.length c1, .int .u64 x.f2, .slice A3 x.f3.length c3, .int .u64 x.f4, .int .u64 x.f5] := ⟨[.int .i64 x.f0], [.slice A1 x.f1.length c1, .int .u64 x.f2, .slice A3 x.f3.length c3, .int .u64 x.f4, .int .u64 x.f5], rfl, rfl, ⟨[.slice A1 x.f1.length c1], [.int .u64 x.f2, .slice A3 x.f3.length c3, .int .u64 x.f4, .int .u64 x.f5], rfl, ⟨A1, c1, rfl, l1, g1⟩, ⟨[.int .u64 x.f2], [.slice A3 x.f3.length c3, .int .u64 x.f4, .int .u64 x.f5], rfl, rfl, ⟨[.slice A3 x.f3.length c3], [.int .u64 x.f4, .int .u64 x.f5], rfl, ⟨A3, c3, rfl, l3, g3⟩, ⟨[.int .u64 x.f4], [.int .u64 x.f5], rfl, rfl, rfl⟩⟩⟩⟩⟩
theorem k56_mkM (w : World) (base : Nat) (ok : Nat → Prop) (x : S56) {v1 : Value} (g1 : (Kd.int .u8).R 5 w base ok v1 x.f1) {v3 : Value} (g3 : (Kd.int .u64).R 24 w base ok v3 x.f3) : k56.M w base ok x [.int .i64 x.f0, v1, .int .u64 x.f2, v3, .int .u64 x.f4, .int .u64 x.f5] := ⟨[.int .i64 x.f0], [v1, .int .u64 x.f2, v3, .int .u64 x.f4, .int .u64 x.f5], rfl, rfl, ⟨[v1], [.int .u64 x.f2, v3, .int .u64 x.f4, .int .u64 x.f5], rfl, ⟨v1, rfl, g1⟩, ⟨[.int .u64 x.f2], [v3, .int .u64 x.f4, .int .u64 x.f5], rfl, rfl, ⟨[v3], [.int .u64 x.f4, .int .u64 x.f5], rfl, ⟨v3, rfl, g3⟩, ⟨[.int .u64 x.f4], [.int .u64 x.f5], rfl, rfl, rfl⟩⟩⟩⟩⟩
theorem k56_openF {W : World} {ok : Nat → Prop} {x : S56} {cs : List Value} (h : Kd.FK k56 W ok x cs) : ∃ A1 c1 A3 c3, cs = [.int .i64 x.f0, .slice A1 x.f1.length c1, .int .u64 x.f2, .slice A3 x.f3.length c3, .int .u64 x.f4, .int .u64 x.f5] ∧ x.f1.length ≤ c1 ∧ Kd.F (Kd.int .u8) W ok A1 x.f1.length x.f1 ∧ x.f3.length ≤ c3 ∧ Kd.F (Kd.int .u64) W ok A3 x.f3.length x.f3 := by
  obtain ⟨A1, c1, A3, c3, rfl, l1, _, l3, _⟩ := k56_open (Kd.FK_now h)
  exact ⟨A1, c1, A3, c3, rfl, l1, (fun W' hW => by obtain ⟨A1_, c1_, A3_, c3_, he, l1_, g1_, l3_, g3_⟩ := k56_open (h W' hW); injection (Option.some.inj (show some (Value.slice A1 x.f1.length c1) = some (Value.slice A1_ x.f1.length c1_) from congrArg (fun l => l[1]?) he)) with ha_ _ _; rw [ha_]; exact g1_), l3, (fun W' hW => by obtain ⟨A1_, c1_, A3_, c3_, he, l1_, g1_, l3_, g3_⟩ := k56_open (h W' hW); injection (Option.some.inj (show some (Value.slice A3 x.f3.length c3) = some (Value.slice A3_ x.f3.length c3_) from congrArg (fun l => l[3]?) he)) with ha_ _ _; rw [ha_]; exact g3_)⟩
theorem k56_mkF (W : World) (ok : Nat → Prop) (x : S56) {A1 : Option Addr} {c1 : Nat} (l1 : x.f1.length ≤ c1) (g1 : Kd.F (Kd.int .u8) W ok A1 x.f1.length x.f1) {A3 : Option Addr} {c3 : Nat} (l3 : x.f3.length ≤ c3) (g3 : Kd.F (Kd.int .u64) W ok A3 x.f3.length x.f3) : Kd.FK k56 W ok x [.int .i64 x.f0, .slice A1 x.f1.length c1, .int .u64 x.f2, .slice A3 x.f3.length c3, .int .u64 x.f4, .int .u64 x.f5] := fun W2 hW => k56_mk W2 x l1 (g1 W2 hW) l3 (g3 W2 hW)
def rd_T56 (xs : List S56) (i : Int) : S56 := xs.getD i.toNat z56
theorem at_T56 {w : World} {A : Option Addr} {n : Nat} {xs : List S56} (h : Kd.C k56 w A n xs) (i : Int) (h0 : 0 ≤ i) (h1 : i < n) : ∃ ad A1 c1 A3 c3, A = some ad ∧ w.cell? (ad.add (i.toNat * 6)) = some (.int .i64 (rd_T56 xs i).f0) ∧ w.cell? ⟨(ad.add (i.toNat * 6)).block, (ad.add (i.toNat * 6)).off + 1, none⟩ = some (.slice A1 (rd_T56 xs i).f1.length c1) ∧ w.cell? ⟨(ad.add (i.toNat * 6)).block, (ad.add (i.toNat * 6)).off + 2, none⟩ = some (.int .u64 (rd_T56 xs i).f2) ∧ w.cell? ⟨(ad.add (i.toNat * 6)).block, (ad.add (i.toNat * 6)).off + 3, none⟩ = some (.slice A3 (rd_T56 xs i).f3.length c3) ∧ w.cell? ⟨(ad.add (i.toNat * 6)).block, (ad.add (i.toNat * 6)).off + 4, none⟩ = some (.int .u64 (rd_T56 xs i).f4) ∧ w.cell? ⟨(ad.add (i.toNat * 6)).block, (ad.add (i.toNat * 6)).off + 5, none⟩ = some (.int .u64 (rd_T56 xs i).f5) ∧ (rd_T56 xs i).f1.length ≤ c1 ∧ (Kd.int .u8).C w A1 (rd_T56 xs i).f1.length (rd_T56 xs i).f1 ∧ (rd_T56 xs i).f3.length ≤ c3 ∧ (Kd.int .u64).C w A3 (rd_T56 xs i).f3.length (rd_T56 xs i).f3 := by
  obtain ⟨ad, c, e, _, hK, hc0⟩ := Kd.C_get h z56 i h0 h1
  have hc : ∀ j u, c[j]? = some u → w.cell? (ad.add (i.toNat * 6 + j)) = some u := hc0
  obtain ⟨A1, c1, A3, c3, rfl, l1, g1, l3, g3⟩ := k56_open hK
  exact ⟨ad, A1, c1, A3, c3, e, hc 0 _ rfl, by rw [← add_field _ _ 1 (by omega)]; exact hc 1 _ rfl, by rw [← add_field _ _ 2 (by omega)]; exact hc 2 _ rfl, by rw [← add_field _ _ 3 (by omega)]; exact hc 3 _ rfl, by rw [← add_field _ _ 4 (by omega)]; exact hc 4 _ rfl, by rw [← add_field _ _ 5 (by omega)]; exact hc 5 _ rfl, l1, g1, l3, g3⟩

end Go.Proofs.YtnhnlodmkbiiiaaDoor.PFnFieldsBack
