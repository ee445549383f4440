/- Printed by a program of this session (it drives the print of the kit, with contracts proved by hand beside): the Go functions of one law as Lean functions, and that the Go code comes to what they say. -/
import Derived.Test.YtnhnlodmkbiiiaaDoorProg
import Derived.WalkSpells
import Derived.WalkLawsBesides
import Derived.Below
import Derived.Deep.Draws
import Derived.Deep.AppendLies
import Derived.Maps.AppendAt
import Derived.OwnWalk
import Derived.Laws.BytesArg
import Derived.Laws.MakeOwn
import Derived.Laws.OwnMore
import Derived.Deep.OwnRows
import Derived.Tactics
import Derived.Lib.ConvBytes
import Derived.Laws.Slices
import Derived.WalkKit
import Derived.KernelRfl
import Derived.RowKit3
import Derived.Deep.LoopGhost
import Derived.Deep.QuietTactic
import Derived.BigQuiet
import Derived.WideLaws
import Derived.Deep.DeepCutAuto
import Derived.Deep.CutBlock
import Derived.Deep.RegionHeld3
import Derived.Laws.Rows
import Derived.Lib.AppendStr
import Derived.ArgAppend
import Derived.Laws.IdiomCopy
import Derived.OrdersHeld
import Derived.Laws.BitsLemmas
import Derived.RowKit
import Derived.Test.YtnhnlodmkbiiiaaDoorLOwn
import Derived.Test.YtnhnlodmkbiiiaaDoorLOwn2
import Derived.Test.YtnhnlodmkbiiiaaDoorWWords
import Derived.Test.YtnhnlodmkbiiiaaDoorWLast
import Derived.Test.YtnhnlodmkbiiiaaDoorWTab
import Derived.Test.YtnhnlodmkbiiiaaDoorWQPut
import Derived.Test.YtnhnlodmkbiiiaaDoorWApart
import Derived.Test.YtnhnlodmkbiiiaaDoorWArr
import Derived.Test.YtnhnlodmkbiiiaaDoorWZeros
import Derived.Test.YtnhnlodmkbiiiaaDoorWFoot
import Derived.Test.YtnhnlodmkbiiiaaDoorWKept
import Derived.Test.YtnhnlodmkbiiiaaDoorWShare
import Derived.Test.YtnhnlodmkbiiiaaDoorWN
import Derived.Test.YtnhnlodmkbiiiaaDoorWFootNe
import Derived.Test.YtnhnlodmkbiiiaaDoorWRepsOne
import Derived.Test.YtnhnlodmkbiiiaaDoorWNEv
import Derived.Test.YtnhnlodmkbiiiaaDoorWMore
namespace Go.Proofs.YtnhnlodmkbiiiaaDoor.PDif
open Go.RowKit Go.Proofs.YtnhnlodmkbiiiaaDoorL Go.Proofs.YtnhnlodmkbiiiaaDoorW.PrintWords Go.Proofs.YtnhnlodmkbiiiaaDoorW.PrintLast Go.Proofs.YtnhnlodmkbiiiaaDoorW.PrintMore
attribute [local go_sem] max2_int min2_int max_two min_two max_three min_three max_four min_four   -- for this text's walks alone
set_option linter.unusedVariables false
set_option linter.unusedSimpArgs false



def errV : Option Int → TypeId → Value → Value
  | none, _, _ => .nilIface
  | some _, T, x => .iface T x
theorem errV_none (T : TypeId) (x : Value) : errV none T x = .nilIface := rfl
theorem errV_some (c : Int) (T : TypeId) (x : Value) : errV (some c) T x = .iface T x := rfl
def errW : Option Int → Value
  | none => .nilIface
  | some c => .iface 0 (.int .i64 c)
theorem errW_none : errW none = .nilIface := rfl
theorem errW_some (c : Int) : errW (some c) = .iface 0 (.int .i64 c) := rfl

theorem info5 : (Tryd.prog.info? 5).map (fun i => (i.zero, i.size, i.bytes)) = some (some (.int .u8 0), 1, 1) := by kernel_rfl
-- the values' own types
def rd_L3 (xs : List (List Int)) (i : Int) : (List Int) := xs.getD i.toNat ([] : List Int)
theorem at_L3 {w : World} {A : Option Addr} {n : Nat} {xs : List (List Int)} (h : Kd.C (Kd.slice 5 (Kd.int .u8)) w A n xs) (i : Int) (h0 : 0 ≤ i) (h1 : i < n) : ∃ ad A0 c0, A = some ad ∧ w.cell? (ad.add i.toNat) = some (.slice A0 (rd_L3 xs i).length c0) ∧ (rd_L3 xs i).length ≤ c0 ∧ (Kd.int .u8).C w A0 (rd_L3 xs i).length (rd_L3 xs i) := by
  obtain ⟨ad, c, e, _, hK, hc0⟩ := Kd.C_get h ([] : List Int) i h0 h1
  have hc : ∀ j u, c[j]? = some u → w.cell? (ad.add (i.toNat * 1 + j)) = some u := hc0
  obtain ⟨A0, c0, rfl, l0, g0⟩ := hK
  exact ⟨ad, A0, c0, e, by have hq := hc 0 _ rfl; rwa [Nat.mul_one, Nat.add_zero] at hq, l0, g0⟩

/-! #### struct type 78 -/
structure S78 where
  f0 : Int
  f1 : ByteArray
  f2 : (List Int)
  f3 : (List Int)
def z78 : S78 := ⟨(0 : Int), (⟨#[]⟩ : ByteArray), ([] : List Int), ([] : List Int)⟩
def k78 : Kd S78 := Kd.iso (Kd.pair (Kd.int .i64) (Kd.pair Kd.string (Kd.pair (Kd.slice 5 (Kd.int .u8)) (Kd.slice 5 (Kd.int .u8))))) (fun x : S78 => (x.f0, x.f1, x.f2, x.f3))
theorem k78_heap : Kd.Heap k78 := Kd.heap_iso _ (Kd.heap_pair (Kd.heap_int .i64) (Kd.heap_pair Kd.heap_string (Kd.heap_pair (Kd.heap_slice 5 (Kd.heap_int .u8)) (Kd.heap_slice 5 (Kd.heap_int .u8)))))
theorem k78_open {w : World} {x : S78} {cs : List Value} (h : k78.K w x cs) : ∃ A2 c2 A3 c3, cs = [.int .i64 x.f0, .string x.f1, .slice A2 x.f2.length c2, .slice A3 x.f3.length c3] ∧ x.f2.length ≤ c2 ∧ (Kd.int .u8).C w A2 x.f2.length x.f2 ∧ x.f3.length ≤ c3 ∧ (Kd.int .u8).C w A3 x.f3.length x.f3 := by
  obtain ⟨_, _, rfl, rfl, ⟨_, _, rfl, rfl, ⟨_, _, rfl, ⟨A2, c2, rfl, l2, g2⟩, ⟨A3, c3, rfl, l3, g3⟩⟩⟩⟩ := h
  exact ⟨A2, c2, A3, c3, rfl, l2, g2, l3, g3⟩
theorem k78_openM {w : World} {base : Nat} {ok : Nat → Prop} {x : S78} {cs : List Value} (h : k78.M w base ok x cs) : ∃ v2 v3, cs = [.int .i64 x.f0, .string x.f1, v2, v3] ∧ (Kd.int .u8).R 5 w base ok v2 x.f2 ∧ (Kd.int .u8).R 5 w base ok v3 x.f3 := by
  obtain ⟨_, _, rfl, rfl, ⟨_, _, rfl, rfl, ⟨_, _, rfl, ⟨v2, rfl, g2⟩, ⟨v3, rfl, g3⟩⟩⟩⟩ := h
  exact ⟨v2, v3, rfl, g2, g3⟩
theorem k78_mk (w : World) (x : S78) {A2 : Option Addr} {c2 : Nat} (l2 : x.f2.length ≤ c2) (g2 : (Kd.int .u8).C w A2 x.f2.length x.f2) {A3 : Option Addr} {c3 : Nat} (l3 : x.f3.length ≤ c3) (g3 : (Kd.int .u8).C w A3 x.f3.length x.f3) : k78.K w x [.int .i64 x.f0, .string x.f1, .slice A2 x.f2.length c2, .slice A3 x.f3.length c3] := ⟨[.int .i64 x.f0], [.string x.f1, .slice A2 x.f2.length c2, .slice A3 x.f3.length c3], rfl, rfl, ⟨[.string x.f1], [.slice A2 x.f2.length c2, .slice A3 x.f3.length c3], rfl, rfl, ⟨[.slice A2 x.f2.length c2], [.slice A3 x.f3.length c3], rfl, ⟨A2, c2, rfl, l2, g2⟩, ⟨A3, c3, rfl, l3, g3⟩⟩⟩⟩
theorem k78_mkM (w : World) (base : Nat) (ok : Nat → Prop) (x : S78) {v2 : Value} (g2 : (Kd.int .u8).R 5 w base ok v2 x.f2) {v3 : Value} (g3 : (Kd.int .u8).R 5 w base ok v3 x.f3) : k78.M w base ok x [.int .i64 x.f0, .string x.f1, v2, v3] := ⟨[.int .i64 x.f0], [.string x.f1, v2, v3], rfl, rfl, ⟨[.string x.f1], [v2, v3], rfl, rfl, ⟨[v2], [v3], rfl, ⟨v2, rfl, g2⟩, ⟨v3, rfl, g3⟩⟩⟩⟩
theorem k78_openF {W : World} {ok : Nat → Prop} {x : S78} {cs : List Value} (h : Kd.FK k78 W ok x cs) : ∃ A2 c2 A3 c3, cs = [.int .i64 x.f0, .string x.f1, .slice A2 x.f2.length c2, .slice A3 x.f3.length c3] ∧ x.f2.length ≤ c2 ∧ Kd.F (Kd.int .u8) W ok A2 x.f2.length x.f2 ∧ x.f3.length ≤ c3 ∧ Kd.F (Kd.int .u8) W ok A3 x.f3.length x.f3 := by
  obtain ⟨A2, c2, A3, c3, rfl, l2, _, l3, _⟩ := k78_open (Kd.FK_now h)
  exact ⟨A2, c2, A3, c3, rfl, l2, (fun W' hW => by obtain ⟨A2_, c2_, A3_, c3_, he, l2_, g2_, l3_, g3_⟩ := k78_open (h W' hW); injection (Option.some.inj (show some (Value.slice A2 x.f2.length c2) = some (Value.slice A2_ x.f2.length c2_) from congrArg (fun l => l[2]?) he)) with ha_ _ _; rw [ha_]; exact g2_), l3, (fun W' hW => by obtain ⟨A2_, c2_, A3_, c3_, he, l2_, g2_, l3_, g3_⟩ := k78_open (h W' hW); injection (Option.some.inj (show some (Value.slice A3 x.f3.length c3) = some (Value.slice A3_ x.f3.length c3_) from congrArg (fun l => l[3]?) he)) with ha_ _ _; rw [ha_]; exact g3_)⟩
theorem k78_mkF (W : World) (ok : Nat → Prop) (x : S78) {A2 : Option Addr} {c2 : Nat} (l2 : x.f2.length ≤ c2) (g2 : Kd.F (Kd.int .u8) W ok A2 x.f2.length x.f2) {A3 : Option Addr} {c3 : Nat} (l3 : x.f3.length ≤ c3) (g3 : Kd.F (Kd.int .u8) W ok A3 x.f3.length x.f3) : Kd.FK k78 W ok x [.int .i64 x.f0, .string x.f1, .slice A2 x.f2.length c2, .slice A3 x.f3.length c3] := fun W2 hW => k78_mk W2 x l2 (g2 W2 hW) l3 (g3 W2 hW)
def rd_T78 (xs : List S78) (i : Int) : S78 := xs.getD i.toNat z78
theorem at_T78 {w : World} {A : Option Addr} {n : Nat} {xs : List S78} (h : Kd.C k78 w A n xs) (i : Int) (h0 : 0 ≤ i) (h1 : i < n) : ∃ ad A2 c2 A3 c3, A = some ad ∧ w.cell? (ad.add (i.toNat * 4)) = some (.int .i64 (rd_T78 xs i).f0) ∧ w.cell? ⟨(ad.add (i.toNat * 4)).block, (ad.add (i.toNat * 4)).off + 1, none⟩ = some (.string (rd_T78 xs i).f1) ∧ w.cell? ⟨(ad.add (i.toNat * 4)).block, (ad.add (i.toNat * 4)).off + 2, none⟩ = some (.slice A2 (rd_T78 xs i).f2.length c2) ∧ w.cell? ⟨(ad.add (i.toNat * 4)).block, (ad.add (i.toNat * 4)).off + 3, none⟩ = some (.slice A3 (rd_T78 xs i).f3.length c3) ∧ (rd_T78 xs i).f2.length ≤ c2 ∧ (Kd.int .u8).C w A2 (rd_T78 xs i).f2.length (rd_T78 xs i).f2 ∧ (rd_T78 xs i).f3.length ≤ c3 ∧ (Kd.int .u8).C w A3 (rd_T78 xs i).f3.length (rd_T78 xs i).f3 := by
  obtain ⟨ad, c, e, _, hK, hc0⟩ := Kd.C_get h z78 i h0 h1
  have hc : ∀ j u, c[j]? = some u → w.cell? (ad.add (i.toNat * 4 + j)) = some u := hc0
  obtain ⟨A2, c2, A3, c3, rfl, l2, g2, l3, g3⟩ := k78_open hK
  exact ⟨ad, A2, c2, A3, c3, e, hc 0 _ rfl, by rw [← add_field _ _ 1 (by omega)]; exact hc 1 _ rfl, by rw [← add_field _ _ 2 (by omega)]; exact hc 2 _ rfl, by rw [← add_field _ _ 3 (by omega)]; exact hc 3 _ rfl, l2, g2, l3, g3⟩

def rd_L5 (xs : List (List S78)) (i : Int) : (List S78) := xs.getD i.toNat ([] : List S78)
theorem at_L5 {w : World} {A : Option Addr} {n : Nat} {xs : List (List S78)} (h : Kd.C (Kd.slice 78 k78) w A n xs) (i : Int) (h0 : 0 ≤ i) (h1 : i < n) : ∃ ad A0 c0, A = some ad ∧ w.cell? (ad.add i.toNat) = some (.slice A0 (rd_L5 xs i).length c0) ∧ (rd_L5 xs i).length ≤ c0 ∧ k78.C w A0 (rd_L5 xs i).length (rd_L5 xs i) := by
  obtain ⟨ad, c, e, _, hK, hc0⟩ := Kd.C_get h ([] : List S78) i h0 h1
  have hc : ∀ j u, c[j]? = some u → w.cell? (ad.add (i.toNat * 1 + j)) = some u := hc0
  obtain ⟨A0, c0, rfl, l0, g0⟩ := hK
  exact ⟨ad, A0, c0, e, by have hq := hc 0 _ rfl; rwa [Nat.mul_one, Nat.add_zero] at hq, l0, g0⟩

end Go.Proofs.YtnhnlodmkbiiiaaDoor.PDif
