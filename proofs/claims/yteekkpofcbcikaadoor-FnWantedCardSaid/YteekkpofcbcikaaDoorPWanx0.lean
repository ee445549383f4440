/- Printed by a program of this session (it drives the print of the kit, with contracts proved by hand beside): the Go functions of one law as Lean functions, and that the Go code comes to what they say. -/
import Derived.Test.YteekkpofcbcikaaDoorProg
import Derived.WalkSpells
import Derived.WalkLawsBesides
import Derived.Below
import Derived.Deep.Draws
import Derived.Deep.AppendLies
import Derived.Maps.AppendAt
import Derived.OwnWalk
import Derived.Laws.BytesArg
import Derived.Laws.MakeOwn
import Derived.Laws.OwnMore
import Derived.Deep.OwnRows
import Derived.Tactics
import Derived.Lib.ConvBytes
import Derived.Laws.Slices
import Derived.WalkKit
import Derived.KernelRfl
import Derived.RowKit3
import Derived.Deep.LoopGhost
import Derived.Deep.QuietTactic
import Derived.BigQuiet
import Derived.WideLaws
import Derived.Deep.DeepCutAuto
import Derived.Deep.CutBlock
import Derived.Deep.RegionHeld3
import Derived.Laws.Rows
import Derived.Lib.AppendStr
import Derived.ArgAppend
import Derived.Laws.IdiomCopy
import Derived.OrdersHeld
import Derived.Laws.BitsLemmas
import Derived.RowKit
import Derived.Test.YteekkpofcbcikaaDoorLOwn
import Derived.Test.YteekkpofcbcikaaDoorLOwn2
import Derived.Test.YteekkpofcbcikaaDoorI0
import Derived.Test.YteekkpofcbcikaaDoorWWords
import Derived.Test.YteekkpofcbcikaaDoorWLast
import Derived.Test.YteekkpofcbcikaaDoorWTab
import Derived.Test.YteekkpofcbcikaaDoorWQPut
import Derived.Test.YteekkpofcbcikaaDoorWApart
import Derived.Test.YteekkpofcbcikaaDoorWArr
import Derived.Test.YteekkpofcbcikaaDoorWZeros
import Derived.Test.YteekkpofcbcikaaDoorWFoot
import Derived.Test.YteekkpofcbcikaaDoorWKept
import Derived.Test.YteekkpofcbcikaaDoorWShare
import Derived.Test.YteekkpofcbcikaaDoorWN
import Derived.Test.YteekkpofcbcikaaDoorWFootNe
import Derived.Test.YteekkpofcbcikaaDoorWRepsOne
import Derived.Test.YteekkpofcbcikaaDoorWNEv
import Derived.Test.YteekkpofcbcikaaDoorWMore
namespace Go.Proofs.YteekkpofcbcikaaDoor.PWan
open Go.RowKit Go.Proofs.YteekkpofcbcikaaDoorL Go.Proofs.YteekkpofcbcikaaDoorW.PrintWords Go.Proofs.YteekkpofcbcikaaDoorW.PrintLast Go.Proofs.YteekkpofcbcikaaDoorW.PrintMore
attribute [local go_sem] max2_int min2_int max_two min_two max_three min_three max_four min_four   -- for this text's walks alone
set_option linter.unusedVariables false
set_option linter.unusedSimpArgs false



def errV : Option Int → TypeId → Value → Value
  | none, _, _ => .nilIface
  | some _, T, x => .iface T x
theorem errV_none (T : TypeId) (x : Value) : errV none T x = .nilIface := rfl
theorem errV_some (c : Int) (T : TypeId) (x : Value) : errV (some c) T x = .iface T x := rfl
def errW : Option Int → Value
  | none => .nilIface
  | some c => .iface 0 (.int .i64 c)
theorem errW_none : errW none = .nilIface := rfl
theorem errW_some (c : Int) : errW (some c) = .iface 0 (.int .i64 c) := rfl

theorem info5 : (Tryd.prog.info? 5).map (fun i => (i.zero, i.size, i.bytes)) = some (some (.int .u8 0), 1, 1) := by kernel_rfl
theorem info31 : (Tryd.prog.info? 31).map (fun i => (i.zero, i.size, i.bytes)) = some (some (.agg #[(.int .i64 0), (.slice none 0 0), (.int .i32 0), (.bool false)]), 4, 40) := by kernel_rfl
-- the values' own types
def rd_L1 (xs : List (List Int)) (i : Int) : (List Int) := xs.getD i.toNat ([] : List Int)
theorem at_L1 {w : World} {A : Option Addr} {n : Nat} {xs : List (List Int)} (h : Kd.C (Kd.slice 5 (Kd.int .u8)) w A n xs) (i : Int) (h0 : 0 ≤ i) (h1 : i < n) : ∃ ad A0 c0, A = some ad ∧ w.cell? (ad.add i.toNat) = some (.slice A0 (rd_L1 xs i).length c0) ∧ (rd_L1 xs i).length ≤ c0 ∧ (Kd.int .u8).C w A0 (rd_L1 xs i).length (rd_L1 xs i) := by
  obtain ⟨ad, c, e, _, hK, hc0⟩ := Kd.C_get h ([] : List Int) i h0 h1
  have hc : ∀ j u, c[j]? = some u → w.cell? (ad.add (i.toNat * 1 + j)) = some u := hc0
  obtain ⟨A0, c0, rfl, l0, g0⟩ := hK
  exact ⟨ad, A0, c0, e, by have hq := hc 0 _ rfl; rwa [Nat.mul_one, Nat.add_zero] at hq, l0, g0⟩

def rd_L4 (xs : List (List ByteArray)) (i : Int) : (List ByteArray) := xs.getD i.toNat ([] : List ByteArray)
theorem at_L4 {w : World} {A : Option Addr} {n : Nat} {xs : List (List ByteArray)} (h : Kd.C (Kd.slice 9 Kd.string) w A n xs) (i : Int) (h0 : 0 ≤ i) (h1 : i < n) : ∃ ad A0 c0, A = some ad ∧ w.cell? (ad.add i.toNat) = some (.slice A0 (rd_L4 xs i).length c0) ∧ (rd_L4 xs i).length ≤ c0 ∧ Kd.string.C w A0 (rd_L4 xs i).length (rd_L4 xs i) := by
  obtain ⟨ad, c, e, _, hK, hc0⟩ := Kd.C_get h ([] : List ByteArray) i h0 h1
  have hc : ∀ j u, c[j]? = some u → w.cell? (ad.add (i.toNat * 1 + j)) = some u := hc0
  obtain ⟨A0, c0, rfl, l0, g0⟩ := hK
  exact ⟨ad, A0, c0, e, by have hq := hc 0 _ rfl; rwa [Nat.mul_one, Nat.add_zero] at hq, l0, g0⟩

/-! #### struct type 81 -/
structure S81 where
  f0 : ByteArray
def z81 : S81 := ⟨(⟨#[]⟩ : ByteArray)⟩
def k81 : Kd S81 := Kd.iso Kd.string (fun x : S81 => x.f0)
theorem k81_heap : Kd.Heap k81 := Kd.heap_iso _ Kd.heap_string
theorem k81_open {w : World} {x : S81} {cs : List Value} (h : k81.K w x cs) : cs = [.string x.f0] := by
  obtain rfl := h
  exact rfl
theorem k81_openM {w : World} {base : Nat} {ok : Nat → Prop} {x : S81} {cs : List Value} (h : k81.M w base ok x cs) : cs = [.string x.f0] := by
  obtain rfl := h
  exact rfl
theorem k81_mk (w : World) (x : S81)  : k81.K w x [.string x.f0] := rfl
theorem k81_mkM (w : World) (base : Nat) (ok : Nat → Prop) (x : S81)  : k81.M w base ok x [.string x.f0] := rfl
theorem k81_mkF (W : World) (ok : Nat → Prop) (x : S81) : Kd.FK k81 W ok x [.string x.f0] := fun W2 _ => k81_mk W2 x
def rd_T81 (xs : List S81) (i : Int) : S81 := xs.getD i.toNat z81
theorem at_T81 {w : World} {A : Option Addr} {n : Nat} {xs : List S81} (h : Kd.C k81 w A n xs) (i : Int) (h0 : 0 ≤ i) (h1 : i < n) : ∃ ad , A = some ad ∧ w.cell? (ad.add i.toNat) = some (.string (rd_T81 xs i).f0) := by
  obtain ⟨ad, c, e, _, hK, hc0⟩ := Kd.C_get h z81 i h0 h1
  have hc : ∀ j u, c[j]? = some u → w.cell? (ad.add (i.toNat * 1 + j)) = some u := hc0
  obtain rfl := k81_open hK
  exact ⟨ad, e, by have hq := hc 0 _ rfl; rwa [Nat.mul_one, Nat.add_zero] at hq⟩

/-! #### struct type 27 -/
structure S27 where
  f0 : (List Int)
  f1 : Int
  f2 : Bool
def z27 : S27 := ⟨([] : List Int), (0 : Int), false⟩
def k27 : Kd S27 := Kd.iso (Kd.pair (Kd.slice 5 (Kd.int .u8)) (Kd.pair (Kd.int .i32) Kd.bool)) (fun x : S27 => (x.f0, x.f1, x.f2))
theorem k27_heap : Kd.Heap k27 := Kd.heap_iso _ (Kd.heap_pair (Kd.heap_slice 5 (Kd.heap_int .u8)) (Kd.heap_pair (Kd.heap_int .i32) Kd.heap_bool))
theorem k27_open {w : World} {x : S27} {cs : List Value} (h : k27.K w x cs) : ∃ A0 c0, cs = [.slice A0 x.f0.length c0, .int .i32 x.f1, .bool x.f2] ∧ x.f0.length ≤ c0 ∧ (Kd.int .u8).C w A0 x.f0.length x.f0 := by
  obtain ⟨_, _, rfl, ⟨A0, c0, rfl, l0, g0⟩, ⟨_, _, rfl, rfl, rfl⟩⟩ := h
  exact ⟨A0, c0, rfl, l0, g0⟩
theorem k27_openM {w : World} {base : Nat} {ok : Nat → Prop} {x : S27} {cs : List Value} (h : k27.M w base ok x cs) : ∃ v0, cs = [v0, .int .i32 x.f1, .bool x.f2] ∧ (Kd.int .u8).R 5 w base ok v0 x.f0 := by
  obtain ⟨_, _, rfl, ⟨v0, rfl, g0⟩, ⟨_, _, rfl, rfl, rfl⟩⟩ := h
  exact ⟨v0, rfl, g0⟩
theorem k27_mk (w : World) (x : S27) {A0 : Option Addr} {c0 : Nat} (l0 : x.f0.length ≤ c0) (g0 : (Kd.int .u8).C w A0 x.f0.length x.f0) : k27.K w x [.slice A0 x.f0.length c0, .int .i32 x.f1, .bool x.f2] := ⟨[.slice A0 x.f0.length c0], [.int .i32 x.f1, .bool x.f2], rfl, ⟨A0, c0, rfl, l0, g0⟩, ⟨[.int .i32 x.f1], [.bool x.f2], rfl, rfl, rfl⟩⟩
theorem k27_mkM (w : World) (base : Nat) (ok : Nat → Prop) (x : S27) {v0 : Value} (g0 : (Kd.int .u8).R 5 w base ok v0 x.f0) : k27.M w base ok x [v0, .int .i32 x.f1, .bool x.f2] := ⟨[v0], [.int .i32 x.f1, .bool x.f2], rfl, ⟨v0, rfl, g0⟩, ⟨[.int .i32 x.f1], [.bool x.f2], rfl, rfl, rfl⟩⟩
theorem k27_openF {W : World} {ok : Nat → Prop} {x : S27} {cs : List Value} (h : Kd.FK k27 W ok x cs) : ∃ A0 c0, cs = [.slice A0 x.f0.length c0, .int .i32 x.f1, .bool x.f2] ∧ x.f0.length ≤ c0 ∧ Kd.F (Kd.int .u8) W ok A0 x.f0.length x.f0 := by
  obtain ⟨A0, c0, rfl, l0, _⟩ := k27_open (Kd.FK_now h)
  exact ⟨A0, c0, rfl, l0, (fun W' hW => by obtain ⟨A0_, c0_, he, l0_, g0_⟩ := k27_open (h W' hW); injection (Option.some.inj (show some (Value.slice A0 x.f0.length c0) = some (Value.slice A0_ x.f0.length c0_) from congrArg (fun l => l[0]?) he)) with ha_ _ _; rw [ha_]; exact g0_)⟩
theorem k27_mkF (W : World) (ok : Nat → Prop) (x : S27) {A0 : Option Addr} {c0 : Nat} (l0 : x.f0.length ≤ c0) (g0 : Kd.F (Kd.int .u8) W ok A0 x.f0.length x.f0) : Kd.FK k27 W ok x [.slice A0 x.f0.length c0, .int .i32 x.f1, .bool x.f2] := fun W2 hW => k27_mk W2 x l0 (g0 W2 hW)
def rd_T27 (xs : List S27) (i : Int) : S27 := xs.getD i.toNat z27
theorem at_T27 {w : World} {A : Option Addr} {n : Nat} {xs : List S27} (h : Kd.C k27 w A n xs) (i : Int) (h0 : 0 ≤ i) (h1 : i < n) : ∃ ad A0 c0, A = some ad ∧ w.cell? (ad.add (i.toNat * 3)) = some (.slice A0 (rd_T27 xs i).f0.length c0) ∧ w.cell? ⟨(ad.add (i.toNat * 3)).block, (ad.add (i.toNat * 3)).off + 1, none⟩ = some (.int .i32 (rd_T27 xs i).f1) ∧ w.cell? ⟨(ad.add (i.toNat * 3)).block, (ad.add (i.toNat * 3)).off + 2, none⟩ = some (.bool (rd_T27 xs i).f2) ∧ (rd_T27 xs i).f0.length ≤ c0 ∧ (Kd.int .u8).C w A0 (rd_T27 xs i).f0.length (rd_T27 xs i).f0 := by
  obtain ⟨ad, c, e, _, hK, hc0⟩ := Kd.C_get h z27 i h0 h1
  have hc : ∀ j u, c[j]? = some u → w.cell? (ad.add (i.toNat * 3 + j)) = some u := hc0
  obtain ⟨A0, c0, rfl, l0, g0⟩ := k27_open hK
  exact ⟨ad, A0, c0, e, hc 0 _ rfl, by rw [← add_field _ _ 1 (by omega)]; exact hc 1 _ rfl, by rw [← add_field _ _ 2 (by omega)]; exact hc 2 _ rfl, l0, g0⟩

/-! #### struct type 31 -/
structure S31 where
  f0 : Int
  f1 : S27
def z31 : S31 := ⟨(0 : Int), z27⟩
def k31 : Kd S31 := Kd.iso (Kd.pair (Kd.int .i64) k27) (fun x : S31 => (x.f0, x.f1))
theorem k31_heap : Kd.Heap k31 := Kd.heap_iso _ (Kd.heap_pair (Kd.heap_int .i64) k27_heap)
theorem k31_open {w : World} {x : S31} {cs : List Value} (h : k31.K w x cs) : ∃ A1 c1, cs = [.int .i64 x.f0, .slice A1 x.f1.f0.length c1, .int .i32 x.f1.f1, .bool x.f1.f2] ∧ x.f1.f0.length ≤ c1 ∧ (Kd.int .u8).C w A1 x.f1.f0.length x.f1.f0 := by
  obtain ⟨_, _, rfl, rfl, s1⟩ := h
  obtain ⟨A1, c1, rfl, l1, g1⟩ := k27_open s1
  exact ⟨A1, c1, rfl, l1, g1⟩
theorem k31_openM {w : World} {base : Nat} {ok : Nat → Prop} {x : S31} {cs : List Value} (h : k31.M w base ok x cs) : ∃ v1, cs = [.int .i64 x.f0, v1, .int .i32 x.f1.f1, .bool x.f1.f2] ∧ (Kd.int .u8).R 5 w base ok v1 x.f1.f0 := by
  obtain ⟨_, _, rfl, rfl, s1⟩ := h
  obtain ⟨v1, rfl, g1⟩ := k27_openM s1
  exact ⟨v1, rfl, g1⟩
theorem k31_mk (w : World) (x : S31) {A1 : Option Addr} {c1 : Nat} (l1 : x.f1.f0.length ≤ c1) (g1 : (Kd.int .u8).C w A1 x.f1.f0.length x.f1.f0) : k31.K w x [.int .i64 x.f0, .slice A1 x.f1.f0.length c1, .int .i32 x.f1.f1, .bool x.f1.f2] := ⟨[.int .i64 x.f0], [.slice A1 x.f1.f0.length c1, .int .i32 x.f1.f1, .bool x.f1.f2], rfl, rfl, (k27_mk w x.f1 l1 g1)⟩
theorem k31_mkM (w : World) (base : Nat) (ok : Nat → Prop) (x : S31) {v1 : Value} (g1 : (Kd.int .u8).R 5 w base ok v1 x.f1.f0) : k31.M w base ok x [.int .i64 x.f0, v1, .int .i32 x.f1.f1, .bool x.f1.f2] := ⟨[.int .i64 x.f0], [v1, .int .i32 x.f1.f1, .bool x.f1.f2], rfl, rfl, (k27_mkM w base ok x.f1 g1)⟩
theorem k31_openF {W : World} {ok : Nat → Prop} {x : S31} {cs : List Value} (h : Kd.FK k31 W ok x cs) : ∃ A1 c1, cs = [.int .i64 x.f0, .slice A1 x.f1.f0.length c1, .int .i32 x.f1.f1, .bool x.f1.f2] ∧ x.f1.f0.length ≤ c1 ∧ Kd.F (Kd.int .u8) W ok A1 x.f1.f0.length x.f1.f0 := by
  obtain ⟨A1, c1, rfl, l1, _⟩ := k31_open (Kd.FK_now h)
  exact ⟨A1, c1, rfl, l1, (fun W' hW => by obtain ⟨A1_, c1_, he, l1_, g1_⟩ := k31_open (h W' hW); injection (Option.some.inj (show some (Value.slice A1 x.f1.f0.length c1) = some (Value.slice A1_ x.f1.f0.length c1_) from congrArg (fun l => l[1]?) he)) with ha_ _ _; rw [ha_]; exact g1_)⟩
theorem k31_mkF (W : World) (ok : Nat → Prop) (x : S31) {A1 : Option Addr} {c1 : Nat} (l1 : x.f1.f0.length ≤ c1) (g1 : Kd.F (Kd.int .u8) W ok A1 x.f1.f0.length x.f1.f0) : Kd.FK k31 W ok x [.int .i64 x.f0, .slice A1 x.f1.f0.length c1, .int .i32 x.f1.f1, .bool x.f1.f2] := fun W2 hW => k31_mk W2 x l1 (g1 W2 hW)
def rd_T31 (xs : List S31) (i : Int) : S31 := xs.getD i.toNat z31
theorem at_T31 {w : World} {A : Option Addr} {n : Nat} {xs : List S31} (h : Kd.C k31 w A n xs) (i : Int) (h0 : 0 ≤ i) (h1 : i < n) : ∃ ad A1 c1, A = some ad ∧ w.cell? (ad.add (i.toNat * 4)) = some (.int .i64 (rd_T31 xs i).f0) ∧ w.cell? ⟨(ad.add (i.toNat * 4)).block, (ad.add (i.toNat * 4)).off + 1, none⟩ = some (.slice A1 (rd_T31 xs i).f1.f0.length c1) ∧ w.cell? ⟨(ad.add (i.toNat * 4)).block, (ad.add (i.toNat * 4)).off + 2, none⟩ = some (.int .i32 (rd_T31 xs i).f1.f1) ∧ w.cell? ⟨(ad.add (i.toNat * 4)).block, (ad.add (i.toNat * 4)).off + 3, none⟩ = some (.bool (rd_T31 xs i).f1.f2) ∧ (rd_T31 xs i).f1.f0.length ≤ c1 ∧ (Kd.int .u8).C w A1 (rd_T31 xs i).f1.f0.length (rd_T31 xs i).f1.f0 := by
  obtain ⟨ad, c, e, _, hK, hc0⟩ := Kd.C_get h z31 i h0 h1
  have hc : ∀ j u, c[j]? = some u → w.cell? (ad.add (i.toNat * 4 + j)) = some u := hc0
  obtain ⟨A1, c1, rfl, l1, g1⟩ := k31_open hK
  exact ⟨ad, A1, c1, e, hc 0 _ rfl, by rw [← add_field _ _ 1 (by omega)]; exact hc 1 _ rfl, by rw [← add_field _ _ 2 (by omega)]; exact hc 2 _ rfl, by rw [← add_field _ _ 3 (by omega)]; exact hc 3 _ rfl, l1, g1⟩

def rd_L12 (xs : List (List S31)) (i : Int) : (List S31) := xs.getD i.toNat ([] : List S31)
theorem at_L12 {w : World} {A : Option Addr} {n : Nat} {xs : List (List S31)} (h : Kd.C (Kd.slice 31 k31) w A n xs) (i : Int) (h0 : 0 ≤ i) (h1 : i < n) : ∃ ad A0 c0, A = some ad ∧ w.cell? (ad.add i.toNat) = some (.slice A0 (rd_L12 xs i).length c0) ∧ (rd_L12 xs i).length ≤ c0 ∧ k31.C w A0 (rd_L12 xs i).length (rd_L12 xs i) := by
  obtain ⟨ad, c, e, _, hK, hc0⟩ := Kd.C_get h ([] : List S31) i h0 h1
  have hc : ∀ j u, c[j]? = some u → w.cell? (ad.add (i.toNat * 1 + j)) = some u := hc0
  obtain ⟨A0, c0, rfl, l0, g0⟩ := hK
  exact ⟨ad, A0, c0, e, by have hq := hc 0 _ rfl; rwa [Nat.mul_one, Nat.add_zero] at hq, l0, g0⟩

def rd_L13 (xs : List (List S27)) (i : Int) : (List S27) := xs.getD i.toNat ([] : List S27)
theorem at_L13 {w : World} {A : Option Addr} {n : Nat} {xs : List (List S27)} (h : Kd.C (Kd.slice 27 k27) w A n xs) (i : Int) (h0 : 0 ≤ i) (h1 : i < n) : ∃ ad A0 c0, A = some ad ∧ w.cell? (ad.add i.toNat) = some (.slice A0 (rd_L13 xs i).length c0) ∧ (rd_L13 xs i).length ≤ c0 ∧ k27.C w A0 (rd_L13 xs i).length (rd_L13 xs i) := by
  obtain ⟨ad, c, e, _, hK, hc0⟩ := Kd.C_get h ([] : List S27) i h0 h1
  have hc : ∀ j u, c[j]? = some u → w.cell? (ad.add (i.toNat * 1 + j)) = some u := hc0
  obtain ⟨A0, c0, rfl, l0, g0⟩ := hK
  exact ⟨ad, A0, c0, e, by have hq := hc 0 _ rfl; rwa [Nat.mul_one, Nat.add_zero] at hq, l0, g0⟩

/-! #### struct type 36 -/
structure S36 where
  f0 : Bool
  f1 : S27
  f2 : Int
  f3 : (List S27)
def z36 : S36 := ⟨false, z27, (0 : Int), ([] : List S27)⟩
def k36 : Kd S36 := Kd.iso (Kd.pair Kd.bool (Kd.pair k27 (Kd.pair (Kd.int .i64) (Kd.slice 27 k27)))) (fun x : S36 => (x.f0, x.f1, x.f2, x.f3))
theorem k36_heap : Kd.Heap k36 := Kd.heap_iso _ (Kd.heap_pair Kd.heap_bool (Kd.heap_pair k27_heap (Kd.heap_pair (Kd.heap_int .i64) (Kd.heap_slice 27 k27_heap))))
theorem k36_open {w : World} {x : S36} {cs : List Value} (h : k36.K w x cs) : ∃ A1 c1 A5 c5, cs = [.bool x.f0, .slice A1 x.f1.f0.length c1, .int .i32 x.f1.f1, .bool x.f1.f2, .int .i64 x.f2, .slice A5 x.f3.length c5] ∧ x.f1.f0.length ≤ c1 ∧ (Kd.int .u8).C w A1 x.f1.f0.length x.f1.f0 ∧ x.f3.length ≤ c5 ∧ k27.C w A5 x.f3.length x.f3 := by
  obtain ⟨_, _, rfl, rfl, ⟨_, _, rfl, s1, ⟨_, _, rfl, rfl, ⟨A5, c5, rfl, l5, g5⟩⟩⟩⟩ := h
  obtain ⟨A1, c1, rfl, l1, g1⟩ := k27_open s1
  exact ⟨A1, c1, A5, c5, rfl, l1, g1, l5, g5⟩
theorem k36_openM {w : World} {base : Nat} {ok : Nat → Prop} {x : S36} {cs : List Value} (h : k36.M w base ok x cs) : ∃ v1 v5, cs = [.bool x.f0, v1, .int .i32 x.f1.f1, .bool x.f1.f2, .int .i64 x.f2, v5] ∧ (Kd.int .u8).R 5 w base ok v1 x.f1.f0 ∧ k27.R 27 w base ok v5 x.f3 := by
  obtain ⟨_, _, rfl, rfl, ⟨_, _, rfl, s1, ⟨_, _, rfl, rfl, ⟨v5, rfl, g5⟩⟩⟩⟩ := h
  obtain ⟨v1, rfl, g1⟩ := k27_openM s1
  exact ⟨v1, v5, rfl, g1, g5⟩
theorem k36_mk (w : World) (x : S36) {A1 : Option Addr} {c1 : Nat} (l1 : x.f1.f0.length ≤ c1) (g1 : (Kd.int .u8).C w A1 x.f1.f0.length x.f1.f0) {A5 : Option Addr} {c5 : Nat} (l5 : x.f3.length ≤ c5) (g5 : k27.C w A5 x.f3.length x.f3) : k36.K w x [.bool x.f0, .slice A1 x.f1.f0.length c1, .int .i32 x.f1.f1, .bool x.f1.f2, .int .i64 x.f2, .slice A5 x.f3.length c5] := ⟨[.bool x.f0], [.slice A1 x.f1.f0.length c1, .int .i32 x.f1.f1, .bool x.f1.f2, .int .i64 x.f2, .slice A5 x.f3.length c5], rfl, rfl, ⟨[.slice A1 x.f1.f0.length c1, .int .i32 x.f1.f1, .bool x.f1.f2], [.int .i64 x.f2, .slice A5 x.f3.length c5], rfl, (k27_mk w x.f1 l1 g1), ⟨[.int .i64 x.f2], [.slice A5 x.f3.length c5], rfl, rfl, ⟨A5, c5, rfl, l5, g5⟩⟩⟩⟩
theorem k36_mkM (w : World) (base : Nat) (ok : Nat → Prop) (x : S36) {v1 : Value} (g1 : (Kd.int .u8).R 5 w base ok v1 x.f1.f0) {v5 : Value} (g5 : k27.R 27 w base ok v5 x.f3) : k36.M w base ok x [.bool x.f0, v1, .int .i32 x.f1.f1, .bool x.f1.f2, .int .i64 x.f2, v5] := ⟨[.bool x.f0], [v1, .int .i32 x.f1.f1, .bool x.f1.f2, .int .i64 x.f2, v5], rfl, rfl, ⟨[v1, .int .i32 x.f1.f1, .bool x.f1.f2], [.int .i64 x.f2, v5], rfl, (k27_mkM w base ok x.f1 g1), ⟨[.int .i64 x.f2], [v5], rfl, rfl, ⟨v5, rfl, g5⟩⟩⟩⟩
theorem k36_openF {W : World} {ok : Nat → Prop} {x : S36} {cs : List Value} (h : Kd.FK k36 W ok x cs) : ∃ A1 c1 A5 c5, cs = [.bool x.f0, .slice A1 x.f1.f0.length c1, .int .i32 x.f1.f1, .bool x.f1.f2, .int .i64 x.f2, .slice A5 x.f3.length c5] ∧ x.f1.f0.length ≤ c1 ∧ Kd.F (Kd.int .u8) W ok A1 x.f1.f0.length x.f1.f0 ∧ x.f3.length ≤ c5 ∧ Kd.F k27 W ok A5 x.f3.length x.f3 := by
  obtain ⟨A1, c1, A5, c5, rfl, l1, _, l5, _⟩ := k36_open (Kd.FK_now h)
  exact ⟨A1, c1, A5, c5, rfl, l1, (fun W' hW => by obtain ⟨A1_, c1_, A5_, c5_, he, l1_, g1_, l5_, g5_⟩ := k36_open (h W' hW); injection (Option.some.inj (show some (Value.slice A1 x.f1.f0.length c1) = some (Value.slice A1_ x.f1.f0.length c1_) from congrArg (fun l => l[1]?) he)) with ha_ _ _; rw [ha_]; exact g1_), l5, (fun W' hW => by obtain ⟨A1_, c1_, A5_, c5_, he, l1_, g1_, l5_, g5_⟩ := k36_open (h W' hW); injection (Option.some.inj (show some (Value.slice A5 x.f3.length c5) = some (Value.slice A5_ x.f3.length c5_) from congrArg (fun l => l[5]?) he)) with ha_ _ _; rw [ha_]; exact g5_)⟩
theorem k36_mkF (W : World) (ok : Nat → Prop) (x : S36) {A1 : Option Addr} {c1 : Nat} (l1 : x.f1.f0.length ≤ c1) (g1 : Kd.F (Kd.int .u8) W ok A1 x.f1.f0.length x.f1.f0) {A5 : Option Addr} {c5 : Nat} (l5 : x.f3.length ≤ c5) (g5 : Kd.F k27 W ok A5 x.f3.length x.f3) : Kd.FK k36 W ok x [.bool x.f0, .slice A1 x.f1.f0.length c1, .int .i32 x.f1.f1, .bool x.f1.f2, .int .i64 x.f2, .slice A5 x.f3.length c5] := fun W2 hW => k36_mk W2 x l1 (g1 W2 hW) l5 (g5 W2 hW)
def rd_T36 (xs : List S36) (i : Int) : S36 := xs.getD i.toNat z36
theorem at_T36 {w : World} {A : Option Addr} {n : Nat} {xs : List S36} (h : Kd.C k36 w A n xs) (i : Int) (h0 : 0 ≤ i) (h1 : i < n) : ∃ ad A1 c1 A5 c5, A = some ad ∧ w.cell? (ad.add (i.toNat * 6)) = some (.bool (rd_T36 xs i).f0) ∧ w.cell? ⟨(ad.add (i.toNat * 6)).block, (ad.add (i.toNat * 6)).off + 1, none⟩ = some (.slice A1 (rd_T36 xs i).f1.f0.length c1) ∧ w.cell? ⟨(ad.add (i.toNat * 6)).block, (ad.add (i.toNat * 6)).off + 2, none⟩ = some (.int .i32 (rd_T36 xs i).f1.f1) ∧ w.cell? ⟨(ad.add (i.toNat * 6)).block, (ad.add (i.toNat * 6)).off + 3, none⟩ = some (.bool (rd_T36 xs i).f1.f2) ∧ w.cell? ⟨(ad.add (i.toNat * 6)).block, (ad.add (i.toNat * 6)).off + 4, none⟩ = some (.int .i64 (rd_T36 xs i).f2) ∧ w.cell? ⟨(ad.add (i.toNat * 6)).block, (ad.add (i.toNat * 6)).off + 5, none⟩ = some (.slice A5 (rd_T36 xs i).f3.length c5) ∧ (rd_T36 xs i).f1.f0.length ≤ c1 ∧ (Kd.int .u8).C w A1 (rd_T36 xs i).f1.f0.length (rd_T36 xs i).f1.f0 ∧ (rd_T36 xs i).f3.length ≤ c5 ∧ k27.C w A5 (rd_T36 xs i).f3.length (rd_T36 xs i).f3 := by
  obtain ⟨ad, c, e, _, hK, hc0⟩ := Kd.C_get h z36 i h0 h1
  have hc : ∀ j u, c[j]? = some u → w.cell? (ad.add (i.toNat * 6 + j)) = some u := hc0
  obtain ⟨A1, c1, A5, c5, rfl, l1, g1, l5, g5⟩ := k36_open hK
  exact ⟨ad, A1, c1, A5, c5, e, hc 0 _ rfl, by rw [← add_field _ _ 1 (by omega)]; exact hc 1 _ rfl, by rw [← add_field _ _ 2 (by omega)]; exact hc 2 _ rfl, by rw [← add_field _ _ 3 (by omega)]; exact hc 3 _ rfl, by rw [← add_field _ _ 4 (by omega)]; exact hc 4 _ rfl, by rw [← add_field _ _ 5 (by omega)]; exact hc 5 _ rfl, l1, g1, l5, g5⟩

def rd_L15 (xs : List (List S36)) (i : Int) : (List S36) := xs.getD i.toNat ([] : List S36)
theorem at_L15 {w : World} {A : Option Addr} {n : Nat} {xs : List (List S36)} (h : Kd.C (Kd.slice 36 k36) w A n xs) (i : Int) (h0 : 0 ≤ i) (h1 : i < n) : ∃ ad A0 c0, A = some ad ∧ w.cell? (ad.add i.toNat) = some (.slice A0 (rd_L15 xs i).length c0) ∧ (rd_L15 xs i).length ≤ c0 ∧ k36.C w A0 (rd_L15 xs i).length (rd_L15 xs i) := by
  obtain ⟨ad, c, e, _, hK, hc0⟩ := Kd.C_get h ([] : List S36) i h0 h1
  have hc : ∀ j u, c[j]? = some u → w.cell? (ad.add (i.toNat * 1 + j)) = some u := hc0
  obtain ⟨A0, c0, rfl, l0, g0⟩ := hK
  exact ⟨ad, A0, c0, e, by have hq := hc 0 _ rfl; rwa [Nat.mul_one, Nat.add_zero] at hq, l0, g0⟩

/-! #### struct type 73 -/
structure S73 where
  f0 : Int
  f1 : Int
  f2 : Int
  f3 : Bool
def z73 : S73 := ⟨(0 : Int), (0 : Int), (0 : Int), false⟩
def k73 : Kd S73 := Kd.iso (Kd.pair (Kd.int .u8) (Kd.pair (Kd.int .u8) (Kd.pair (Kd.int .i32) Kd.bool))) (fun x : S73 => (x.f0, x.f1, x.f2, x.f3))
theorem k73_heap : Kd.Heap k73 := Kd.heap_iso _ (Kd.heap_pair (Kd.heap_int .u8) (Kd.heap_pair (Kd.heap_int .u8) (Kd.heap_pair (Kd.heap_int .i32) Kd.heap_bool)))
theorem k73_open {w : World} {x : S73} {cs : List Value} (h : k73.K w x cs) : cs = [.int .u8 x.f0, .int .u8 x.f1, .int .i32 x.f2, .bool x.f3] := by
  obtain ⟨_, _, rfl, rfl, ⟨_, _, rfl, rfl, ⟨_, _, rfl, rfl, rfl⟩⟩⟩ := h
  exact rfl
theorem k73_openM {w : World} {base : Nat} {ok : Nat → Prop} {x : S73} {cs : List Value} (h : k73.M w base ok x cs) : cs = [.int .u8 x.f0, .int .u8 x.f1, .int .i32 x.f2, .bool x.f3] := by
  obtain ⟨_, _, rfl, rfl, ⟨_, _, rfl, rfl, ⟨_, _, rfl, rfl, rfl⟩⟩⟩ := h
  exact rfl
theorem k73_mk (w : World) (x : S73)  : k73.K w x [.int .u8 x.f0, .int .u8 x.f1, .int .i32 x.f2, .bool x.f3] := ⟨[.int .u8 x.f0], [.int .u8 x.f1, .int .i32 x.f2, .bool x.f3], rfl, rfl, ⟨[.int .u8 x.f1], [.int .i32 x.f2, .bool x.f3], rfl, rfl, ⟨[.int .i32 x.f2], [.bool x.f3], rfl, rfl, rfl⟩⟩⟩
theorem k73_mkM (w : World) (base : Nat) (ok : Nat → Prop) (x : S73)  : k73.M w base ok x [.int .u8 x.f0, .int .u8 x.f1, .int .i32 x.f2, .bool x.f3] := ⟨[.int .u8 x.f0], [.int .u8 x.f1, .int .i32 x.f2, .bool x.f3], rfl, rfl, ⟨[.int .u8 x.f1], [.int .i32 x.f2, .bool x.f3], rfl, rfl, ⟨[.int .i32 x.f2], [.bool x.f3], rfl, rfl, rfl⟩⟩⟩
theorem k73_mkF (W : World) (ok : Nat → Prop) (x : S73) : Kd.FK k73 W ok x [.int .u8 x.f0, .int .u8 x.f1, .int .i32 x.f2, .bool x.f3] := fun W2 _ => k73_mk W2 x
def rd_T73 (xs : List S73) (i : Int) : S73 := xs.getD i.toNat z73
theorem at_T73 {w : World} {A : Option Addr} {n : Nat} {xs : List S73} (h : Kd.C k73 w A n xs) (i : Int) (h0 : 0 ≤ i) (h1 : i < n) : ∃ ad , A = some ad ∧ w.cell? (ad.add (i.toNat * 4)) = some (.int .u8 (rd_T73 xs i).f0) ∧ w.cell? ⟨(ad.add (i.toNat * 4)).block, (ad.add (i.toNat * 4)).off + 1, none⟩ = some (.int .u8 (rd_T73 xs i).f1) ∧ w.cell? ⟨(ad.add (i.toNat * 4)).block, (ad.add (i.toNat * 4)).off + 2, none⟩ = some (.int .i32 (rd_T73 xs i).f2) ∧ w.cell? ⟨(ad.add (i.toNat * 4)).block, (ad.add (i.toNat * 4)).off + 3, none⟩ = some (.bool (rd_T73 xs i).f3) := by
  obtain ⟨ad, c, e, _, hK, hc0⟩ := Kd.C_get h z73 i h0 h1
  have hc : ∀ j u, c[j]? = some u → w.cell? (ad.add (i.toNat * 4 + j)) = some u := hc0
  obtain rfl := k73_open hK
  exact ⟨ad, e, hc 0 _ rfl, by rw [← add_field _ _ 1 (by omega)]; exact hc 1 _ rfl, by rw [← add_field _ _ 2 (by omega)]; exact hc 2 _ rfl, by rw [← add_field _ _ 3 (by omega)]; exact hc 3 _ rfl⟩

end Go.Proofs.YteekkpofcbcikaaDoor.PWan
