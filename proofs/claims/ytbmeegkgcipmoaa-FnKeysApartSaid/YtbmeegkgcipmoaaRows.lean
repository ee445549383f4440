/-
  No cell of these rows narrows 'for every input' (looked for: loops, veiled, ifaces, maps, wideKeys, modest, calm, conditions, laid).
  DERIVED. THE GIVEN ROWS OF THIS SEAT. 6 by the template 'for every input the law returns true; each argument reads behind the call as it read before'; 0 by the template 'total and deterministic' (their statements: YtbmeegkgcipmoaaTotals.lean).
  GIVEN WITH THE SEED: the statements are not yours to turn. If you find one false, say at which input.
  Laid BY PROGRAM, IN A SANDBOX (cutbox-rows.mjs): the forced cells as the released guide's own fill.sh prints them over the translation 3664ea3039d07b97… (all of the seat's roots in one cut). By AI agents, Wed Nov 11 2026. No macro, syntax, notation, axiom, sorry.
-/
import Derived.Test.YtbmeegkgcipmoaaChecked
import GoSem.Claim
import GoSem.ClaimJoined
import GoSem.ClaimMapViews
import Derived.JoinedTies
import Derived.KernelRfl
namespace Go.Proofs.Ytbmeegkgcipmoaa
/- THE CELL 'sum', in the pinned program and in every row, IS THE sha256 OF THE DUMP (.gsa) THAT YtbmeegkgcipmoaaProg.lean LOADS. Nothing in Lean hashes anything: it is a label: what it is worth is what the hold of that sum in a sandbox is worth. -/
noncomputable def Try.pinned : Pinned := { name := "ytbmeegkgcipmoaa", sum := "3664ea3039d07b97364504a660f2520f5beafd2496d9bfc916a58dbfdb6e4a00", checked := Try.checked }
namespace Rows
def none {H : Type} : Left H := { results := [], args := [] }

/-- 'laws.FnHashBits': WHATEVER THE INPUT: true; the input reads as it did. -/
def fnHashBitsSpec : ChangeSpec := { name := "fnHashBits", fn := fun _ => fun
  | [d1, d2] => { results := [.lit (.bool true)], args := [d1, d2] }
  | _ => none }
def fnHashBitsRow : OpenClaim := { program := "ytbmeegkgcipmoaa", sum := "3664ea3039d07b97364504a660f2520f5beafd2496d9bfc916a58dbfdb6e4a00", func := "pub-tholos/laws.FnHashBits", spec := "fnHashBits", recurses := true, apart := false }
def FnHashBitsSaid : Prop := fnHashBitsRow.holds Try.pinned (OpenSpec.ofChange fnHashBitsSpec)

/-- ITS FALSE NEIGHBOUR: 'it returns false'. Refute it at one input. -/
def fnHashBitsWrong : ChangeSpec := { name := "fnHashBits", fn := fun _ => fun
  | [d1, d2] => { results := [.lit (.bool false)], args := [d1, d2] }
  | _ => none }
def FnHashBitsWrongFalsely : Prop := fnHashBitsRow.holds Try.pinned (OpenSpec.ofChange fnHashBitsWrong)

/-- 'laws.FnBitsOnes': WHATEVER THE INPUT: true; the input reads as it did. -/
def fnBitsOnesSpec : ChangeSpec := { name := "fnBitsOnes", fn := fun _ => fun
  | [d1, d2, d3] => { results := [.lit (.bool true)], args := [d1, d2, d3] }
  | _ => none }
def fnBitsOnesRow : OpenClaim := { program := "ytbmeegkgcipmoaa", sum := "3664ea3039d07b97364504a660f2520f5beafd2496d9bfc916a58dbfdb6e4a00", func := "pub-tholos/laws.FnBitsOnes", spec := "fnBitsOnes", apart := false }
def FnBitsOnesSaid : Prop := fnBitsOnesRow.holds Try.pinned (OpenSpec.ofChange fnBitsOnesSpec)

/-- ITS FALSE NEIGHBOUR: 'it returns false'. Refute it at one input. -/
def fnBitsOnesWrong : ChangeSpec := { name := "fnBitsOnes", fn := fun _ => fun
  | [d1, d2, d3] => { results := [.lit (.bool false)], args := [d1, d2, d3] }
  | _ => none }
def FnBitsOnesWrongFalsely : Prop := fnBitsOnesRow.holds Try.pinned (OpenSpec.ofChange fnBitsOnesWrong)

/-- 'laws.FnKeysApart': WHATEVER THE INPUT: true; the input reads as it did. -/
def fnKeysApartSpec : ChangeSpec := { name := "fnKeysApart", fn := fun _ => fun
  | [d1, d2] => { results := [.lit (.bool true)], args := [d1, d2] }
  | _ => none }
def fnKeysApartRow : OpenClaim := { program := "ytbmeegkgcipmoaa", sum := "3664ea3039d07b97364504a660f2520f5beafd2496d9bfc916a58dbfdb6e4a00", func := "pub-tholos/laws.FnKeysApart", spec := "fnKeysApart", apart := false }
def FnKeysApartSaid : Prop := fnKeysApartRow.holds Try.pinned (OpenSpec.ofChange fnKeysApartSpec)

/-- ITS FALSE NEIGHBOUR: 'it returns false'. Refute it at one input. -/
def fnKeysApartWrong : ChangeSpec := { name := "fnKeysApart", fn := fun _ => fun
  | [d1, d2] => { results := [.lit (.bool false)], args := [d1, d2] }
  | _ => none }
def FnKeysApartWrongFalsely : Prop := fnKeysApartRow.holds Try.pinned (OpenSpec.ofChange fnKeysApartWrong)

/-- 'laws.FnPathSegments': WHATEVER THE INPUT: true; the input reads as it did. -/
def fnPathSegmentsSpec : ChangeSpec := { name := "fnPathSegments", fn := fun _ => fun
  | [d] => { results := [.lit (.bool true)], args := [d] }
  | _ => none }
def fnPathSegmentsRow : OpenClaim := { program := "ytbmeegkgcipmoaa", sum := "3664ea3039d07b97364504a660f2520f5beafd2496d9bfc916a58dbfdb6e4a00", func := "pub-tholos/laws.FnPathSegments", spec := "fnPathSegments", apart := false }
def FnPathSegmentsSaid : Prop := fnPathSegmentsRow.holds Try.pinned (OpenSpec.ofChange fnPathSegmentsSpec)

/-- ITS FALSE NEIGHBOUR: 'it returns false'. Refute it at one input. -/
def fnPathSegmentsWrong : ChangeSpec := { name := "fnPathSegments", fn := fun _ => fun
  | [d] => { results := [.lit (.bool false)], args := [d] }
  | _ => none }
def FnPathSegmentsWrongFalsely : Prop := fnPathSegmentsRow.holds Try.pinned (OpenSpec.ofChange fnPathSegmentsWrong)

/-- 'laws.FnChunkSizeNested': WHATEVER THE INPUT: true; the input reads as it did. -/
def fnChunkSizeNestedSpec : ChangeSpec := { name := "fnChunkSizeNested", fn := fun _ => fun
  | [d1, d2, d3] => { results := [.lit (.bool true)], args := [d1, d2, d3] }
  | _ => none }
def fnChunkSizeNestedRow : OpenClaim := { program := "ytbmeegkgcipmoaa", sum := "3664ea3039d07b97364504a660f2520f5beafd2496d9bfc916a58dbfdb6e4a00", func := "pub-tholos/laws.FnChunkSizeNested", spec := "fnChunkSizeNested", unfollowed := true, recurses := true, apart := false }
def FnChunkSizeNestedSaid : Prop := fnChunkSizeNestedRow.holds Try.pinned (OpenSpec.ofChange fnChunkSizeNestedSpec)

/-- ITS FALSE NEIGHBOUR: 'it returns false'. Refute it at one input. -/
def fnChunkSizeNestedWrong : ChangeSpec := { name := "fnChunkSizeNested", fn := fun _ => fun
  | [d1, d2, d3] => { results := [.lit (.bool false)], args := [d1, d2, d3] }
  | _ => none }
def FnChunkSizeNestedWrongFalsely : Prop := fnChunkSizeNestedRow.holds Try.pinned (OpenSpec.ofChange fnChunkSizeNestedWrong)

/-- 'laws.FnPathSplit': WHATEVER THE INPUT: true; the input reads as it did. -/
def fnPathSplitSpec : ChangeSpec := { name := "fnPathSplit", fn := fun _ => fun
  | [d1, d2] => { results := [.lit (.bool true)], args := [d1, d2] }
  | _ => none }
def fnPathSplitRow : OpenClaim := { program := "ytbmeegkgcipmoaa", sum := "3664ea3039d07b97364504a660f2520f5beafd2496d9bfc916a58dbfdb6e4a00", func := "pub-tholos/laws.FnPathSplit", spec := "fnPathSplit", inPlace := ["internal/abi.NoEscape", "internal/bytealg.MakeNoZero"], unfollowed := true, recurses := true, apart := false }
def FnPathSplitSaid : Prop := fnPathSplitRow.holds Try.pinned (OpenSpec.ofChange fnPathSplitSpec)

/-- ITS FALSE NEIGHBOUR: 'it returns false'. Refute it at one input. -/
def fnPathSplitWrong : ChangeSpec := { name := "fnPathSplit", fn := fun _ => fun
  | [d1, d2] => { results := [.lit (.bool false)], args := [d1, d2] }
  | _ => none }
def FnPathSplitWrongFalsely : Prop := fnPathSplitRow.holds Try.pinned (OpenSpec.ofChange fnPathSplitWrong)

/- THE SECOND FORM. 'bulk': how many values and letters a reading holds, each counted each time it is reached (what is shared counts as often as it is met; a slice's spare places count too). A statement '..UptoSaid' is the law's where the arguments, and the package variables that the reading takes, are together of bulk at most 1048576: NARROWER than '..Said'. Prove '..Said' where nothing that the law and all that it calls make is longer than what came in: it says more and counts as full. Else prove '..UptoSaid'. A law counts once. -/
mutual
def uptoBulk {H : Type} : DataW H → Nat
  | .lit (.string bytes) => bytes.length + 1
  | .lit _ => 1
  | .nil => 1
  | .ptr d => uptoBulk d + 1
  | .slice elems spare => uptoBulkAll elems + uptoBulkAll spare + 1
  | .agg parts => uptoBulkAll parts + 1
  | .iface _ d => uptoBulk d + 1
  | .map entries => uptoBulkEntries entries + 1
  | .held _ => 1
def uptoBulkAll {H : Type} : List (DataW H) → Nat
  | [] => 0
  | d :: r => uptoBulk d + uptoBulkAll r
def uptoBulkEntries {H : Type} : List (Lit × DataW H) → Nat
  | [] => 0
  | x :: r => uptoBulkEntry x + uptoBulkEntries r
def uptoBulkEntry {H : Type} : Lit × DataW H → Nat
  | (.string bytes, d) => bytes.length + uptoBulk d + 1
  | (_, d) => uptoBulk d + 1
 end
def uptoSmall : (H : Type) → List (DataW H) → Bool := fun _ ds => decide (uptoBulkAll ds ≤ 1048576)
def OpenSpec.upto (s : _root_.Go.ChangeSpec) : _root_.Go.OpenSpec := { _root_.Go.OpenSpec.ofChange s with cond := some uptoSmall }

/-- 'laws.FnHashBits', WHERE WHAT IT READS IS OF BULK AT MOST 1048576: true; the input reads as it did. -/
def fnHashBitsUptoRow : OpenClaim := { program := "ytbmeegkgcipmoaa", sum := "3664ea3039d07b97364504a660f2520f5beafd2496d9bfc916a58dbfdb6e4a00", func := "pub-tholos/laws.FnHashBits", spec := "fnHashBits", recurses := true, apart := false, narrowed := true }
def FnHashBitsUptoSaid : Prop := fnHashBitsUptoRow.holds Try.pinned (OpenSpec.upto fnHashBitsSpec)

/-- 'laws.FnBitsOnes', WHERE WHAT IT READS IS OF BULK AT MOST 1048576: true; the input reads as it did. -/
def fnBitsOnesUptoRow : OpenClaim := { program := "ytbmeegkgcipmoaa", sum := "3664ea3039d07b97364504a660f2520f5beafd2496d9bfc916a58dbfdb6e4a00", func := "pub-tholos/laws.FnBitsOnes", spec := "fnBitsOnes", apart := false, narrowed := true }
def FnBitsOnesUptoSaid : Prop := fnBitsOnesUptoRow.holds Try.pinned (OpenSpec.upto fnBitsOnesSpec)

/-- 'laws.FnKeysApart', WHERE WHAT IT READS IS OF BULK AT MOST 1048576: true; the input reads as it did. -/
def fnKeysApartUptoRow : OpenClaim := { program := "ytbmeegkgcipmoaa", sum := "3664ea3039d07b97364504a660f2520f5beafd2496d9bfc916a58dbfdb6e4a00", func := "pub-tholos/laws.FnKeysApart", spec := "fnKeysApart", apart := false, narrowed := true }
def FnKeysApartUptoSaid : Prop := fnKeysApartUptoRow.holds Try.pinned (OpenSpec.upto fnKeysApartSpec)

/-- 'laws.FnPathSegments', WHERE WHAT IT READS IS OF BULK AT MOST 1048576: true; the input reads as it did. -/
def fnPathSegmentsUptoRow : OpenClaim := { program := "ytbmeegkgcipmoaa", sum := "3664ea3039d07b97364504a660f2520f5beafd2496d9bfc916a58dbfdb6e4a00", func := "pub-tholos/laws.FnPathSegments", spec := "fnPathSegments", apart := false, narrowed := true }
def FnPathSegmentsUptoSaid : Prop := fnPathSegmentsUptoRow.holds Try.pinned (OpenSpec.upto fnPathSegmentsSpec)

/-- 'laws.FnChunkSizeNested', WHERE WHAT IT READS IS OF BULK AT MOST 1048576: true; the input reads as it did. -/
def fnChunkSizeNestedUptoRow : OpenClaim := { program := "ytbmeegkgcipmoaa", sum := "3664ea3039d07b97364504a660f2520f5beafd2496d9bfc916a58dbfdb6e4a00", func := "pub-tholos/laws.FnChunkSizeNested", spec := "fnChunkSizeNested", unfollowed := true, recurses := true, apart := false, narrowed := true }
def FnChunkSizeNestedUptoSaid : Prop := fnChunkSizeNestedUptoRow.holds Try.pinned (OpenSpec.upto fnChunkSizeNestedSpec)

/-- 'laws.FnPathSplit', WHERE WHAT IT READS IS OF BULK AT MOST 1048576: true; the input reads as it did. -/
def fnPathSplitUptoRow : OpenClaim := { program := "ytbmeegkgcipmoaa", sum := "3664ea3039d07b97364504a660f2520f5beafd2496d9bfc916a58dbfdb6e4a00", func := "pub-tholos/laws.FnPathSplit", spec := "fnPathSplit", inPlace := ["internal/abi.NoEscape", "internal/bytealg.MakeNoZero"], unfollowed := true, recurses := true, apart := false, narrowed := true }
def FnPathSplitUptoSaid : Prop := fnPathSplitUptoRow.holds Try.pinned (OpenSpec.upto fnPathSplitSpec)

end Rows
end Go.Proofs.Ytbmeegkgcipmoaa
