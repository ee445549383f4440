/-
  NARROWER THAN 'FOR EVERY INPUT', by the rows' own cells (each row's printed sentence says how): FnPbLinkRead: laid · FnPbLinkWrite: laid · FnPbJoined: laid · FnFieldsWrapped: laid · FnFieldsWrite: laid · FnFieldsBack: laid · FnFieldsScript: laid · FnDiffsParted: laid.
  DERIVED. THE GIVEN ROWS OF THIS SEAT. 8 by the template 'for every input the law returns true; each argument reads behind the call as it read before'; 0 by the template 'total and deterministic' (their statements: YtnhnlodmkbiiiaaDoorTotals.lean).
  GIVEN WITH THE SEED: the statements are not yours to turn. If you find one false, say at which input.
  Laid BY PROGRAM, IN A SANDBOX (cutbox-rows.mjs): the forced cells as the released guide's own fill.sh prints them over the translation d980d52fdf034ae9… (all of the seat's roots in one cut). By AI agents, Wed Nov 11 2026. No macro, syntax, notation, axiom, sorry.
-/
import Derived.Test.YtnhnlodmkbiiiaaDoorChecked
import GoSem.Claim
import GoSem.ClaimJoined
import GoSem.ClaimMapViews
import Derived.JoinedTies
import Derived.KernelRfl
namespace Go.Proofs.YtnhnlodmkbiiiaaDoor
/- THE CELL 'sum', in the pinned program and in every row, IS THE sha256 OF THE DUMP (.gsa) THAT YtnhnlodmkbiiiaaDoorProg.lean LOADS. Nothing in Lean hashes anything: it is a label: what it is worth is what the hold of that sum in a sandbox is worth. -/
noncomputable def Tryd.pinned : Pinned := { name := "ytnhnlodmkbiiiaadoor", sum := "d980d52fdf034ae94cc73d7dfa19524a8d295c3afeeac6b7bc31564ffd4e7137", checked := Tryd.checked }
namespace Rows
def none {H : Type} : Left H := { results := [], args := [] }

/- WHAT THE LISTED PACKAGE-LEVEL VARIABLES READ AS WHEN THE CALL BEGINS. Each datum BY PROGRAM (the guide's laid-datum.mjs) off the statement by which the dump's own 'gosem.cut.vars' lays the variable. In a bare row this is a premise. The card (YtnhnlodmkbiiiaaDoorCards.lean) ties it to the program's text. -/
def laid_io_ErrUnexpectedEOF {H : Type} : DataW H := .iface "*errors.errorString" (.ptr (.agg [.lit (.string [117, 110, 101, 120, 112, 101, 99, 116, 101, 100, 32, 69, 79, 70])]))
def laid_pub_tholos_pub_boxo_ipld_merkledag_pb_ErrInvalidLengthMerkledag {H : Type} : DataW H := .iface "*errors.errorString" (.ptr (.agg [.lit (.string [112, 114, 111, 116, 111, 58, 32, 110, 101, 103, 97, 116, 105, 118, 101, 32, 108, 101, 110, 103, 116, 104, 32, 102, 111, 117, 110, 100, 32, 100, 117, 114, 105, 110, 103, 32, 117, 110, 109, 97, 114, 115, 104, 97, 108, 105, 110, 103])]))
def laid_pub_tholos_pub_boxo_ipld_merkledag_pb_ErrIntOverflowMerkledag {H : Type} : DataW H := .iface "*errors.errorString" (.ptr (.agg [.lit (.string [112, 114, 111, 116, 111, 58, 32, 105, 110, 116, 101, 103, 101, 114, 32, 111, 118, 101, 114, 102, 108, 111, 119])]))
def laid_pub_tholos_pub_boxo_ipld_merkledag_pb_ErrUnexpectedEndOfGroupMerkledag {H : Type} : DataW H := .iface "*errors.errorString" (.ptr (.agg [.lit (.string [112, 114, 111, 116, 111, 58, 32, 117, 110, 101, 120, 112, 101, 99, 116, 101, 100, 32, 101, 110, 100, 32, 111, 102, 32, 103, 114, 111, 117, 112])]))
def laid_pub_tholos_pub_boxo_ipld_unixfs_pb_ErrInvalidLengthUnixfs {H : Type} : DataW H := .iface "*errors.errorString" (.ptr (.agg [.lit (.string [112, 114, 111, 116, 111, 58, 32, 110, 101, 103, 97, 116, 105, 118, 101, 32, 108, 101, 110, 103, 116, 104, 32, 102, 111, 117, 110, 100, 32, 100, 117, 114, 105, 110, 103, 32, 117, 110, 109, 97, 114, 115, 104, 97, 108, 105, 110, 103])]))
def laid_pub_tholos_pub_boxo_ipld_unixfs_pb_ErrIntOverflowUnixfs {H : Type} : DataW H := .iface "*errors.errorString" (.ptr (.agg [.lit (.string [112, 114, 111, 116, 111, 58, 32, 105, 110, 116, 101, 103, 101, 114, 32, 111, 118, 101, 114, 102, 108, 111, 119])]))
def laid_pub_tholos_pub_boxo_ipld_unixfs_pb_ErrUnexpectedEndOfGroupUnixfs {H : Type} : DataW H := .iface "*errors.errorString" (.ptr (.agg [.lit (.string [112, 114, 111, 116, 111, 58, 32, 117, 110, 101, 120, 112, 101, 99, 116, 101, 100, 32, 101, 110, 100, 32, 111, 102, 32, 103, 114, 111, 117, 112])]))
def laid_pub_tholos_pub_boxo_ipld_unixfs_pb_ErrRequiredNotSetUnixfs {H : Type} : DataW H := .iface "*errors.errorString" (.ptr (.agg [.lit (.string [112, 114, 111, 116, 111, 58, 32, 114, 101, 113, 117, 105, 114, 101, 100, 32, 102, 105, 101, 108, 100, 32, 110, 111, 116, 32, 115, 101, 116])]))
def laid_pub_tholos_pub_govarint_ErrOverflow {H : Type} : DataW H := .iface "*errors.errorString" (.ptr (.agg [.lit (.string [118, 97, 114, 105, 110, 116, 115, 32, 108, 97, 114, 103, 101, 114, 32, 116, 104, 97, 110, 32, 117, 105, 110, 116, 54, 51, 32, 110, 111, 116, 32, 115, 117, 112, 112, 111, 114, 116, 101, 100])]))
def laid_pub_tholos_pub_govarint_ErrUnderflow {H : Type} : DataW H := .iface "*errors.errorString" (.ptr (.agg [.lit (.string [118, 97, 114, 105, 110, 116, 115, 32, 109, 97, 108, 102, 111, 114, 109, 101, 100, 44, 32, 99, 111, 117, 108, 100, 32, 110, 111, 116, 32, 114, 101, 97, 99, 104, 32, 116, 104, 101, 32, 101, 110, 100])]))
def laid_pub_tholos_pub_govarint_ErrNotMinimal {H : Type} : DataW H := .iface "*errors.errorString" (.ptr (.agg [.lit (.string [118, 97, 114, 105, 110, 116, 32, 110, 111, 116, 32, 109, 105, 110, 105, 109, 97, 108, 108, 121, 32, 101, 110, 99, 111, 100, 101, 100])]))
def laid_pub_tholos_pub_gomultihash_ErrTooShort {H : Type} : DataW H := .iface "*errors.errorString" (.ptr (.agg [.lit (.string [109, 117, 108, 116, 105, 104, 97, 115, 104, 32, 116, 111, 111, 32, 115, 104, 111, 114, 116, 46, 32, 109, 117, 115, 116, 32, 98, 101, 32, 62, 61, 32, 50, 32, 98, 121, 116, 101, 115])]))
def laid_pub_tholos_pub_gomultihash_ErrVarintBufferShort {H : Type} : DataW H := .iface "*errors.errorString" (.ptr (.agg [.lit (.string [117, 118, 97, 114, 105, 110, 116, 58, 32, 98, 117, 102, 102, 101, 114, 32, 116, 111, 111, 32, 115, 109, 97, 108, 108])]))
def laid_pub_tholos_pub_gomultihash_ErrVarintTooLong {H : Type} : DataW H := .iface "*errors.errorString" (.ptr (.agg [.lit (.string [117, 118, 97, 114, 105, 110, 116, 58, 32, 118, 97, 114, 105, 110, 116, 32, 116, 111, 111, 32, 98, 105, 103, 32, 40, 109, 97, 120, 32, 54, 52, 98, 105, 116, 41])]))

/-- 'laws.FnPbLinkRead': WHATEVER THE INPUT: true; the input reads as it did. -/
def fnPbLinkReadSpec : ChangeSpec := { name := "fnPbLinkRead", fn := fun _ => fun
  | [d] => { results := [.lit (.bool true)], args := [d] }
  | _ => none }
def fnPbLinkReadRow : OpenClaim := { program := "ytnhnlodmkbiiiaadoor", sum := "d980d52fdf034ae94cc73d7dfa19524a8d295c3afeeac6b7bc31564ffd4e7137", func := "pub-tholos/laws.FnPbLinkRead", spec := "fnPbLinkRead", recurses := true, named := ["pub-tholos/pub/boxo/ipld/merkledag/pb.ErrIntOverflowMerkledag", "io.ErrUnexpectedEOF", "pub-tholos/pub/boxo/ipld/merkledag/pb.ErrInvalidLengthMerkledag", "pub-tholos/pub/boxo/ipld/merkledag/pb.ErrUnexpectedEndOfGroupMerkledag"], apart := false, laid := [("io.ErrUnexpectedEOF", laid_io_ErrUnexpectedEOF), ("pub-tholos/pub/boxo/ipld/merkledag/pb.ErrInvalidLengthMerkledag", laid_pub_tholos_pub_boxo_ipld_merkledag_pb_ErrInvalidLengthMerkledag), ("pub-tholos/pub/boxo/ipld/merkledag/pb.ErrIntOverflowMerkledag", laid_pub_tholos_pub_boxo_ipld_merkledag_pb_ErrIntOverflowMerkledag), ("pub-tholos/pub/boxo/ipld/merkledag/pb.ErrUnexpectedEndOfGroupMerkledag", laid_pub_tholos_pub_boxo_ipld_merkledag_pb_ErrUnexpectedEndOfGroupMerkledag)] }
def FnPbLinkReadSaid : Prop := fnPbLinkReadRow.holds Tryd.pinned (OpenSpec.ofChange fnPbLinkReadSpec)

/-- ITS FALSE NEIGHBOUR: 'it returns false'. Refute it at one input. -/
def fnPbLinkReadWrong : ChangeSpec := { name := "fnPbLinkRead", fn := fun _ => fun
  | [d] => { results := [.lit (.bool false)], args := [d] }
  | _ => none }
def FnPbLinkReadWrongFalsely : Prop := fnPbLinkReadRow.holds Tryd.pinned (OpenSpec.ofChange fnPbLinkReadWrong)

/-- 'laws.FnPbLinkWrite': WHATEVER THE INPUT: true; the input reads as it did. -/
def fnPbLinkWriteSpec : ChangeSpec := { name := "fnPbLinkWrite", fn := fun _ => fun
  | [d] => { results := [.lit (.bool true)], args := [d] }
  | _ => none }
def fnPbLinkWriteRow : OpenClaim := { program := "ytnhnlodmkbiiiaadoor", sum := "d980d52fdf034ae94cc73d7dfa19524a8d295c3afeeac6b7bc31564ffd4e7137", func := "pub-tholos/laws.FnPbLinkWrite", spec := "fnPbLinkWrite", named := ["pub-tholos/pub/boxo/ipld/merkledag/pb.ErrIntOverflowMerkledag", "io.ErrUnexpectedEOF", "pub-tholos/pub/boxo/ipld/merkledag/pb.ErrInvalidLengthMerkledag", "pub-tholos/pub/boxo/ipld/merkledag/pb.ErrUnexpectedEndOfGroupMerkledag"], apart := false, laid := [("io.ErrUnexpectedEOF", laid_io_ErrUnexpectedEOF), ("pub-tholos/pub/boxo/ipld/merkledag/pb.ErrInvalidLengthMerkledag", laid_pub_tholos_pub_boxo_ipld_merkledag_pb_ErrInvalidLengthMerkledag), ("pub-tholos/pub/boxo/ipld/merkledag/pb.ErrIntOverflowMerkledag", laid_pub_tholos_pub_boxo_ipld_merkledag_pb_ErrIntOverflowMerkledag), ("pub-tholos/pub/boxo/ipld/merkledag/pb.ErrUnexpectedEndOfGroupMerkledag", laid_pub_tholos_pub_boxo_ipld_merkledag_pb_ErrUnexpectedEndOfGroupMerkledag)] }
def FnPbLinkWriteSaid : Prop := fnPbLinkWriteRow.holds Tryd.pinned (OpenSpec.ofChange fnPbLinkWriteSpec)

/-- ITS FALSE NEIGHBOUR: 'it returns false'. Refute it at one input. -/
def fnPbLinkWriteWrong : ChangeSpec := { name := "fnPbLinkWrite", fn := fun _ => fun
  | [d] => { results := [.lit (.bool false)], args := [d] }
  | _ => none }
def FnPbLinkWriteWrongFalsely : Prop := fnPbLinkWriteRow.holds Tryd.pinned (OpenSpec.ofChange fnPbLinkWriteWrong)

/-- 'laws.FnPbJoined': WHATEVER THE INPUT: true; the input reads as it did. -/
def fnPbJoinedSpec : ChangeSpec := { name := "fnPbJoined", fn := fun _ => fun
  | [d1, d2] => { results := [.lit (.bool true)], args := [d1, d2] }
  | _ => none }
def fnPbJoinedRow : OpenClaim := { program := "ytnhnlodmkbiiiaadoor", sum := "d980d52fdf034ae94cc73d7dfa19524a8d295c3afeeac6b7bc31564ffd4e7137", func := "pub-tholos/laws.FnPbJoined", spec := "fnPbJoined", named := ["pub-tholos/pub/boxo/ipld/merkledag/pb.ErrIntOverflowMerkledag", "io.ErrUnexpectedEOF", "pub-tholos/pub/boxo/ipld/merkledag/pb.ErrInvalidLengthMerkledag", "pub-tholos/pub/boxo/ipld/merkledag/pb.ErrUnexpectedEndOfGroupMerkledag"], apart := false, laid := [("io.ErrUnexpectedEOF", laid_io_ErrUnexpectedEOF), ("pub-tholos/pub/boxo/ipld/merkledag/pb.ErrInvalidLengthMerkledag", laid_pub_tholos_pub_boxo_ipld_merkledag_pb_ErrInvalidLengthMerkledag), ("pub-tholos/pub/boxo/ipld/merkledag/pb.ErrIntOverflowMerkledag", laid_pub_tholos_pub_boxo_ipld_merkledag_pb_ErrIntOverflowMerkledag), ("pub-tholos/pub/boxo/ipld/merkledag/pb.ErrUnexpectedEndOfGroupMerkledag", laid_pub_tholos_pub_boxo_ipld_merkledag_pb_ErrUnexpectedEndOfGroupMerkledag)] }
def FnPbJoinedSaid : Prop := fnPbJoinedRow.holds Tryd.pinned (OpenSpec.ofChange fnPbJoinedSpec)

/-- ITS FALSE NEIGHBOUR: 'it returns false'. Refute it at one input. -/
def fnPbJoinedWrong : ChangeSpec := { name := "fnPbJoined", fn := fun _ => fun
  | [d1, d2] => { results := [.lit (.bool false)], args := [d1, d2] }
  | _ => none }
def FnPbJoinedWrongFalsely : Prop := fnPbJoinedRow.holds Tryd.pinned (OpenSpec.ofChange fnPbJoinedWrong)

/-- 'laws.FnFieldsWrapped': WHATEVER THE INPUT: true; the input reads as it did. -/
def fnFieldsWrappedSpec : ChangeSpec := { name := "fnFieldsWrapped", fn := fun _ => fun
  | [d] => { results := [.lit (.bool true)], args := [d] }
  | _ => none }
def fnFieldsWrappedRow : OpenClaim := { program := "ytnhnlodmkbiiiaadoor", sum := "d980d52fdf034ae94cc73d7dfa19524a8d295c3afeeac6b7bc31564ffd4e7137", func := "pub-tholos/laws.FnFieldsWrapped", spec := "fnFieldsWrapped", named := ["pub-tholos/pub/boxo/ipld/unixfs/pb.ErrRequiredNotSetUnixfs", "pub-tholos/pub/boxo/ipld/unixfs/pb.ErrIntOverflowUnixfs", "io.ErrUnexpectedEOF", "pub-tholos/pub/boxo/ipld/unixfs/pb.ErrInvalidLengthUnixfs", "pub-tholos/pub/boxo/ipld/unixfs/pb.ErrUnexpectedEndOfGroupUnixfs"], apart := false, laid := [("io.ErrUnexpectedEOF", laid_io_ErrUnexpectedEOF), ("pub-tholos/pub/boxo/ipld/unixfs/pb.ErrInvalidLengthUnixfs", laid_pub_tholos_pub_boxo_ipld_unixfs_pb_ErrInvalidLengthUnixfs), ("pub-tholos/pub/boxo/ipld/unixfs/pb.ErrIntOverflowUnixfs", laid_pub_tholos_pub_boxo_ipld_unixfs_pb_ErrIntOverflowUnixfs), ("pub-tholos/pub/boxo/ipld/unixfs/pb.ErrUnexpectedEndOfGroupUnixfs", laid_pub_tholos_pub_boxo_ipld_unixfs_pb_ErrUnexpectedEndOfGroupUnixfs), ("pub-tholos/pub/boxo/ipld/unixfs/pb.ErrRequiredNotSetUnixfs", laid_pub_tholos_pub_boxo_ipld_unixfs_pb_ErrRequiredNotSetUnixfs)] }
def FnFieldsWrappedSaid : Prop := fnFieldsWrappedRow.holds Tryd.pinned (OpenSpec.ofChange fnFieldsWrappedSpec)

/-- ITS FALSE NEIGHBOUR: 'it returns false'. Refute it at one input. -/
def fnFieldsWrappedWrong : ChangeSpec := { name := "fnFieldsWrapped", fn := fun _ => fun
  | [d] => { results := [.lit (.bool false)], args := [d] }
  | _ => none }
def FnFieldsWrappedWrongFalsely : Prop := fnFieldsWrappedRow.holds Tryd.pinned (OpenSpec.ofChange fnFieldsWrappedWrong)

/-- 'laws.FnFieldsWrite': WHATEVER THE INPUT: true; the input reads as it did. -/
def fnFieldsWriteSpec : ChangeSpec := { name := "fnFieldsWrite", fn := fun _ => fun
  | [d1, d2, d3, d4] => { results := [.lit (.bool true)], args := [d1, d2, d3, d4] }
  | _ => none }
def fnFieldsWriteRow : OpenClaim := { program := "ytnhnlodmkbiiiaadoor", sum := "d980d52fdf034ae94cc73d7dfa19524a8d295c3afeeac6b7bc31564ffd4e7137", func := "pub-tholos/laws.FnFieldsWrite", spec := "fnFieldsWrite", named := ["pub-tholos/pub/boxo/ipld/unixfs/pb.ErrRequiredNotSetUnixfs", "pub-tholos/pub/boxo/ipld/unixfs/pb.ErrIntOverflowUnixfs", "io.ErrUnexpectedEOF", "pub-tholos/pub/boxo/ipld/unixfs/pb.ErrInvalidLengthUnixfs", "pub-tholos/pub/boxo/ipld/unixfs/pb.ErrUnexpectedEndOfGroupUnixfs"], apart := false, laid := [("io.ErrUnexpectedEOF", laid_io_ErrUnexpectedEOF), ("pub-tholos/pub/boxo/ipld/unixfs/pb.ErrInvalidLengthUnixfs", laid_pub_tholos_pub_boxo_ipld_unixfs_pb_ErrInvalidLengthUnixfs), ("pub-tholos/pub/boxo/ipld/unixfs/pb.ErrIntOverflowUnixfs", laid_pub_tholos_pub_boxo_ipld_unixfs_pb_ErrIntOverflowUnixfs), ("pub-tholos/pub/boxo/ipld/unixfs/pb.ErrUnexpectedEndOfGroupUnixfs", laid_pub_tholos_pub_boxo_ipld_unixfs_pb_ErrUnexpectedEndOfGroupUnixfs), ("pub-tholos/pub/boxo/ipld/unixfs/pb.ErrRequiredNotSetUnixfs", laid_pub_tholos_pub_boxo_ipld_unixfs_pb_ErrRequiredNotSetUnixfs)] }
def FnFieldsWriteSaid : Prop := fnFieldsWriteRow.holds Tryd.pinned (OpenSpec.ofChange fnFieldsWriteSpec)

/-- ITS FALSE NEIGHBOUR: 'it returns false'. Refute it at one input. -/
def fnFieldsWriteWrong : ChangeSpec := { name := "fnFieldsWrite", fn := fun _ => fun
  | [d1, d2, d3, d4] => { results := [.lit (.bool false)], args := [d1, d2, d3, d4] }
  | _ => none }
def FnFieldsWriteWrongFalsely : Prop := fnFieldsWriteRow.holds Tryd.pinned (OpenSpec.ofChange fnFieldsWriteWrong)

/-- 'laws.FnFieldsBack': WHATEVER THE INPUT: true; the input reads as it did. -/
def fnFieldsBackSpec : ChangeSpec := { name := "fnFieldsBack", fn := fun _ => fun
  | [d1, d2, d3] => { results := [.lit (.bool true)], args := [d1, d2, d3] }
  | _ => none }
def fnFieldsBackRow : OpenClaim := { program := "ytnhnlodmkbiiiaadoor", sum := "d980d52fdf034ae94cc73d7dfa19524a8d295c3afeeac6b7bc31564ffd4e7137", func := "pub-tholos/laws.FnFieldsBack", spec := "fnFieldsBack", named := ["pub-tholos/pub/boxo/ipld/unixfs/pb.ErrRequiredNotSetUnixfs", "pub-tholos/pub/boxo/ipld/unixfs/pb.ErrIntOverflowUnixfs", "io.ErrUnexpectedEOF", "pub-tholos/pub/boxo/ipld/unixfs/pb.ErrInvalidLengthUnixfs", "pub-tholos/pub/boxo/ipld/unixfs/pb.ErrUnexpectedEndOfGroupUnixfs"], apart := false, laid := [("io.ErrUnexpectedEOF", laid_io_ErrUnexpectedEOF), ("pub-tholos/pub/boxo/ipld/unixfs/pb.ErrInvalidLengthUnixfs", laid_pub_tholos_pub_boxo_ipld_unixfs_pb_ErrInvalidLengthUnixfs), ("pub-tholos/pub/boxo/ipld/unixfs/pb.ErrIntOverflowUnixfs", laid_pub_tholos_pub_boxo_ipld_unixfs_pb_ErrIntOverflowUnixfs), ("pub-tholos/pub/boxo/ipld/unixfs/pb.ErrUnexpectedEndOfGroupUnixfs", laid_pub_tholos_pub_boxo_ipld_unixfs_pb_ErrUnexpectedEndOfGroupUnixfs), ("pub-tholos/pub/boxo/ipld/unixfs/pb.ErrRequiredNotSetUnixfs", laid_pub_tholos_pub_boxo_ipld_unixfs_pb_ErrRequiredNotSetUnixfs)] }
def FnFieldsBackSaid : Prop := fnFieldsBackRow.holds Tryd.pinned (OpenSpec.ofChange fnFieldsBackSpec)

/-- ITS FALSE NEIGHBOUR: 'it returns false'. Refute it at one input. -/
def fnFieldsBackWrong : ChangeSpec := { name := "fnFieldsBack", fn := fun _ => fun
  | [d1, d2, d3] => { results := [.lit (.bool false)], args := [d1, d2, d3] }
  | _ => none }
def FnFieldsBackWrongFalsely : Prop := fnFieldsBackRow.holds Tryd.pinned (OpenSpec.ofChange fnFieldsBackWrong)

/-- 'laws.FnFieldsScript': WHATEVER THE INPUT: true; the input reads as it did. -/
def fnFieldsScriptSpec : ChangeSpec := { name := "fnFieldsScript", fn := fun _ => fun
  | [d1, d2] => { results := [.lit (.bool true)], args := [d1, d2] }
  | _ => none }
def fnFieldsScriptRow : OpenClaim := { program := "ytnhnlodmkbiiiaadoor", sum := "d980d52fdf034ae94cc73d7dfa19524a8d295c3afeeac6b7bc31564ffd4e7137", func := "pub-tholos/laws.FnFieldsScript", spec := "fnFieldsScript", named := ["pub-tholos/pub/boxo/ipld/unixfs/pb.ErrRequiredNotSetUnixfs", "pub-tholos/pub/boxo/ipld/unixfs/pb.ErrIntOverflowUnixfs", "io.ErrUnexpectedEOF", "pub-tholos/pub/boxo/ipld/unixfs/pb.ErrInvalidLengthUnixfs", "pub-tholos/pub/boxo/ipld/unixfs/pb.ErrUnexpectedEndOfGroupUnixfs"], apart := false, laid := [("io.ErrUnexpectedEOF", laid_io_ErrUnexpectedEOF), ("pub-tholos/pub/boxo/ipld/unixfs/pb.ErrInvalidLengthUnixfs", laid_pub_tholos_pub_boxo_ipld_unixfs_pb_ErrInvalidLengthUnixfs), ("pub-tholos/pub/boxo/ipld/unixfs/pb.ErrIntOverflowUnixfs", laid_pub_tholos_pub_boxo_ipld_unixfs_pb_ErrIntOverflowUnixfs), ("pub-tholos/pub/boxo/ipld/unixfs/pb.ErrUnexpectedEndOfGroupUnixfs", laid_pub_tholos_pub_boxo_ipld_unixfs_pb_ErrUnexpectedEndOfGroupUnixfs), ("pub-tholos/pub/boxo/ipld/unixfs/pb.ErrRequiredNotSetUnixfs", laid_pub_tholos_pub_boxo_ipld_unixfs_pb_ErrRequiredNotSetUnixfs)] }
def FnFieldsScriptSaid : Prop := fnFieldsScriptRow.holds Tryd.pinned (OpenSpec.ofChange fnFieldsScriptSpec)

/-- ITS FALSE NEIGHBOUR: 'it returns false'. Refute it at one input. -/
def fnFieldsScriptWrong : ChangeSpec := { name := "fnFieldsScript", fn := fun _ => fun
  | [d1, d2] => { results := [.lit (.bool false)], args := [d1, d2] }
  | _ => none }
def FnFieldsScriptWrongFalsely : Prop := fnFieldsScriptRow.holds Tryd.pinned (OpenSpec.ofChange fnFieldsScriptWrong)

/-- 'laws.FnDiffsParted': WHATEVER THE INPUT: true; the input reads as it did. -/
def fnDiffsPartedSpec : ChangeSpec := { name := "fnDiffsParted", fn := fun _ => fun
  | [d1, d2] => { results := [.lit (.bool true)], args := [d1, d2] }
  | _ => none }
def fnDiffsPartedRow : OpenClaim := { program := "ytnhnlodmkbiiiaadoor", sum := "d980d52fdf034ae94cc73d7dfa19524a8d295c3afeeac6b7bc31564ffd4e7137", func := "pub-tholos/laws.FnDiffsParted", spec := "fnDiffsParted", unfollowed := true, recurses := true, named := ["pub-tholos/pub/gomultihash.ErrTooShort", "pub-tholos/pub/gomultihash.ErrVarintBufferShort", "pub-tholos/pub/gomultihash.ErrVarintTooLong", "pub-tholos/pub/govarint.ErrOverflow", "pub-tholos/pub/govarint.ErrNotMinimal", "pub-tholos/pub/govarint.ErrUnderflow"], apart := false, laid := [("pub-tholos/pub/govarint.ErrOverflow", laid_pub_tholos_pub_govarint_ErrOverflow), ("pub-tholos/pub/govarint.ErrUnderflow", laid_pub_tholos_pub_govarint_ErrUnderflow), ("pub-tholos/pub/govarint.ErrNotMinimal", laid_pub_tholos_pub_govarint_ErrNotMinimal), ("pub-tholos/pub/gomultihash.ErrTooShort", laid_pub_tholos_pub_gomultihash_ErrTooShort), ("pub-tholos/pub/gomultihash.ErrVarintBufferShort", laid_pub_tholos_pub_gomultihash_ErrVarintBufferShort), ("pub-tholos/pub/gomultihash.ErrVarintTooLong", laid_pub_tholos_pub_gomultihash_ErrVarintTooLong)] }
def FnDiffsPartedSaid : Prop := fnDiffsPartedRow.holds Tryd.pinned (OpenSpec.ofChange fnDiffsPartedSpec)

/-- ITS FALSE NEIGHBOUR: 'it returns false'. Refute it at one input. -/
def fnDiffsPartedWrong : ChangeSpec := { name := "fnDiffsParted", fn := fun _ => fun
  | [d1, d2] => { results := [.lit (.bool false)], args := [d1, d2] }
  | _ => none }
def FnDiffsPartedWrongFalsely : Prop := fnDiffsPartedRow.holds Tryd.pinned (OpenSpec.ofChange fnDiffsPartedWrong)

/- THE SECOND FORM. 'bulk': how many values and letters a reading holds, each counted each time it is reached (what is shared counts as often as it is met; a slice's spare places count too). A statement '..UptoSaid' is the law's where the arguments, and the package variables that the reading takes, are together of bulk at most 1048576: NARROWER than '..Said'. Prove '..Said' where nothing that the law and all that it calls make is longer than what came in: it says more and counts as full. Else prove '..UptoSaid'. A law counts once. -/
mutual
def uptoBulk {H : Type} : DataW H → Nat
  | .lit (.string bytes) => bytes.length + 1
  | .lit _ => 1
  | .nil => 1
  | .ptr d => uptoBulk d + 1
  | .slice elems spare => uptoBulkAll elems + uptoBulkAll spare + 1
  | .agg parts => uptoBulkAll parts + 1
  | .iface _ d => uptoBulk d + 1
  | .map entries => uptoBulkEntries entries + 1
  | .held _ => 1
def uptoBulkAll {H : Type} : List (DataW H) → Nat
  | [] => 0
  | d :: r => uptoBulk d + uptoBulkAll r
def uptoBulkEntries {H : Type} : List (Lit × DataW H) → Nat
  | [] => 0
  | x :: r => uptoBulkEntry x + uptoBulkEntries r
def uptoBulkEntry {H : Type} : Lit × DataW H → Nat
  | (.string bytes, d) => bytes.length + uptoBulk d + 1
  | (_, d) => uptoBulk d + 1
 end
def uptoSmall : (H : Type) → List (DataW H) → Bool := fun _ ds => decide (uptoBulkAll ds ≤ 1048576)
def OpenSpec.upto (s : _root_.Go.ChangeSpec) : _root_.Go.OpenSpec := { _root_.Go.OpenSpec.ofChange s with cond := some uptoSmall }

/-- 'laws.FnPbLinkRead', WHERE WHAT IT READS IS OF BULK AT MOST 1048576: true; the input reads as it did. -/
def fnPbLinkReadUptoRow : OpenClaim := { program := "ytnhnlodmkbiiiaadoor", sum := "d980d52fdf034ae94cc73d7dfa19524a8d295c3afeeac6b7bc31564ffd4e7137", func := "pub-tholos/laws.FnPbLinkRead", spec := "fnPbLinkRead", recurses := true, named := ["pub-tholos/pub/boxo/ipld/merkledag/pb.ErrIntOverflowMerkledag", "io.ErrUnexpectedEOF", "pub-tholos/pub/boxo/ipld/merkledag/pb.ErrInvalidLengthMerkledag", "pub-tholos/pub/boxo/ipld/merkledag/pb.ErrUnexpectedEndOfGroupMerkledag"], apart := false, laid := [("io.ErrUnexpectedEOF", laid_io_ErrUnexpectedEOF), ("pub-tholos/pub/boxo/ipld/merkledag/pb.ErrInvalidLengthMerkledag", laid_pub_tholos_pub_boxo_ipld_merkledag_pb_ErrInvalidLengthMerkledag), ("pub-tholos/pub/boxo/ipld/merkledag/pb.ErrIntOverflowMerkledag", laid_pub_tholos_pub_boxo_ipld_merkledag_pb_ErrIntOverflowMerkledag), ("pub-tholos/pub/boxo/ipld/merkledag/pb.ErrUnexpectedEndOfGroupMerkledag", laid_pub_tholos_pub_boxo_ipld_merkledag_pb_ErrUnexpectedEndOfGroupMerkledag)], narrowed := true }
def FnPbLinkReadUptoSaid : Prop := fnPbLinkReadUptoRow.holds Tryd.pinned (OpenSpec.upto fnPbLinkReadSpec)

/-- 'laws.FnPbLinkWrite', WHERE WHAT IT READS IS OF BULK AT MOST 1048576: true; the input reads as it did. -/
def fnPbLinkWriteUptoRow : OpenClaim := { program := "ytnhnlodmkbiiiaadoor", sum := "d980d52fdf034ae94cc73d7dfa19524a8d295c3afeeac6b7bc31564ffd4e7137", func := "pub-tholos/laws.FnPbLinkWrite", spec := "fnPbLinkWrite", named := ["pub-tholos/pub/boxo/ipld/merkledag/pb.ErrIntOverflowMerkledag", "io.ErrUnexpectedEOF", "pub-tholos/pub/boxo/ipld/merkledag/pb.ErrInvalidLengthMerkledag", "pub-tholos/pub/boxo/ipld/merkledag/pb.ErrUnexpectedEndOfGroupMerkledag"], apart := false, laid := [("io.ErrUnexpectedEOF", laid_io_ErrUnexpectedEOF), ("pub-tholos/pub/boxo/ipld/merkledag/pb.ErrInvalidLengthMerkledag", laid_pub_tholos_pub_boxo_ipld_merkledag_pb_ErrInvalidLengthMerkledag), ("pub-tholos/pub/boxo/ipld/merkledag/pb.ErrIntOverflowMerkledag", laid_pub_tholos_pub_boxo_ipld_merkledag_pb_ErrIntOverflowMerkledag), ("pub-tholos/pub/boxo/ipld/merkledag/pb.ErrUnexpectedEndOfGroupMerkledag", laid_pub_tholos_pub_boxo_ipld_merkledag_pb_ErrUnexpectedEndOfGroupMerkledag)], narrowed := true }
def FnPbLinkWriteUptoSaid : Prop := fnPbLinkWriteUptoRow.holds Tryd.pinned (OpenSpec.upto fnPbLinkWriteSpec)

/-- 'laws.FnPbJoined', WHERE WHAT IT READS IS OF BULK AT MOST 1048576: true; the input reads as it did. -/
def fnPbJoinedUptoRow : OpenClaim := { program := "ytnhnlodmkbiiiaadoor", sum := "d980d52fdf034ae94cc73d7dfa19524a8d295c3afeeac6b7bc31564ffd4e7137", func := "pub-tholos/laws.FnPbJoined", spec := "fnPbJoined", named := ["pub-tholos/pub/boxo/ipld/merkledag/pb.ErrIntOverflowMerkledag", "io.ErrUnexpectedEOF", "pub-tholos/pub/boxo/ipld/merkledag/pb.ErrInvalidLengthMerkledag", "pub-tholos/pub/boxo/ipld/merkledag/pb.ErrUnexpectedEndOfGroupMerkledag"], apart := false, laid := [("io.ErrUnexpectedEOF", laid_io_ErrUnexpectedEOF), ("pub-tholos/pub/boxo/ipld/merkledag/pb.ErrInvalidLengthMerkledag", laid_pub_tholos_pub_boxo_ipld_merkledag_pb_ErrInvalidLengthMerkledag), ("pub-tholos/pub/boxo/ipld/merkledag/pb.ErrIntOverflowMerkledag", laid_pub_tholos_pub_boxo_ipld_merkledag_pb_ErrIntOverflowMerkledag), ("pub-tholos/pub/boxo/ipld/merkledag/pb.ErrUnexpectedEndOfGroupMerkledag", laid_pub_tholos_pub_boxo_ipld_merkledag_pb_ErrUnexpectedEndOfGroupMerkledag)], narrowed := true }
def FnPbJoinedUptoSaid : Prop := fnPbJoinedUptoRow.holds Tryd.pinned (OpenSpec.upto fnPbJoinedSpec)

/-- 'laws.FnFieldsWrapped', WHERE WHAT IT READS IS OF BULK AT MOST 1048576: true; the input reads as it did. -/
def fnFieldsWrappedUptoRow : OpenClaim := { program := "ytnhnlodmkbiiiaadoor", sum := "d980d52fdf034ae94cc73d7dfa19524a8d295c3afeeac6b7bc31564ffd4e7137", func := "pub-tholos/laws.FnFieldsWrapped", spec := "fnFieldsWrapped", named := ["pub-tholos/pub/boxo/ipld/unixfs/pb.ErrRequiredNotSetUnixfs", "pub-tholos/pub/boxo/ipld/unixfs/pb.ErrIntOverflowUnixfs", "io.ErrUnexpectedEOF", "pub-tholos/pub/boxo/ipld/unixfs/pb.ErrInvalidLengthUnixfs", "pub-tholos/pub/boxo/ipld/unixfs/pb.ErrUnexpectedEndOfGroupUnixfs"], apart := false, laid := [("io.ErrUnexpectedEOF", laid_io_ErrUnexpectedEOF), ("pub-tholos/pub/boxo/ipld/unixfs/pb.ErrInvalidLengthUnixfs", laid_pub_tholos_pub_boxo_ipld_unixfs_pb_ErrInvalidLengthUnixfs), ("pub-tholos/pub/boxo/ipld/unixfs/pb.ErrIntOverflowUnixfs", laid_pub_tholos_pub_boxo_ipld_unixfs_pb_ErrIntOverflowUnixfs), ("pub-tholos/pub/boxo/ipld/unixfs/pb.ErrUnexpectedEndOfGroupUnixfs", laid_pub_tholos_pub_boxo_ipld_unixfs_pb_ErrUnexpectedEndOfGroupUnixfs), ("pub-tholos/pub/boxo/ipld/unixfs/pb.ErrRequiredNotSetUnixfs", laid_pub_tholos_pub_boxo_ipld_unixfs_pb_ErrRequiredNotSetUnixfs)], narrowed := true }
def FnFieldsWrappedUptoSaid : Prop := fnFieldsWrappedUptoRow.holds Tryd.pinned (OpenSpec.upto fnFieldsWrappedSpec)

/-- 'laws.FnFieldsWrite', WHERE WHAT IT READS IS OF BULK AT MOST 1048576: true; the input reads as it did. -/
def fnFieldsWriteUptoRow : OpenClaim := { program := "ytnhnlodmkbiiiaadoor", sum := "d980d52fdf034ae94cc73d7dfa19524a8d295c3afeeac6b7bc31564ffd4e7137", func := "pub-tholos/laws.FnFieldsWrite", spec := "fnFieldsWrite", named := ["pub-tholos/pub/boxo/ipld/unixfs/pb.ErrRequiredNotSetUnixfs", "pub-tholos/pub/boxo/ipld/unixfs/pb.ErrIntOverflowUnixfs", "io.ErrUnexpectedEOF", "pub-tholos/pub/boxo/ipld/unixfs/pb.ErrInvalidLengthUnixfs", "pub-tholos/pub/boxo/ipld/unixfs/pb.ErrUnexpectedEndOfGroupUnixfs"], apart := false, laid := [("io.ErrUnexpectedEOF", laid_io_ErrUnexpectedEOF), ("pub-tholos/pub/boxo/ipld/unixfs/pb.ErrInvalidLengthUnixfs", laid_pub_tholos_pub_boxo_ipld_unixfs_pb_ErrInvalidLengthUnixfs), ("pub-tholos/pub/boxo/ipld/unixfs/pb.ErrIntOverflowUnixfs", laid_pub_tholos_pub_boxo_ipld_unixfs_pb_ErrIntOverflowUnixfs), ("pub-tholos/pub/boxo/ipld/unixfs/pb.ErrUnexpectedEndOfGroupUnixfs", laid_pub_tholos_pub_boxo_ipld_unixfs_pb_ErrUnexpectedEndOfGroupUnixfs), ("pub-tholos/pub/boxo/ipld/unixfs/pb.ErrRequiredNotSetUnixfs", laid_pub_tholos_pub_boxo_ipld_unixfs_pb_ErrRequiredNotSetUnixfs)], narrowed := true }
def FnFieldsWriteUptoSaid : Prop := fnFieldsWriteUptoRow.holds Tryd.pinned (OpenSpec.upto fnFieldsWriteSpec)

/-- 'laws.FnFieldsBack', WHERE WHAT IT READS IS OF BULK AT MOST 1048576: true; the input reads as it did. -/
def fnFieldsBackUptoRow : OpenClaim := { program := "ytnhnlodmkbiiiaadoor", sum := "d980d52fdf034ae94cc73d7dfa19524a8d295c3afeeac6b7bc31564ffd4e7137", func := "pub-tholos/laws.FnFieldsBack", spec := "fnFieldsBack", named := ["pub-tholos/pub/boxo/ipld/unixfs/pb.ErrRequiredNotSetUnixfs", "pub-tholos/pub/boxo/ipld/unixfs/pb.ErrIntOverflowUnixfs", "io.ErrUnexpectedEOF", "pub-tholos/pub/boxo/ipld/unixfs/pb.ErrInvalidLengthUnixfs", "pub-tholos/pub/boxo/ipld/unixfs/pb.ErrUnexpectedEndOfGroupUnixfs"], apart := false, laid := [("io.ErrUnexpectedEOF", laid_io_ErrUnexpectedEOF), ("pub-tholos/pub/boxo/ipld/unixfs/pb.ErrInvalidLengthUnixfs", laid_pub_tholos_pub_boxo_ipld_unixfs_pb_ErrInvalidLengthUnixfs), ("pub-tholos/pub/boxo/ipld/unixfs/pb.ErrIntOverflowUnixfs", laid_pub_tholos_pub_boxo_ipld_unixfs_pb_ErrIntOverflowUnixfs), ("pub-tholos/pub/boxo/ipld/unixfs/pb.ErrUnexpectedEndOfGroupUnixfs", laid_pub_tholos_pub_boxo_ipld_unixfs_pb_ErrUnexpectedEndOfGroupUnixfs), ("pub-tholos/pub/boxo/ipld/unixfs/pb.ErrRequiredNotSetUnixfs", laid_pub_tholos_pub_boxo_ipld_unixfs_pb_ErrRequiredNotSetUnixfs)], narrowed := true }
def FnFieldsBackUptoSaid : Prop := fnFieldsBackUptoRow.holds Tryd.pinned (OpenSpec.upto fnFieldsBackSpec)

/-- 'laws.FnFieldsScript', WHERE WHAT IT READS IS OF BULK AT MOST 1048576: true; the input reads as it did. -/
def fnFieldsScriptUptoRow : OpenClaim := { program := "ytnhnlodmkbiiiaadoor", sum := "d980d52fdf034ae94cc73d7dfa19524a8d295c3afeeac6b7bc31564ffd4e7137", func := "pub-tholos/laws.FnFieldsScript", spec := "fnFieldsScript", named := ["pub-tholos/pub/boxo/ipld/unixfs/pb.ErrRequiredNotSetUnixfs", "pub-tholos/pub/boxo/ipld/unixfs/pb.ErrIntOverflowUnixfs", "io.ErrUnexpectedEOF", "pub-tholos/pub/boxo/ipld/unixfs/pb.ErrInvalidLengthUnixfs", "pub-tholos/pub/boxo/ipld/unixfs/pb.ErrUnexpectedEndOfGroupUnixfs"], apart := false, laid := [("io.ErrUnexpectedEOF", laid_io_ErrUnexpectedEOF), ("pub-tholos/pub/boxo/ipld/unixfs/pb.ErrInvalidLengthUnixfs", laid_pub_tholos_pub_boxo_ipld_unixfs_pb_ErrInvalidLengthUnixfs), ("pub-tholos/pub/boxo/ipld/unixfs/pb.ErrIntOverflowUnixfs", laid_pub_tholos_pub_boxo_ipld_unixfs_pb_ErrIntOverflowUnixfs), ("pub-tholos/pub/boxo/ipld/unixfs/pb.ErrUnexpectedEndOfGroupUnixfs", laid_pub_tholos_pub_boxo_ipld_unixfs_pb_ErrUnexpectedEndOfGroupUnixfs), ("pub-tholos/pub/boxo/ipld/unixfs/pb.ErrRequiredNotSetUnixfs", laid_pub_tholos_pub_boxo_ipld_unixfs_pb_ErrRequiredNotSetUnixfs)], narrowed := true }
def FnFieldsScriptUptoSaid : Prop := fnFieldsScriptUptoRow.holds Tryd.pinned (OpenSpec.upto fnFieldsScriptSpec)

/-- 'laws.FnDiffsParted', WHERE WHAT IT READS IS OF BULK AT MOST 1048576: true; the input reads as it did. -/
def fnDiffsPartedUptoRow : OpenClaim := { program := "ytnhnlodmkbiiiaadoor", sum := "d980d52fdf034ae94cc73d7dfa19524a8d295c3afeeac6b7bc31564ffd4e7137", func := "pub-tholos/laws.FnDiffsParted", spec := "fnDiffsParted", unfollowed := true, recurses := true, named := ["pub-tholos/pub/gomultihash.ErrTooShort", "pub-tholos/pub/gomultihash.ErrVarintBufferShort", "pub-tholos/pub/gomultihash.ErrVarintTooLong", "pub-tholos/pub/govarint.ErrOverflow", "pub-tholos/pub/govarint.ErrNotMinimal", "pub-tholos/pub/govarint.ErrUnderflow"], apart := false, laid := [("pub-tholos/pub/govarint.ErrOverflow", laid_pub_tholos_pub_govarint_ErrOverflow), ("pub-tholos/pub/govarint.ErrUnderflow", laid_pub_tholos_pub_govarint_ErrUnderflow), ("pub-tholos/pub/govarint.ErrNotMinimal", laid_pub_tholos_pub_govarint_ErrNotMinimal), ("pub-tholos/pub/gomultihash.ErrTooShort", laid_pub_tholos_pub_gomultihash_ErrTooShort), ("pub-tholos/pub/gomultihash.ErrVarintBufferShort", laid_pub_tholos_pub_gomultihash_ErrVarintBufferShort), ("pub-tholos/pub/gomultihash.ErrVarintTooLong", laid_pub_tholos_pub_gomultihash_ErrVarintTooLong)], narrowed := true }
def FnDiffsPartedUptoSaid : Prop := fnDiffsPartedUptoRow.holds Tryd.pinned (OpenSpec.upto fnDiffsPartedSpec)

end Rows
end Go.Proofs.YtnhnlodmkbiiiaaDoor
