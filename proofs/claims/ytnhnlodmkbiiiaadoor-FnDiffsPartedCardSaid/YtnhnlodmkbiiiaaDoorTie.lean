/-
  DERIVED. GIVEN WITH THE SEED: THE PROGRAM's TIES (one call each: nine closed facts by the kernel) AND EACH ROW's TIE, after the 31st guide's Derived/Test/Toyas{Tie, Card}.lean. No idea stands in it: it is a product of the set-up. Laid BY PROGRAM, IN A SANDBOX (cutbox-door.mjs). By AI agents, Wed Nov 11 2026. No macro, syntax, notation, axiom, sorry.
-/
import Derived.Test.YtnhnlodmkbiiiaaDoorRows
import Derived.LaidByTextLater
import Derived.SevenTiedAt
import Derived.LaidSub
import Derived.LaidOnce
namespace Go.Proofs.YtnhnlodmkbiiiaaDoor
open Go
set_option maxRecDepth 100000
theorem seatTie1 : Tryd.prog.laidByTextLater [("io.ErrUnexpectedEOF", Rows.laid_io_ErrUnexpectedEOF), ("pub-tholos/pub/boxo/ipld/unixfs/pb.ErrInvalidLengthUnixfs", Rows.laid_pub_tholos_pub_boxo_ipld_unixfs_pb_ErrInvalidLengthUnixfs), ("pub-tholos/pub/boxo/ipld/unixfs/pb.ErrIntOverflowUnixfs", Rows.laid_pub_tholos_pub_boxo_ipld_unixfs_pb_ErrIntOverflowUnixfs), ("pub-tholos/pub/boxo/ipld/unixfs/pb.ErrUnexpectedEndOfGroupUnixfs", Rows.laid_pub_tholos_pub_boxo_ipld_unixfs_pb_ErrUnexpectedEndOfGroupUnixfs), ("pub-tholos/pub/boxo/ipld/unixfs/pb.ErrRequiredNotSetUnixfs", Rows.laid_pub_tholos_pub_boxo_ipld_unixfs_pb_ErrRequiredNotSetUnixfs), ("pub-tholos/pub/boxo/ipld/merkledag/pb.ErrInvalidLengthMerkledag", Rows.laid_pub_tholos_pub_boxo_ipld_merkledag_pb_ErrInvalidLengthMerkledag), ("pub-tholos/pub/boxo/ipld/merkledag/pb.ErrIntOverflowMerkledag", Rows.laid_pub_tholos_pub_boxo_ipld_merkledag_pb_ErrIntOverflowMerkledag), ("pub-tholos/pub/boxo/ipld/merkledag/pb.ErrUnexpectedEndOfGroupMerkledag", Rows.laid_pub_tholos_pub_boxo_ipld_merkledag_pb_ErrUnexpectedEndOfGroupMerkledag), ("pub-tholos/pub/govarint.ErrOverflow", Rows.laid_pub_tholos_pub_govarint_ErrOverflow), ("pub-tholos/pub/govarint.ErrUnderflow", Rows.laid_pub_tholos_pub_govarint_ErrUnderflow), ("pub-tholos/pub/govarint.ErrNotMinimal", Rows.laid_pub_tholos_pub_govarint_ErrNotMinimal), ("pub-tholos/pub/gomultihash.ErrTooShort", Rows.laid_pub_tholos_pub_gomultihash_ErrTooShort), ("pub-tholos/pub/gomultihash.ErrVarintBufferShort", Rows.laid_pub_tholos_pub_gomultihash_ErrVarintBufferShort), ("pub-tholos/pub/gomultihash.ErrVarintTooLong", Rows.laid_pub_tholos_pub_gomultihash_ErrVarintTooLong)] [.sentinel, .sentinel, .sentinel, .sentinel, .sentinel, .sentinel, .sentinel, .sentinel, .sentinel, .sentinel, .sentinel, .sentinel, .sentinel, .sentinel] true :=
  Program.laidByTextLater_by_one 275 8 2 (by kernel_rfl) (by kernel_rfl) (by kernel_rfl) (by kernel_rfl) (by kernel_rfl) (by kernel_rfl) (fun _ _ => by kernel_rfl)
theorem noOwnUnsafe : Tryd.pinned.checked.prog.headLifts.contains "ownunsafe" = false := by kernel_rfl
theorem tie : Tryd.prog.laidByTextLater [("io.ErrUnexpectedEOF", Rows.laid_io_ErrUnexpectedEOF), ("pub-tholos/pub/boxo/ipld/merkledag/pb.ErrInvalidLengthMerkledag", Rows.laid_pub_tholos_pub_boxo_ipld_merkledag_pb_ErrInvalidLengthMerkledag), ("pub-tholos/pub/boxo/ipld/merkledag/pb.ErrIntOverflowMerkledag", Rows.laid_pub_tholos_pub_boxo_ipld_merkledag_pb_ErrIntOverflowMerkledag), ("pub-tholos/pub/boxo/ipld/merkledag/pb.ErrUnexpectedEndOfGroupMerkledag", Rows.laid_pub_tholos_pub_boxo_ipld_merkledag_pb_ErrUnexpectedEndOfGroupMerkledag)] [.sentinel, .sentinel, .sentinel, .sentinel] true :=
  Program.laidByTextLater.sub seatTie1 ["io.ErrUnexpectedEOF", "pub-tholos/pub/boxo/ipld/merkledag/pb.ErrInvalidLengthMerkledag", "pub-tholos/pub/boxo/ipld/merkledag/pb.ErrIntOverflowMerkledag", "pub-tholos/pub/boxo/ipld/merkledag/pb.ErrUnexpectedEndOfGroupMerkledag"] (by kernel_rfl) (by kernel_rfl)
theorem fnPbLinkRead_row_tie : Rows.fnPbLinkReadRow.laidByTextAt .later Tryd.pinned [.sentinel, .sentinel, .sentinel, .sentinel] true :=
  OpenClaim.laidByTextAt_later rfl rfl tie noOwnUnsafe
theorem fnPbLinkWrite_row_tie : Rows.fnPbLinkWriteRow.laidByTextAt .later Tryd.pinned [.sentinel, .sentinel, .sentinel, .sentinel] true :=
  OpenClaim.laidByTextAt_later rfl rfl tie noOwnUnsafe
theorem fnPbJoined_row_tie : Rows.fnPbJoinedRow.laidByTextAt .later Tryd.pinned [.sentinel, .sentinel, .sentinel, .sentinel] true :=
  OpenClaim.laidByTextAt_later rfl rfl tie noOwnUnsafe
theorem tie2 : Tryd.prog.laidByTextLater [("io.ErrUnexpectedEOF", Rows.laid_io_ErrUnexpectedEOF), ("pub-tholos/pub/boxo/ipld/unixfs/pb.ErrInvalidLengthUnixfs", Rows.laid_pub_tholos_pub_boxo_ipld_unixfs_pb_ErrInvalidLengthUnixfs), ("pub-tholos/pub/boxo/ipld/unixfs/pb.ErrIntOverflowUnixfs", Rows.laid_pub_tholos_pub_boxo_ipld_unixfs_pb_ErrIntOverflowUnixfs), ("pub-tholos/pub/boxo/ipld/unixfs/pb.ErrUnexpectedEndOfGroupUnixfs", Rows.laid_pub_tholos_pub_boxo_ipld_unixfs_pb_ErrUnexpectedEndOfGroupUnixfs), ("pub-tholos/pub/boxo/ipld/unixfs/pb.ErrRequiredNotSetUnixfs", Rows.laid_pub_tholos_pub_boxo_ipld_unixfs_pb_ErrRequiredNotSetUnixfs)] [.sentinel, .sentinel, .sentinel, .sentinel, .sentinel] true :=
  Program.laidByTextLater.sub seatTie1 ["io.ErrUnexpectedEOF", "pub-tholos/pub/boxo/ipld/unixfs/pb.ErrInvalidLengthUnixfs", "pub-tholos/pub/boxo/ipld/unixfs/pb.ErrIntOverflowUnixfs", "pub-tholos/pub/boxo/ipld/unixfs/pb.ErrUnexpectedEndOfGroupUnixfs", "pub-tholos/pub/boxo/ipld/unixfs/pb.ErrRequiredNotSetUnixfs"] (by kernel_rfl) (by kernel_rfl)
theorem fnFieldsWrapped_row_tie : Rows.fnFieldsWrappedRow.laidByTextAt .later Tryd.pinned [.sentinel, .sentinel, .sentinel, .sentinel, .sentinel] true :=
  OpenClaim.laidByTextAt_later rfl rfl tie2 noOwnUnsafe
theorem fnFieldsWrite_row_tie : Rows.fnFieldsWriteRow.laidByTextAt .later Tryd.pinned [.sentinel, .sentinel, .sentinel, .sentinel, .sentinel] true :=
  OpenClaim.laidByTextAt_later rfl rfl tie2 noOwnUnsafe
theorem fnFieldsBack_row_tie : Rows.fnFieldsBackRow.laidByTextAt .later Tryd.pinned [.sentinel, .sentinel, .sentinel, .sentinel, .sentinel] true :=
  OpenClaim.laidByTextAt_later rfl rfl tie2 noOwnUnsafe
theorem fnFieldsScript_row_tie : Rows.fnFieldsScriptRow.laidByTextAt .later Tryd.pinned [.sentinel, .sentinel, .sentinel, .sentinel, .sentinel] true :=
  OpenClaim.laidByTextAt_later rfl rfl tie2 noOwnUnsafe
theorem tie3 : Tryd.prog.laidByTextLater [("pub-tholos/pub/govarint.ErrOverflow", Rows.laid_pub_tholos_pub_govarint_ErrOverflow), ("pub-tholos/pub/govarint.ErrUnderflow", Rows.laid_pub_tholos_pub_govarint_ErrUnderflow), ("pub-tholos/pub/govarint.ErrNotMinimal", Rows.laid_pub_tholos_pub_govarint_ErrNotMinimal), ("pub-tholos/pub/gomultihash.ErrTooShort", Rows.laid_pub_tholos_pub_gomultihash_ErrTooShort), ("pub-tholos/pub/gomultihash.ErrVarintBufferShort", Rows.laid_pub_tholos_pub_gomultihash_ErrVarintBufferShort), ("pub-tholos/pub/gomultihash.ErrVarintTooLong", Rows.laid_pub_tholos_pub_gomultihash_ErrVarintTooLong)] [.sentinel, .sentinel, .sentinel, .sentinel, .sentinel, .sentinel] true :=
  Program.laidByTextLater.sub seatTie1 ["pub-tholos/pub/govarint.ErrOverflow", "pub-tholos/pub/govarint.ErrUnderflow", "pub-tholos/pub/govarint.ErrNotMinimal", "pub-tholos/pub/gomultihash.ErrTooShort", "pub-tholos/pub/gomultihash.ErrVarintBufferShort", "pub-tholos/pub/gomultihash.ErrVarintTooLong"] (by kernel_rfl) (by kernel_rfl)
theorem fnDiffsParted_row_tie : Rows.fnDiffsPartedRow.laidByTextAt .later Tryd.pinned [.sentinel, .sentinel, .sentinel, .sentinel, .sentinel, .sentinel] true :=
  OpenClaim.laidByTextAt_later rfl rfl tie3 noOwnUnsafe
theorem fnPbLinkReadUpto_row_tie : Rows.fnPbLinkReadUptoRow.laidByTextAt .later Tryd.pinned [.sentinel, .sentinel, .sentinel, .sentinel] true :=
  OpenClaim.laidByTextAt_later rfl rfl tie noOwnUnsafe
theorem fnPbLinkWriteUpto_row_tie : Rows.fnPbLinkWriteUptoRow.laidByTextAt .later Tryd.pinned [.sentinel, .sentinel, .sentinel, .sentinel] true :=
  OpenClaim.laidByTextAt_later rfl rfl tie noOwnUnsafe
theorem fnPbJoinedUpto_row_tie : Rows.fnPbJoinedUptoRow.laidByTextAt .later Tryd.pinned [.sentinel, .sentinel, .sentinel, .sentinel] true :=
  OpenClaim.laidByTextAt_later rfl rfl tie noOwnUnsafe
theorem fnFieldsWrappedUpto_row_tie : Rows.fnFieldsWrappedUptoRow.laidByTextAt .later Tryd.pinned [.sentinel, .sentinel, .sentinel, .sentinel, .sentinel] true :=
  OpenClaim.laidByTextAt_later rfl rfl tie2 noOwnUnsafe
theorem fnFieldsWriteUpto_row_tie : Rows.fnFieldsWriteUptoRow.laidByTextAt .later Tryd.pinned [.sentinel, .sentinel, .sentinel, .sentinel, .sentinel] true :=
  OpenClaim.laidByTextAt_later rfl rfl tie2 noOwnUnsafe
theorem fnFieldsBackUpto_row_tie : Rows.fnFieldsBackUptoRow.laidByTextAt .later Tryd.pinned [.sentinel, .sentinel, .sentinel, .sentinel, .sentinel] true :=
  OpenClaim.laidByTextAt_later rfl rfl tie2 noOwnUnsafe
theorem fnFieldsScriptUpto_row_tie : Rows.fnFieldsScriptUptoRow.laidByTextAt .later Tryd.pinned [.sentinel, .sentinel, .sentinel, .sentinel, .sentinel] true :=
  OpenClaim.laidByTextAt_later rfl rfl tie2 noOwnUnsafe
theorem fnDiffsPartedUpto_row_tie : Rows.fnDiffsPartedUptoRow.laidByTextAt .later Tryd.pinned [.sentinel, .sentinel, .sentinel, .sentinel, .sentinel, .sentinel] true :=
  OpenClaim.laidByTextAt_later rfl rfl tie3 noOwnUnsafe
end Go.Proofs.YtnhnlodmkbiiiaaDoor
