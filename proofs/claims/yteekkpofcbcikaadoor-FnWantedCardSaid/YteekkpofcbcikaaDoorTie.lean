/-
  DERIVED. GIVEN WITH THE SEED: THE PROGRAM's TIES (one call each: nine closed facts by the kernel) AND EACH ROW's TIE, after the 31st guide's Derived/Test/Toyas{Tie, Card}.lean. No idea stands in it: it is a product of the set-up. Laid BY PROGRAM, IN A SANDBOX (cutbox-door.mjs). By AI agents, Wed Nov 11 2026. No macro, syntax, notation, axiom, sorry.
-/
import Derived.Test.YteekkpofcbcikaaDoorRows
import Derived.LaidByTextLater
import Derived.SevenTiedAt
import Derived.LaidSub
import Derived.LaidOnce
namespace Go.Proofs.YteekkpofcbcikaaDoor
open Go
set_option maxRecDepth 100000
theorem seatTie1 : Tryd.prog.laidByTextLater [("io.ErrUnexpectedEOF", Rows.laid_io_ErrUnexpectedEOF), ("pub-tholos/pub/govarint.ErrOverflow", Rows.laid_pub_tholos_pub_govarint_ErrOverflow), ("pub-tholos/pub/govarint.ErrUnderflow", Rows.laid_pub_tholos_pub_govarint_ErrUnderflow), ("pub-tholos/pub/govarint.ErrNotMinimal", Rows.laid_pub_tholos_pub_govarint_ErrNotMinimal), ("pub-tholos/pub/gomultihash.ErrTooShort", Rows.laid_pub_tholos_pub_gomultihash_ErrTooShort), ("pub-tholos/pub/gomultihash.ErrVarintBufferShort", Rows.laid_pub_tholos_pub_gomultihash_ErrVarintBufferShort), ("pub-tholos/pub/gomultihash.ErrVarintTooLong", Rows.laid_pub_tholos_pub_gomultihash_ErrVarintTooLong), ("pub-tholos/pub/boxo/bitswap/message/pb.ErrInvalidLengthMessage", Rows.laid_pub_tholos_pub_boxo_bitswap_message_pb_ErrInvalidLengthMessage), ("pub-tholos/pub/boxo/bitswap/message/pb.ErrIntOverflowMessage", Rows.laid_pub_tholos_pub_boxo_bitswap_message_pb_ErrIntOverflowMessage), ("pub-tholos/pub/boxo/bitswap/message/pb.ErrUnexpectedEndOfGroupMessage", Rows.laid_pub_tholos_pub_boxo_bitswap_message_pb_ErrUnexpectedEndOfGroupMessage)] [.sentinel, .sentinel, .sentinel, .sentinel, .sentinel, .sentinel, .sentinel, .sentinel, .sentinel, .sentinel] true :=
  Program.laidByTextLater_by_one 199 8 2 (by kernel_rfl) (by kernel_rfl) (by kernel_rfl) (by kernel_rfl) (by kernel_rfl) (by kernel_rfl) (fun _ _ => by kernel_rfl)
theorem noOwnUnsafe : Tryd.pinned.checked.prog.headLifts.contains "ownunsafe" = false := by kernel_rfl
theorem tie : Tryd.prog.laidByTextLater [("pub-tholos/pub/govarint.ErrOverflow", Rows.laid_pub_tholos_pub_govarint_ErrOverflow), ("pub-tholos/pub/govarint.ErrUnderflow", Rows.laid_pub_tholos_pub_govarint_ErrUnderflow), ("pub-tholos/pub/govarint.ErrNotMinimal", Rows.laid_pub_tholos_pub_govarint_ErrNotMinimal), ("pub-tholos/pub/gomultihash.ErrTooShort", Rows.laid_pub_tholos_pub_gomultihash_ErrTooShort), ("pub-tholos/pub/gomultihash.ErrVarintBufferShort", Rows.laid_pub_tholos_pub_gomultihash_ErrVarintBufferShort), ("pub-tholos/pub/gomultihash.ErrVarintTooLong", Rows.laid_pub_tholos_pub_gomultihash_ErrVarintTooLong)] [.sentinel, .sentinel, .sentinel, .sentinel, .sentinel, .sentinel] true :=
  Program.laidByTextLater.sub seatTie1 ["pub-tholos/pub/govarint.ErrOverflow", "pub-tholos/pub/govarint.ErrUnderflow", "pub-tholos/pub/govarint.ErrNotMinimal", "pub-tholos/pub/gomultihash.ErrTooShort", "pub-tholos/pub/gomultihash.ErrVarintBufferShort", "pub-tholos/pub/gomultihash.ErrVarintTooLong"] (by kernel_rfl) (by kernel_rfl)
theorem fnWantedAgain_row_tie : Rows.fnWantedAgainRow.laidByTextAt .later Tryd.pinned [.sentinel, .sentinel, .sentinel, .sentinel, .sentinel, .sentinel] true :=
  OpenClaim.laidByTextAt_later rfl rfl tie noOwnUnsafe
theorem fnWanted_row_tie : Rows.fnWantedRow.laidByTextAt .later Tryd.pinned [.sentinel, .sentinel, .sentinel, .sentinel, .sentinel, .sentinel] true :=
  OpenClaim.laidByTextAt_later rfl rfl tie noOwnUnsafe
theorem tie2 : Tryd.prog.laidByTextLater [("io.ErrUnexpectedEOF", Rows.laid_io_ErrUnexpectedEOF), ("pub-tholos/pub/govarint.ErrOverflow", Rows.laid_pub_tholos_pub_govarint_ErrOverflow), ("pub-tholos/pub/govarint.ErrUnderflow", Rows.laid_pub_tholos_pub_govarint_ErrUnderflow), ("pub-tholos/pub/govarint.ErrNotMinimal", Rows.laid_pub_tholos_pub_govarint_ErrNotMinimal), ("pub-tholos/pub/gomultihash.ErrTooShort", Rows.laid_pub_tholos_pub_gomultihash_ErrTooShort), ("pub-tholos/pub/gomultihash.ErrVarintBufferShort", Rows.laid_pub_tholos_pub_gomultihash_ErrVarintBufferShort), ("pub-tholos/pub/gomultihash.ErrVarintTooLong", Rows.laid_pub_tholos_pub_gomultihash_ErrVarintTooLong), ("pub-tholos/pub/boxo/bitswap/message/pb.ErrInvalidLengthMessage", Rows.laid_pub_tholos_pub_boxo_bitswap_message_pb_ErrInvalidLengthMessage), ("pub-tholos/pub/boxo/bitswap/message/pb.ErrIntOverflowMessage", Rows.laid_pub_tholos_pub_boxo_bitswap_message_pb_ErrIntOverflowMessage), ("pub-tholos/pub/boxo/bitswap/message/pb.ErrUnexpectedEndOfGroupMessage", Rows.laid_pub_tholos_pub_boxo_bitswap_message_pb_ErrUnexpectedEndOfGroupMessage)] [.sentinel, .sentinel, .sentinel, .sentinel, .sentinel, .sentinel, .sentinel, .sentinel, .sentinel, .sentinel] true :=
  Program.laidByTextLater.sub seatTie1 ["io.ErrUnexpectedEOF", "pub-tholos/pub/govarint.ErrOverflow", "pub-tholos/pub/govarint.ErrUnderflow", "pub-tholos/pub/govarint.ErrNotMinimal", "pub-tholos/pub/gomultihash.ErrTooShort", "pub-tholos/pub/gomultihash.ErrVarintBufferShort", "pub-tholos/pub/gomultihash.ErrVarintTooLong", "pub-tholos/pub/boxo/bitswap/message/pb.ErrInvalidLengthMessage", "pub-tholos/pub/boxo/bitswap/message/pb.ErrIntOverflowMessage", "pub-tholos/pub/boxo/bitswap/message/pb.ErrUnexpectedEndOfGroupMessage"] (by kernel_rfl) (by kernel_rfl)
theorem fnMsgBack_row_tie : Rows.fnMsgBackRow.laidByTextAt .later Tryd.pinned [.sentinel, .sentinel, .sentinel, .sentinel, .sentinel, .sentinel, .sentinel, .sentinel, .sentinel, .sentinel] true :=
  OpenClaim.laidByTextAt_later rfl rfl tie2 noOwnUnsafe
theorem fnMsgReadBack_row_tie : Rows.fnMsgReadBackRow.laidByTextAt .later Tryd.pinned [.sentinel, .sentinel, .sentinel, .sentinel, .sentinel, .sentinel, .sentinel, .sentinel, .sentinel, .sentinel] true :=
  OpenClaim.laidByTextAt_later rfl rfl tie2 noOwnUnsafe
theorem fnWantedAgainUpto_row_tie : Rows.fnWantedAgainUptoRow.laidByTextAt .later Tryd.pinned [.sentinel, .sentinel, .sentinel, .sentinel, .sentinel, .sentinel] true :=
  OpenClaim.laidByTextAt_later rfl rfl tie noOwnUnsafe
theorem fnWantedUpto_row_tie : Rows.fnWantedUptoRow.laidByTextAt .later Tryd.pinned [.sentinel, .sentinel, .sentinel, .sentinel, .sentinel, .sentinel] true :=
  OpenClaim.laidByTextAt_later rfl rfl tie noOwnUnsafe
theorem fnMsgBackUpto_row_tie : Rows.fnMsgBackUptoRow.laidByTextAt .later Tryd.pinned [.sentinel, .sentinel, .sentinel, .sentinel, .sentinel, .sentinel, .sentinel, .sentinel, .sentinel, .sentinel] true :=
  OpenClaim.laidByTextAt_later rfl rfl tie2 noOwnUnsafe
theorem fnMsgReadBackUpto_row_tie : Rows.fnMsgReadBackUptoRow.laidByTextAt .later Tryd.pinned [.sentinel, .sentinel, .sentinel, .sentinel, .sentinel, .sentinel, .sentinel, .sentinel, .sentinel, .sentinel] true :=
  OpenClaim.laidByTextAt_later rfl rfl tie2 noOwnUnsafe
end Go.Proofs.YteekkpofcbcikaaDoor
