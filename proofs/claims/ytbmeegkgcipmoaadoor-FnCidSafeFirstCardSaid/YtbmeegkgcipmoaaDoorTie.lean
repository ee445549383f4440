/-
  DERIVED. GIVEN WITH THE SEED: THE PROGRAM's TIES (one call each: nine closed facts by the kernel) AND EACH ROW's TIE, after the 31st guide's Derived/Test/Toyas{Tie, Card}.lean. No idea stands in it: it is a product of the set-up. Laid BY PROGRAM, IN A SANDBOX (cutbox-door.mjs). By AI agents, Wed Nov 11 2026. No macro, syntax, notation, axiom, sorry.
-/
import Derived.Test.YtbmeegkgcipmoaaDoorRows
import Derived.LaidByTextLater
import Derived.SevenTiedAt
import Derived.LaidSub
import Derived.LaidOnce
namespace Go.Proofs.YtbmeegkgcipmoaaDoor
open Go
set_option maxRecDepth 100000
theorem seatTie1 : Tryd.prog.laidByTextLater [("unicode/utf8.acceptRanges", Rows.laid_unicode_utf8_acceptRanges), ("pub-tholos/pub/govarint.ErrOverflow", Rows.laid_pub_tholos_pub_govarint_ErrOverflow), ("pub-tholos/pub/govarint.ErrUnderflow", Rows.laid_pub_tholos_pub_govarint_ErrUnderflow), ("pub-tholos/pub/govarint.ErrNotMinimal", Rows.laid_pub_tholos_pub_govarint_ErrNotMinimal), ("pub-tholos/pub/gomultihash.ErrTooShort", Rows.laid_pub_tholos_pub_gomultihash_ErrTooShort), ("pub-tholos/pub/gomultihash.ErrVarintBufferShort", Rows.laid_pub_tholos_pub_gomultihash_ErrVarintBufferShort), ("pub-tholos/pub/gomultihash.ErrVarintTooLong", Rows.laid_pub_tholos_pub_gomultihash_ErrVarintTooLong), ("pub-tholos/pub/boxo/verifcid.DefaultAllowlist", Rows.laid_pub_tholos_pub_boxo_verifcid_DefaultAllowlist), ("pub-tholos/pub/boxo/verifcid.ErrPossiblyInsecureHashFunction", Rows.laid_pub_tholos_pub_boxo_verifcid_ErrPossiblyInsecureHashFunction), ("pub-tholos/pub/boxo/verifcid.ErrBelowMinimumHashLength", Rows.laid_pub_tholos_pub_boxo_verifcid_ErrBelowMinimumHashLength), ("pub-tholos/pub/boxo/verifcid.ErrAboveMaximumHashLength", Rows.laid_pub_tholos_pub_boxo_verifcid_ErrAboveMaximumHashLength)] [.data, .sentinel, .sentinel, .sentinel, .sentinel, .sentinel, .sentinel, .data, .sentinel, .sentinel, .sentinel] true :=
  Program.laidByTextLater_by_one 195 8 33 (by kernel_rfl) (by kernel_rfl) (by kernel_rfl) (by kernel_rfl) (by kernel_rfl) (by kernel_rfl) (fun _ _ => by kernel_rfl)
theorem pin_laid_unicode_utf8_first : Tryd.pinned.checked.prog.pinnedFits "unicode/utf8.first" = true := by kernel_rfl
theorem noOwnUnsafe : Tryd.pinned.checked.prog.headLifts.contains "ownunsafe" = false := by kernel_rfl
theorem fits1 : Tryd.pinned.checked.prog.listedFits [("unicode/utf8.acceptRanges", Rows.laid_unicode_utf8_acceptRanges), ("unicode/utf8.first", Rows.laid_unicode_utf8_first)] = true := by
  unfold Program.listedFits
  rw [noOwnUnsafe]
  kernel_rfl
theorem tie : Tryd.prog.laidByTextLater [("unicode/utf8.acceptRanges", Rows.laid_unicode_utf8_acceptRanges)] [.data] true :=
  Program.laidByTextLater.sub seatTie1 ["unicode/utf8.acceptRanges"] (by kernel_rfl) (by kernel_rfl)
theorem fnBitsSet_row_tie : Rows.fnBitsSetRow.laidByTextAt .later Tryd.pinned [.data, .pinned] true :=
  OpenClaim.laidByTextAt_pinned rfl rfl tie rfl rfl rfl rfl (fun y hy _e => by
    simp only [Rows.fnBitsSetRow, List.zip_cons_cons, List.zip_nil_right, List.mem_cons, List.mem_nil_iff, or_false] at hy
    rcases hy with rfl | rfl
    · cases _e
    · exact ⟨pin_laid_unicode_utf8_first, by kernel_rfl⟩) fits1
theorem tie2 : Tryd.prog.laidByTextLater [("pub-tholos/pub/govarint.ErrOverflow", Rows.laid_pub_tholos_pub_govarint_ErrOverflow), ("pub-tholos/pub/govarint.ErrUnderflow", Rows.laid_pub_tholos_pub_govarint_ErrUnderflow), ("pub-tholos/pub/govarint.ErrNotMinimal", Rows.laid_pub_tholos_pub_govarint_ErrNotMinimal), ("pub-tholos/pub/gomultihash.ErrTooShort", Rows.laid_pub_tholos_pub_gomultihash_ErrTooShort), ("pub-tholos/pub/gomultihash.ErrVarintBufferShort", Rows.laid_pub_tholos_pub_gomultihash_ErrVarintBufferShort), ("pub-tholos/pub/gomultihash.ErrVarintTooLong", Rows.laid_pub_tholos_pub_gomultihash_ErrVarintTooLong), ("pub-tholos/pub/boxo/verifcid.DefaultAllowlist", Rows.laid_pub_tholos_pub_boxo_verifcid_DefaultAllowlist), ("pub-tholos/pub/boxo/verifcid.ErrPossiblyInsecureHashFunction", Rows.laid_pub_tholos_pub_boxo_verifcid_ErrPossiblyInsecureHashFunction), ("pub-tholos/pub/boxo/verifcid.ErrBelowMinimumHashLength", Rows.laid_pub_tholos_pub_boxo_verifcid_ErrBelowMinimumHashLength), ("pub-tholos/pub/boxo/verifcid.ErrAboveMaximumHashLength", Rows.laid_pub_tholos_pub_boxo_verifcid_ErrAboveMaximumHashLength)] [.sentinel, .sentinel, .sentinel, .sentinel, .sentinel, .sentinel, .data, .sentinel, .sentinel, .sentinel] true :=
  Program.laidByTextLater.sub seatTie1 ["pub-tholos/pub/govarint.ErrOverflow", "pub-tholos/pub/govarint.ErrUnderflow", "pub-tholos/pub/govarint.ErrNotMinimal", "pub-tholos/pub/gomultihash.ErrTooShort", "pub-tholos/pub/gomultihash.ErrVarintBufferShort", "pub-tholos/pub/gomultihash.ErrVarintTooLong", "pub-tholos/pub/boxo/verifcid.DefaultAllowlist", "pub-tholos/pub/boxo/verifcid.ErrPossiblyInsecureHashFunction", "pub-tholos/pub/boxo/verifcid.ErrBelowMinimumHashLength", "pub-tholos/pub/boxo/verifcid.ErrAboveMaximumHashLength"] (by kernel_rfl) (by kernel_rfl)
theorem fnCidSafeFirst_row_tie : Rows.fnCidSafeFirstRow.laidByTextAt .later Tryd.pinned [.sentinel, .sentinel, .sentinel, .sentinel, .sentinel, .sentinel, .data, .sentinel, .sentinel, .sentinel] true :=
  OpenClaim.laidByTextAt_later rfl rfl tie2 noOwnUnsafe
theorem fnBitsSetUpto_row_tie : Rows.fnBitsSetUptoRow.laidByTextAt .later Tryd.pinned [.data, .pinned] true :=
  OpenClaim.laidByTextAt_pinned rfl rfl tie rfl rfl rfl rfl (fun y hy _e => by
    simp only [Rows.fnBitsSetUptoRow, List.zip_cons_cons, List.zip_nil_right, List.mem_cons, List.mem_nil_iff, or_false] at hy
    rcases hy with rfl | rfl
    · cases _e
    · exact ⟨pin_laid_unicode_utf8_first, by kernel_rfl⟩) fits1
theorem fnCidSafeFirstUpto_row_tie : Rows.fnCidSafeFirstUptoRow.laidByTextAt .later Tryd.pinned [.sentinel, .sentinel, .sentinel, .sentinel, .sentinel, .sentinel, .data, .sentinel, .sentinel, .sentinel] true :=
  OpenClaim.laidByTextAt_later rfl rfl tie2 noOwnUnsafe
end Go.Proofs.YtbmeegkgcipmoaaDoor
