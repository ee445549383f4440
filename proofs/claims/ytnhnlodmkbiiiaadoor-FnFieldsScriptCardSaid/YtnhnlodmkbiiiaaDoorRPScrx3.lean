/- Printed by a program of this session (it drives the print of the kit, with contracts proved by hand beside): the Go functions of one law as Lean functions, and that the Go code comes to what they say. -/
import Derived.Test.YtnhnlodmkbiiiaaDoorRPScrx0
namespace Go.Proofs.YtnhnlodmkbiiiaaDoor.PScr
open Go.RowKit Go.Proofs.YtnhnlodmkbiiiaaDoorL Go.Proofs.YtnhnlodmkbiiiaaDoorW.PrintWords Go.Proofs.YtnhnlodmkbiiiaaDoorW.PrintLast Go.Proofs.YtnhnlodmkbiiiaaDoorW.PrintMore
attribute [local go_sem] max2_int min2_int max_two min_two max_three min_three max_four min_four   -- for this text's walks alone
set_option linter.unusedVariables false
set_option linter.unusedSimpArgs false

-- NOT PRINTED: function 102 (pb_Data_Unmarshal)

-- NOT PRINTED: function 103 (pb_Data_GetData)

-- NOT PRINTED: function 112 (pb_Data_GetFilesize)

-- NOT PRINTED: function 123 (pb_Data_GetType)

-- NOT PRINTED: function 104 (unixfs_size)

-- NOT PRINTED: function 66 (unixfs_DataSize)

/-! ### impl_DataSize: function 28, by hand -/
-- HAND pub-tholos/impl.DataSize
-- making: yes
-- NOT PRINTED: function 100 (pb_Uint64)

/-! ### bits_Len64: function 119, by hand -/
-- HAND math/bits.Len64
-- shelf: yes
/-! ### pb_sovUnixfs: function 129 -/
-- NOT PRINTED: function 120 (pb_Data_Size)

/-! ### pb_encodeVarintUnixfs: function 130 -/
-- NOT PRINTED: function 121 (pb_Data_MarshalToSizedBuffer)

-- NOT PRINTED: function 101 (pb_Data_Marshal)

-- NOT PRINTED: function 98 (unixfs_FilePBData)

/-! ### impl_FileData: function 62, by hand -/
-- HAND pub-tholos/impl.FileData
-- making: yes
-- NOT PRINTED: function 99 (unixfs_FolderPBData)

/-! ### impl_FolderData: function 63, by hand -/
-- HAND pub-tholos/impl.FolderData
-- making: yes
/-! ### laws_folderAwake: function 25, by hand -/
-- HAND pub-tholos/laws.folderAwake
-- making: yes
/-- The fixed example holds. -/
def laws_folderAwake.f : Option (Bool) := some true
theorem laws_folderAwake.calls (r : Bool) (w : World) (h : laws_folderAwake.f = some r) :
  Calls Tryd.prog 25 #[] w fun e w' => e = .returned (.bool r) ∧ Below w.heap.size w w' := by
 unfold laws_folderAwake.f at h
 obtain rfl := Option.some.inj h
 exact Go.Proofs.YtnhnlodmkbiiiaaDoor.HandFields.laws_folderAwake w

end Go.Proofs.YtnhnlodmkbiiiaaDoor.PScr
