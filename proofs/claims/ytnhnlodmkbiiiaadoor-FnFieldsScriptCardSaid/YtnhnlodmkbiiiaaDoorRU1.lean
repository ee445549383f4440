/- The bytes of a message are read back into the message: Unmarshal, walked on such bytes. -/
import Derived.Test.YtnhnlodmkbiiiaaDoorRU0
namespace Go.Proofs.YtnhnlodmkbiiiaaDoor.HandFields
open Go Go.RowKit Go.Proofs.YtnhnlodmkbiiiaaDoorL Go.Proofs.YtnhnlodmkbiiiaaDoorW.PrintWords Go.Proofs.YtnhnlodmkbiiiaaDoorW.PrintLast Go.Proofs.YtnhnlodmkbiiiaaDoorW.PrintMore Go.Proofs.YtnhnlodmkbiiiaaDoor.PFieldsBase
attribute [local go_sem] max2_int min2_int max_two min_two max_three min_three max_four min_four
set_option linter.unusedVariables false
set_option linter.unusedSimpArgs false
def m102_0 : List (Option Nat) := [none, none, none, none, some 4, none, none, some 7, some 8, some 9, some 10, some 11, some 12, some 13, some 14, some 15, some 16, some 17, some 18, some 19, some 20, some 21, some 22, some 23, some 24, some 25, some 26, some 27, some 28, some 29, some 30, some 31, some 32, some 33, some 34, some 35, some 36, some 37, some 38, some 39, some 40, some 41, none, none, some 44, some 45, some 46, some 47, some 48, some 49, some 50, some 51, some 52, some 53, some 54, some 55, some 56, some 57, some 58, some 59, some 60, some 61, some 62, some 63, some 64, some 65, some 66, some 67, some 68, some 69, some 70, some 71, some 72, some 73, some 74, some 75, some 76, some 77, some 78, some 79, some 80, some 81, some 82, some 83, some 84, some 85, some 86, some 87, some 88, some 89, some 90, some 91, some 92, some 93, some 94, some 95, some 96, some 97, some 98, some 99, some 100, some 101, some 102, some 103, some 104, some 105, some 106, some 107, some 108, some 109, some 110, some 111, some 112, some 113, some 114, some 115, some 116, some 117, some 118, some 119, some 120, some 121, some 122, some 123, some 124, some 125, some 126, some 127, some 128, some 129, some 130, some 131, some 132, some 133, some 134, some 135, some 136, some 137, some 138, some 139, some 140, some 141, some 142, some 143, some 144, some 145, some 146, some 147, some 148, some 149, some 150, some 151, some 152, some 153, some 154, some 155, some 156, some 157, some 158, some 159, some 160, some 161, some 162, some 163, some 164, some 165, some 166, some 167, some 168, some 169, some 170, some 171, some 172, some 173, some 174, some 175, some 176, some 177, some 178, some 179, some 180, some 181, some 182, some 183, some 184, some 185, some 186, some 187, some 188, some 189, some 190, some 191, some 192, some 193, some 194, some 195, some 196, some 197, some 198, some 199, some 200, some 201, some 202, some 203, some 204, some 205, some 206, some 207, some 208, some 209, some 210, some 211, some 212, some 213, some 214, some 215, some 216, some 217, some 218, some 219, some 220, some 221, some 222, some 223, some 224, some 225, some 226, some 227, some 228, some 229, some 230, some 231, some 232, some 233, some 234, some 235, some 236, some 237, some 238, some 239, some 240, some 241, some 242, some 243, some 244, some 245, some 246, some 247, some 248, some 249, some 250, some 251, some 252, some 253, some 254, some 255, some 256, some 257, some 258, some 259, some 260, some 261, some 262, some 263, some 264, some 265, some 266, some 267, some 268, some 269, some 270, some 271, some 272, some 273, some 274, some 275, some 276, some 277, some 278, some 279, some 280, some 281, some 282, some 283, some 284, some 285, some 286, some 287, some 288, some 289, some 290, some 291, some 292, some 293, some 294, some 295, some 296, some 297, some 298, some 299, some 300, some 301, some 302, some 303, some 304, some 305, some 306, some 307, some 308, some 309, some 310, some 311, some 312, some 313, some 314, some 315, some 316, some 317, some 318, some 319, some 320, some 321, some 322, some 323, some 324, some 325, some 326, some 327, some 328, some 329, some 330, some 331, some 332, some 333, some 334, some 335, some 336, some 337, some 338, some 339, some 340, some 341, some 342, some 343, some 344, some 345, some 346, some 347, some 348, some 349, some 350, some 351, some 352, some 353, some 354, some 355, some 356, some 357, some 358, some 359, some 360, some 361, some 362, some 363, some 364, some 365, some 366, some 367, some 368, some 369, some 370, some 371, some 372, some 373, some 374, some 375, some 376, some 377, some 378, some 379, some 380, some 381, some 382, some 383, some 384, some 385, some 386, some 387, some 388, some 389, some 390, some 391, some 392, some 393, some 394, some 395, some 396, some 397, some 398, some 399, some 400, some 401, some 402, some 403, some 404, some 405, some 406, some 407, some 408, some 409, some 410, some 411, some 412, some 413, some 414, some 415, some 416, some 417, some 418, some 419, some 420, some 421, some 422, some 423, some 424, some 425, some 426, some 427, some 428, some 429, some 430, some 431, some 432, some 433, some 434, some 435, some 436, some 437, some 438, some 439, some 440, some 441, some 442, some 443, some 444, some 445, some 446, some 447, some 448, some 449, some 450, some 451, some 452, some 453, some 454, some 455, some 456, some 457, some 458, some 459, none, none, none, none, none, none, none, none, none]
def m102_1 : List (Option Nat) := [none, none, none, none, some 4, none, none, some 7, none, some 9, some 10, some 11, none, none, none, none, none, none, none, none, none, none, none, none, none, none, none, none, none, none, none, none, none, none, none, none, none, none, none, none, none, none, none, none, none, none, none, none, some 48, some 49, some 50, some 51, some 52, some 53, some 54, some 55, some 56, some 57, some 58, some 59, some 60, some 61, some 62, some 63, some 64, some 65, some 66, some 67, some 68, some 69, some 70, some 71, none, none, none, none, none, none, none, none, none, none, none, none, none, none, none, none, none, none, none, none, none, none, none, none, none, none, none, none, none, none, none, none, none, none, none, none, none, none, none, none, none, none, none, none, none, none, none, none, none, none, none, none, none, none, none, none, none, none, none, none, none, none, none, none, none, none, none, none, none, none, none, none, none, none, none, none, none, none, none, none, none, none, none, none, none, none, none, none, none, none, none, none, none, none, none, none, none, none, none, none, none, none, none, none, none, none, none, none, none, none, none, none, none, none, none, none, none, none, none, none, none, none, none, none, none, none, none, none, none, none, none, none, none, none, none, none, none, none, none, none, none, none, none, none, none, none, none, none, none, none, none, none, none, none, none, none, none, none, none, none, none, none, none, none, none, none, none, none, none, none, none, none, none, none, none, none, none, none, none, none, none, none, none, none, none, none, none, none, none, none, none, none, none, none, none, none, none, none, none, none, none, none, none, none, none, none, none, none, none, none, none, none, none, none, none, none, none, none, none, none, none, none, none, none, none, none, none, none, none, none, none, none, none, none, none, none, none, none, none, none, none, none, none, none, none, none, none, none, none, none, none, none, none, none, none, none, none, none, none, none, none, none, none, none, none, none, none, none, none, none, none, none, none, none, none, none, none, none, none, none, none, none, none, none, none, none, none, none, none, none, none, none, none, none, none, none, none, none, none, none, none, none, none, none, none, none, none, none, none, none, none, none, none, none, none, none, none, none, none, none, none, none, none, none, none, none, none, none, none, none, none, none, none, none, none, none, none, none, none, none, none, none, none, none, none, none, none, none, none, none, none, none, none, none, none, none, none, none, none, none, none, none, none, none, none, none, none, none, none, none, none, none, none, none, none, none, none, none, none, none, none, none, none, none, none, none, none, none, none, none, none, none, none, none, none, none, none]
def m102_2 : List (Option Nat) := [none, none, none, none, some 4, none, none, some 7, none, none, none, none, none, none, none, some 15, some 16, none, none, none, none, none, none, none, none, none, none, none, none, none, none, none, none, none, none, none, none, none, none, none, none, none, none, none, none, none, none, none, none, none, none, none, none, none, none, none, none, none, none, none, none, none, none, none, none, none, none, none, none, none, none, none, none, none, none, none, none, none, none, none, none, none, none, none, none, none, none, none, none, none, none, none, none, none, none, none, none, none, none, none, none, none, none, none, none, none, none, none, none, none, none, none, none, none, none, none, none, none, none, none, none, none, none, none, none, none, none, none, none, none, none, none, none, none, some 134, some 135, some 136, some 137, some 138, some 139, some 140, some 141, some 142, some 143, some 144, some 145, some 146, some 147, some 148, some 149, some 150, some 151, some 152, some 153, some 154, some 155, some 156, some 157, none, none, none, none, none, none, none, none, none, none, none, none, none, none, none, none, none, none, none, none, none, none, none, none, none, none, none, none, none, none, none, none, none, none, none, none, none, none, none, none, none, none, none, none, none, none, none, none, none, none, none, none, none, none, none, none, none, none, none, none, none, none, none, none, none, none, none, none, none, none, none, none, none, none, none, none, none, none, none, none, none, none, none, none, none, none, none, none, none, none, none, none, none, none, none, none, none, none, none, none, none, none, none, none, none, none, none, none, none, none, none, none, none, none, none, none, none, none, none, none, none, none, none, none, none, none, none, none, none, none, none, none, none, none, none, none, none, none, none, none, none, none, none, none, none, none, none, none, none, none, none, none, none, none, none, none, none, none, none, none, none, none, none, none, none, none, none, none, none, none, none, none, none, none, none, none, none, none, none, none, none, none, none, none, none, none, none, none, none, none, none, none, none, none, none, none, none, none, none, none, none, none, none, none, none, none, none, none, none, none, none, none, none, none, none, none, none, none, none, none, none, none, none, none, none, none, none, none, none, none, none, none, none, none, none, none, none, none, none, none, none, none, none, none, none, none, none, none, none, none, none, none, none, none, none, none, none, none, none, none, none, none, none, none, none, none, none, none, none, none, none, none, none, none, none, none, none, none, none, none, none, none, none, none, none, none, none, none, none, none, none, none, none, none, none, none, none, none, none, none, none, none, none, none, none, none, none, none, none, none, none]
def m102_3 : List (Option Nat) := [none, none, none, none, some 4, none, none, some 7, none, none, none, none, none, none, none, none, none, some 17, some 18, some 19, none, none, none, none, none, none, none, none, none, none, none, none, none, none, none, none, none, none, none, none, none, none, none, none, none, none, none, none, none, none, none, none, none, none, none, none, none, none, none, none, none, none, none, none, none, none, none, none, none, none, none, none, none, none, none, none, none, none, none, none, none, none, none, none, none, none, none, none, none, none, none, none, none, none, none, none, none, none, none, none, none, none, none, none, none, none, none, none, none, none, none, none, none, none, none, none, none, none, none, none, none, none, none, none, none, none, none, none, none, none, none, none, none, none, none, none, none, none, none, none, none, none, none, none, none, none, none, none, none, none, none, none, none, none, none, none, none, none, none, none, none, none, none, none, none, none, none, none, none, none, none, none, some 172, some 173, some 174, some 175, some 176, some 177, some 178, some 179, some 180, some 181, some 182, some 183, some 184, some 185, some 186, some 187, some 188, some 189, some 190, some 191, some 192, some 193, some 194, some 195, none, none, none, none, none, none, none, none, none, none, none, none, none, none, none, none, none, none, none, none, none, none, none, none, none, none, none, none, none, none, none, none, none, none, none, none, none, none, none, none, none, none, none, none, none, none, none, none, none, none, none, none, none, none, none, none, none, none, none, none, none, none, none, none, none, none, none, none, none, none, none, none, none, none, none, none, none, none, none, none, none, none, none, none, none, none, none, none, none, none, none, none, none, none, none, none, none, none, none, none, none, none, none, none, none, none, none, none, none, none, none, none, none, none, none, none, none, none, none, none, none, none, none, none, none, none, none, none, none, none, none, none, none, none, none, none, none, none, none, none, none, none, none, none, none, none, none, none, none, none, none, none, none, none, none, none, none, none, none, none, none, none, none, none, none, none, none, none, none, none, none, none, none, none, none, none, none, none, none, none, none, none, none, none, none, none, none, none, none, none, none, none, none, none, none, none, none, none, none, none, none, none, none, none, none, none, none, none, none, none, none, none, none, none, none, none, none, none, none, none, none, none, none, none, none, none, none, none, none, none, none, none, none, none, none, none, none, none, none, none, none, none, none, none, none, none, none, none, none, none, none, none, none, none, none, none, none, none, none, none, none, none, none, none, none, none, none, none, none, none, none, none, none]
def m102_4 : List (Option Nat) := [none, none, none, none, some 4, none, none, some 7, none, none, none, none, none, none, none, none, none, none, none, none, none, none, some 22, some 23, none, none, none, none, none, none, none, none, none, none, none, none, none, none, none, none, none, none, none, none, none, none, none, none, none, none, none, none, none, none, none, none, none, none, none, none, none, none, none, none, none, none, none, none, none, none, none, none, none, none, none, none, none, none, none, none, none, none, none, none, none, none, none, none, none, none, none, none, none, none, none, none, none, none, none, none, none, none, none, none, none, none, none, none, none, none, none, none, none, none, none, none, none, none, none, none, none, none, none, none, none, none, none, none, none, none, none, none, none, none, none, none, none, none, none, none, none, none, none, none, none, none, none, none, none, none, none, none, none, none, none, none, none, none, none, none, none, none, none, none, none, none, none, none, none, none, none, none, none, none, none, none, none, none, none, none, none, none, none, none, none, none, none, none, none, none, none, none, none, none, none, none, none, none, none, none, none, none, none, none, none, none, none, none, none, none, none, none, none, none, none, none, none, none, none, none, none, none, none, none, none, none, none, none, none, none, none, none, none, none, none, none, none, none, none, some 239, some 240, some 241, some 242, some 243, some 244, some 245, some 246, some 247, some 248, some 249, some 250, some 251, some 252, some 253, some 254, some 255, some 256, some 257, some 258, some 259, some 260, some 261, some 262, none, none, none, none, none, none, none, none, none, none, none, none, none, none, none, none, none, none, none, none, none, none, none, none, none, none, none, none, none, none, none, none, none, none, none, none, none, none, none, none, none, none, none, none, none, none, none, none, none, none, none, none, none, none, none, none, none, none, none, none, none, none, none, none, none, none, none, none, none, none, none, none, none, none, none, none, none, none, none, none, none, none, none, none, none, none, none, none, none, none, none, none, none, none, none, none, none, none, none, none, none, none, none, none, none, none, none, none, none, none, none, none, none, none, none, none, none, none, none, none, none, none, none, none, none, none, none, none, none, none, none, none, none, none, none, none, none, none, none, none, none, none, none, none, none, none, none, none, none, none, none, none, none, none, none, none, none, none, none, none, none, none, none, none, none, none, none, none, none, none, none, none, none, none, none, none, none, none, none, none, none, none, none, none, none, none, none, none, none, none, none, none, none, none, none, none, none, none, none, none, none, none, none, none, none, none]
def m102_5 : List (Option Nat) := [none, none, none, none, some 4, none, none, some 7, none, none, none, none, none, none, none, none, none, none, none, none, none, none, none, none, some 24, some 25, some 26, none, none, none, none, none, none, none, none, none, none, none, none, none, none, none, none, none, none, none, none, none, none, none, none, none, none, none, none, none, none, none, none, none, none, none, none, none, none, none, none, none, none, none, none, none, none, none, none, none, none, none, none, none, none, none, none, none, none, none, none, none, none, none, none, none, none, none, none, none, none, none, none, none, none, none, none, none, none, none, none, none, none, none, none, none, none, none, none, none, none, none, none, none, none, none, none, none, none, none, none, none, none, none, none, none, none, none, none, none, none, none, none, none, none, none, none, none, none, none, none, none, none, none, none, none, none, none, none, none, none, none, none, none, none, none, none, none, none, none, none, none, none, none, none, none, none, none, none, none, none, none, none, none, none, none, none, none, none, none, none, none, none, none, none, none, none, none, none, none, none, none, none, none, none, none, none, none, none, none, none, none, none, none, none, none, none, none, none, none, none, none, none, none, none, none, none, none, none, none, none, none, none, none, none, none, none, none, none, none, none, none, none, none, none, none, none, none, none, none, none, none, none, none, none, none, none, none, none, none, none, none, none, none, none, none, none, none, none, none, none, none, none, none, none, none, none, some 273, some 274, some 275, some 276, some 277, some 278, some 279, some 280, some 281, some 282, some 283, some 284, some 285, some 286, some 287, some 288, some 289, some 290, some 291, some 292, some 293, some 294, some 295, some 296, none, none, none, none, none, none, none, none, none, none, none, none, none, none, none, none, none, none, none, none, none, none, none, none, none, none, none, none, none, none, none, none, none, none, none, none, none, none, none, none, none, none, none, none, none, none, none, none, none, none, none, none, none, none, none, none, none, none, none, none, none, none, none, none, none, none, none, none, none, none, none, none, none, none, none, none, none, none, none, none, none, none, none, none, none, none, none, none, none, none, none, none, none, none, none, none, none, none, none, none, none, none, none, none, none, none, none, none, none, none, none, none, none, none, none, none, none, none, none, none, none, none, none, none, none, none, none, none, none, none, none, none, none, none, none, none, none, none, none, none, none, none, none, none, none, none, none, none, none, none, none, none, none, none, none, none, none, none, none, none, none, none, none, none, none, none, none, none, none, none, none, none]
theorem rd_drop {xs : List Int} {k : Nat} {x : Int} {r : List Int} (h : xs.drop k = x :: r) : rd xs (k : Int) = x := by
 have h1 : (xs.drop k)[0]? = some x := by rw [h]; rfl
 rw [List.getElem?_drop, Nat.add_zero] at h1
 unfold rd
 rw [Int.toNat_natCast, List.getD_eq_getElem?_getD, h1]
 rfl
set_option maxHeartbeats 80000000 in
set_option maxRecDepth 100000 in
theorem Unm_calls (w0 w : World) (g : Nat) (t : TypeId) (d : Dat) (hblk : w.heap[g]? = some (.cells #[.pointer none, .slice none 0 0, .pointer none, .slice none 0 0, .pointer none, .pointer none, .slice none 0 0, .int .i32 0] t (0, 0))) (hge : w0.heap.size ≤ g) (hb : Below w0.heap.size w0 w)
  (hf : Fit d) (A : Option Addr) (n c : Nat) (hn : n = (marsh d).length) (hnc : n ≤ c) (hn2 : n ≤ 40000000) (hC : Kd.C (Kd.int .u8) w0 A n (marsh d)) :
  Calls Tryd.prog 102 #[.pointer (some ⟨g, 0, none⟩), .slice A n c] w fun e w' => e = .returned .nilIface ∧ Below w0.heap.size w0 w' ∧ ∃ p1 c1 c2 c3, RdDat w' g d p1 c1 c2 c3 t := by
 have US := Aside0.mk (um_start w0 w g t hblk hge hb)
 have HC := Aside0.mk hC
 have HN := Aside0.mk hn
 have HN2 := Aside0.mk hn2
 have HNC := Aside0.mk hnc
 have FT := Aside0.mk hf
 clear hblk hge hb hf hn hn2 hC hnc
 go_enter Tryd.func102, Tryd.ntmps102
 go_wp2_with fail
 generalize hb5 : w.heap.size = b5 at US ⊢
 have HB5 := Aside0.mk hb5
 clear hb5
 refine wp_loop_f m102_0 (marsh d).length (fun kq us w' => ∃ i : Int, us 7 = .int .i64 i ∧ Aside0 (UR w0 g b5 t d kq i w')) ?atS1 (by kernel_rfl) ?rnd1
 case atS1 => exact ⟨0, rfl, ⟨ur_start US.out⟩⟩
 case rnd1 =>
  intro gk1 us1 W1 hrel J1 K1 hJ1 hK1
  dsimp only [ovl, m102_0]
  obtain ⟨i, h7, HU⟩ := hrel
  rw [h7]
  clear h7
  obtain ⟨k, e, q, N, c0, c1, c2, c3, rfl, hdr, hkq, hkn, hP, hU⟩ := HU.out
  have HDR := Aside0.mk hdr
  have HKN := Aside0.mk hkn
  have HP := Aside0.mk hP
  have HU1 := Aside0.mk hU
  have HKQ := Aside0.mk hkq
  clear hdr hkn hU HU hkq
  cases hqt : q.ty with
  | some v =>
   obtain ⟨rest, hre⟩ : ∃ r, r = encq { q with ty := none } := ⟨_, rfl⟩
   have heq : encq q = 8 :: (uv v ++ rest) := by unfold encq; rw [hqt, hre]; rfl
   have hel : 1 ≤ (encq q).length := by rw [heq]; simp
   have hkn : k < n := by have h2 := HKN.out; have h3 := HN.out; have h4 := HKQ.out; omega
   have hdr := HDR.out
   rw [heq] at hdr
   have hk8 : rd (marsh d) (k : Int) = 8 := rd_drop hdr
   obtain ⟨ad, eA, hx⟩ := Kd.at_int (Kd.C_below HC.out HU1.out.below) (k : Int) (by omega) (by have := HN.out; omega)
   rw [hk8, Int.toNat_natCast] at hx
   subst eA
   obtain ⟨k1, hk1⟩ : ∃ x : Int, wrap64 ((k : Int) + 1) = x := ⟨_, rfl⟩
   have hk1w : IntKind.i64.wrap ((k : Int) + 1) = k1 := (i64_w _).trans hk1
   have K1 := Aside0.mk (show k1 = ((k + 1 : Nat) : Int) by have := HN2.out; rw [← hk1]; unfold wrap64; omega)
   have j1 : decide ((k : Int) < (n : Int)) = true := decide_eq_true (by omega)
   have j1n : decide (k < n) = true := decide_eq_true hkn
   have j2 : decide ((n : Int) ≤ (k : Int)) = false := decide_eq_false (by omega)
   have j2n : decide (n ≤ k) = false := decide_eq_false (by omega)
   have j3 : ((k : Int) < (n : Int)) = True := eq_true (by omega)
   have j3n : (k < n) = True := eq_true hkn
   have kb1 : Go.bits .and .u8 8 127 = 8 := by decide +kernel
   have kb2 : IntKind.u64.wrap 8 = 8 := by decide +kernel
   have kb3 : Go.bits .or .u64 0 8 = 8 := by decide +kernel
   have kb4 : Go.bits .and .u64 8 7 = 0 := by decide +kernel
   have kb5 : wrap32 1 = 1 := by decide +kernel
   have kb6 : wrap64 0 = 0 := by decide +kernel
   have HKL := Aside0.mk hkn
   have hdv : (marsh d).drop (k + 1) = uv v ++ rest := by rw [← List.drop_drop, hdr]; rfl
   have HDV := Aside0.mk hdv
   clear hdv
   have hvd : v = d.ty := hP.ty.elim (fun h => by have := h.1; rw [hqt] at this; cases this) (fun h => by have := h.1; rw [hqt] at this; exact Option.some.inj this)
   have he0 : e.ty = none := hP.ty.elim (fun h => by have := h.1; rw [hqt] at this; cases this) (fun h => h.2)
   have HE0 := Aside0.mk he0
   have HC0 := Aside0.mk (HU1.out.ty0 he0)
   have HV := Aside0.mk (show v < 1000 by rw [hvd]; exact FT.out.ty)
   have HEB := Aside0.mk (show e.blocks = [] from hP.first.elim id (fun h => by have := h.1; rw [hqt] at this; cases this))
   have kb7 : Go.bits .or .u64 0 1 = 1 := by decide +kernel
   have HQT := Aside0.mk hqt
   clear hvd he0
   clear hkn hdr heq hk8 hP hel hqt hre
   go_wp2_with fail
   refine wp_loop_f m102_1 1 (fun kq us w' => us 7 = .int .i64 (k : Int) ∧ us 9 = .int .u64 0 ∧ us 10 = .int .u64 0 ∧ Aside0 (w' = W1)) ?atS8 (by kernel_rfl) ?rnd8
   case atS8 => exact ⟨rfl, rfl, rfl, ⟨rfl⟩⟩
   case rnd8 =>
    intro gk2 us2 W2 hrel J2 K2 hJ2 hK2
    dsimp only [ovl, m102_1]
    obtain ⟨h7, h9, h10, HW⟩ := hrel
    rw [h7, h9, h10]
    clear h7 h9 h10
    have ew := HW.out.symm
    subst ew
    go_wp2_with fail
    refine wp_loop_f m102_2 10 (fun kq us w' => ∃ (x y : Int), us 7 = .int .i64 x ∧ us 15 = .int .u64 y ∧ Aside0 (∃ j : Nat, x = ((k + 1 + j : Nat) : Int) ∧ y = ((7 * j : Nat) : Int) ∧ j + kq = 10 ∧ (j = 0 ∨ 128 ^ j ≤ v) ∧ Below W1.heap.size W1 w' ∧ w'.heap[W1.heap.size]? = some (.cells #[.int .i32 ((v % 128 ^ j : Nat) : Int)] 121 (0, 0)))) ?atST (by kernel_rfl) ?rndT
    case atST =>
     refine ⟨k1, 0, rfl, rfl, ⟨0, K1.out, rfl, rfl, .inl rfl, below_alloc (Below.refl _ _) _, ?_⟩⟩
     have := blk_new W1 (.cells #[.int .i32 0] 121)
     rw [Nat.pow_zero, Nat.mod_one]
     exact this
    case rndT =>
     intro gk3 us3 W3 hrel J3 K3 hJ3 hK3
     dsimp only [ovl, m102_2]
     obtain ⟨x, y, h7, h15, HJ⟩ := hrel
     rw [h7, h15]
     clear h7 h15
     obtain ⟨j, hxj, hyj, hjk, hj, hB, hbk⟩ := HJ.out
     have hv := HV.out
     obtain ⟨hjn, hcx⟩ := var_byte HDV.out (by omega) hj
     obtain ⟨r1, r2, r3, r4⟩ := var_round (v := v) (by omega) hj
     obtain ⟨cc, hcc⟩ : ∃ c : Nat, c = v / 128 ^ j % 128 + (if v / 128 ^ j < 128 then 0 else 128) := ⟨_, rfl⟩
     rw [← hcc] at hcx
     obtain ⟨v1, v2, v3, v4⟩ := var_words .i32 31 (by decide) (by decide) (by decide) words_i32 (v := v) (j := j) (by omega) hj hcc
     obtain ⟨m, hm⟩ : ∃ m : Nat, m = v / 128 ^ j % 128 := ⟨_, rfl⟩
     obtain ⟨s, hs⟩ : ∃ s : Nat, s = m * 2 ^ (7 * j) := ⟨_, rfl⟩
     obtain ⟨a0, ha0⟩ : ∃ a : Nat, a = v % 128 ^ j := ⟨_, rfl⟩
     obtain ⟨a1, ha1⟩ : ∃ a : Nat, a = v % 128 ^ (j + 1) := ⟨_, rfl⟩
     rw [← hm] at v1 v2 v3 v4
     rw [← hs, ← hyj] at v3
     rw [← ha0, ← hs, ← ha1] at v4
     rw [← hxj] at hcx
     obtain ⟨ad', eA, hx⟩ := Kd.at_int (Kd.C_below HC.out (below_then HU1.out.below HU1.out.below.size hB)) x (by omega) (by have := HN.out; omega)
     injection eA with eA
     subst eA
     rw [hcx] at hx
     obtain ⟨x1, hx1⟩ : ∃ z : Int, wrap64 (x + 1) = z := ⟨_, rfl⟩
     have hx1w : IntKind.i64.wrap (x + 1) = x1 := (i64_w _).trans hx1
     have X1 := Aside0.mk (show x1 = ((k + 1 + (j + 1) : Nat) : Int) by have := HN2.out; have := HN.out; rw [← hx1]; unfold wrap64; omega)
     obtain ⟨y1, hy1⟩ : ∃ z : Int, IntKind.u64.wrap (y + 7) = z := ⟨_, rfl⟩
     have Y1 := Aside0.mk (show y1 = ((7 * (j + 1) : Nat) : Int) by rw [← hy1, words_u64 _ (by omega) (by omega)]; omega)
     have m1 : decide ((64 : Int) ≤ y) = false := decide_eq_false (by omega)
     have m2 : decide ((n : Int) ≤ x) = false := decide_eq_false (by have := HN.out; omega)
     have m3 : (x < (n : Int)) = True := eq_true (by have := HN.out; omega)
     have m4 : ((0 : Int) ≤ x) = True := eq_true (by omega)
     have hj2 : 7 * j ≤ 32 := by rcases hj with h | h; (omega); (rcases Nat.lt_or_ge 1 j with h9 | h9; (have : 128 ^ 2 ≤ 128 ^ j := Nat.pow_le_pow_right (by decide) h9; omega); omega)
     have m6 : (0 : Int) ≤ y := by omega
     have m7 : min y.toNat 32 = y.toNat := Nat.min_eq_left (by omega)
     have m8 : min y.toNat IntKind.i32.bits = y.toNat := m7
     have HJ1 := Aside0.mk (show j + gk3 = 10 ∧ (j = 0 ∨ 128 ^ j ≤ v) ∧ j ≤ 9 from ⟨hjk, hj, r1⟩)
     have HA1 := Aside0.mk ha1
     have HCC := Aside0.mk hcc
     rw [← ha0] at hbk
     have hcell : W3.cell? ⟨W1.heap.size, 0, none⟩ = some (.int .i32 (a0 : Int)) := (blk_cell hbk 0).trans rfl
     have hfro := blk_frozen hbk 0
     have HBK := Aside0.mk hbk
     have HB := Aside0.mk hB
     clear hj2 hxj hyj hjk hj hB hbk hjn hcx r1 r2 r3 r4 hm hs ha0 ha1 hv HJ
     by_cases hl : v / 128 ^ j < 128
     ·have m5 : decide ((cc : Int) < 128) = true := decide_eq_true (by rw [hcc, if_pos hl]; omega)
      have m5n : decide (cc < 128) = true := decide_eq_true (by rw [hcc, if_pos hl]; omega)
      have HL := Aside0.mk hl
      clear hl hcc
      go_wp2_with (first | ((with_reducible refine gate_store (t := 121) (p := 14) rfl ?_); refine store_event (t := 121) (p := 14) (v := ?vo_T1) (w1 := (W3.setCell ⟨W1.heap.size, 0, none⟩ (.int .i32 (a1 : Int)))) ?hg ?ho ?hn ?hr ?_; (case ho => rfl); (case hg => rfl); (case hn => rfl); (case hr => first | (go_simp; done) | (go_simp; rfl)); intro wa hw; have HBa : Aside0 (Below W1.heap.size W1 wa) := ⟨by rw [hw]; exact below_set HB.out (Nat.le_refl _)⟩; have HKa : Aside0 (wa.heap[W1.heap.size]? = some (.cells #[.int .i32 (a1 : Int)] 121 (0, 0))) := ⟨by rw [hw]; exact blk_put HBK.out 0 _ rfl⟩; clear hw; have hga : wa.cell? ⟨g, 0, none⟩ = some (.pointer none) := (blk_cell ((HBa.out.block g (blk_lt HU1.out.blk)).trans HU1.out.blk) 0).trans (by rw [HC0.out]; rfl); have hgaf := blk_frozen ((HBa.out.block g (blk_lt HU1.out.blk)).trans HU1.out.blk) 0) | ((with_reducible refine gate_store (t := 161) (p := 160) rfl ?_); refine store_event (t := 161) (p := 160) (v := ?vo_T2) (w1 := (wa.setCell ⟨g, 0, none⟩ (.pointer (some ⟨W1.heap.size, 0, none⟩)))) ?hg ?ho ?hn ?hr ?_; (case ho => rfl); (case hg => rfl); (case hn => rfl); (case hr => first | (go_simp; done) | (go_simp; rfl)); intro wb hw; have HWB := Aside0.mk hw; have hb_ : wb.heap[b5]? = some (.cells #[.int .u64 0] 184 (0, 0)) := (by rw [hw]; refine blk_far ?_ (p := ⟨g, 0, none⟩) (fun e => HU1.out.gb e.symm) _; have h1 := (HBa.out.block b5 (blk_lt HU1.out.bit)).trans HU1.out.bit; rw [HE0.out, if_pos rfl] at h1; exact h1); have hbb : wb.cell? ⟨b5, 0, none⟩ = some (.int .u64 0) := (blk_cell hb_ 0).trans rfl; have hbbf := blk_frozen hb_ 0; clear hw hga hgaf hb_) | ((with_reducible refine gate_store (t := 24) (p := 164) rfl ?_); refine store_event (t := 24) (p := 164) (v := ?vo_T3) (w1 := (wb.setCell ⟨b5, 0, none⟩ (.int .u64 1))) ?hg ?ho ?hn ?hr ?_; (case ho => rfl); (case hg => rfl); (case hn => rfl); (case hr => first | (go_simp; done) | (go_simp; rfl)); intro wc hw; have HUc : Aside0 (Um w0 wc g b5 (W1.heap.size + 1) t { e with ty := some v } (.pointer (some ⟨W1.heap.size, 0, none⟩)) c1 c2 c3) := ⟨by rw [hw, HWB.out]; exact HU1.out.rty HEB.out HBa.out v (by have := HKa.out; rw [HA1.out, var_end HL.out] at this; exact this)⟩; clear hw hbb hbbf))
      have hfin := ur_ty (x := x1) HP.out HQT.out HDR.out (by rw [← HKQ.out]; exact HKN.out) (by have := HV.out; omega) HJ1.out.2.1 HL.out HUc.out X1.out
      refine Handed.intro (encq { q with ty := none }).length ?msTa (hJ1 _ _ _ ?rlTa ?frTa)
      case frTa => kernel_rfl
      case msTa => rw [HKQ.out]; exact hfin.2
      case rlTa => exact ⟨x1, rfl, ⟨hfin.1⟩⟩
     ·have m5 : decide ((cc : Int) < 128) = false := decide_eq_false (by rw [hcc, if_neg hl]; omega)
      have m5n : decide (cc < 128) = false := decide_eq_false (by rw [hcc, if_neg hl]; omega)
      have HL := Aside0.mk hl
      clear hl hcc
      go_wp2_with ((with_reducible refine gate_store (t := 121) (p := 14) rfl ?_); refine store_event (t := 121) (p := 14) (v := ?vo_T4) (w1 := (W3.setCell ⟨W1.heap.size, 0, none⟩ (.int .i32 (a1 : Int)))) ?hg ?ho ?hn ?hr ?_; (case ho => rfl); (case hg => rfl); (case hn => rfl); (case hr => first | (go_simp; done) | (go_simp; rfl)); intro wa hw; have HBa : Aside0 (Below W1.heap.size W1 wa) := ⟨by rw [hw]; exact below_set HB.out (Nat.le_refl _)⟩; have HKa : Aside0 (wa.heap[W1.heap.size]? = some (.cells #[.int .i32 (a1 : Int)] 121 (0, 0))) := ⟨by rw [hw]; exact blk_put HBK.out 0 _ rfl⟩; clear hw; have hga : wa.cell? ⟨g, 0, none⟩ = some (.pointer none) := (blk_cell ((HBa.out.block g (blk_lt HU1.out.blk)).trans HU1.out.blk) 0).trans (by rw [HC0.out]; rfl); have hgaf := blk_frozen ((HBa.out.block g (blk_lt HU1.out.blk)).trans HU1.out.blk) 0)
      refine Handed.intro (gk3 - 1) ?msTb (hJ3 _ _ _ ?rlTb ?frTb)
      case frTb => kernel_rfl
      case msTb => have := HJ1.out.1; have := HJ1.out.2.2; omega
      case rlTb => exact ⟨x1, y1, rfl, rfl, ⟨j + 1, X1.out, Y1.out, by have := HJ1.out.1; have := HJ1.out.2.2; omega, .inr (var_more HL.out), HBa.out, by rw [← HA1.out]; exact HKa.out⟩⟩
  | none =>
   cases hqd : q.data with
   | some xs =>
    obtain ⟨v, hvx⟩ : ∃ v, v = xs.length := ⟨_, rfl⟩
    obtain ⟨rest, hre⟩ : ∃ r, r = xs ++ encq { q with data := none } := ⟨_, rfl⟩
    have heq : encq q = 18 :: (uv v ++ rest) := by unfold encq; rw [hqt, hqd, hre, hvx]; simp [dataF, tyF, encq, hqt]
    have hel : 1 ≤ (encq q).length := by rw [heq]; simp
    have hkn : k < n := by have h2 := HKN.out; have h3 := HN.out; have h4 := HKQ.out; omega
    have hdr := HDR.out
    rw [heq] at hdr
    have hk8 : rd (marsh d) (k : Int) = 18 := rd_drop hdr
    obtain ⟨ad, eA, hx⟩ := Kd.at_int (Kd.C_below HC.out HU1.out.below) (k : Int) (by omega) (by have := HN.out; omega)
    rw [hk8, Int.toNat_natCast] at hx
    subst eA
    obtain ⟨k1, hk1⟩ : ∃ x : Int, wrap64 ((k : Int) + 1) = x := ⟨_, rfl⟩
    have hk1w : IntKind.i64.wrap ((k : Int) + 1) = k1 := (i64_w _).trans hk1
    have K1 := Aside0.mk (show k1 = ((k + 1 : Nat) : Int) by have := HN2.out; rw [← hk1]; unfold wrap64; omega)
    have j1 : decide ((k : Int) < (n : Int)) = true := decide_eq_true (by omega)
    have j1n : decide (k < n) = true := decide_eq_true hkn
    have j2 : decide ((n : Int) ≤ (k : Int)) = false := decide_eq_false (by omega)
    have j2n : decide (n ≤ k) = false := decide_eq_false (by omega)
    have j3 : ((k : Int) < (n : Int)) = True := eq_true (by omega)
    have j3n : (k < n) = True := eq_true hkn
    have kb1 : Go.bits .and .u8 18 127 = 18 := by decide +kernel
    have kb2 : IntKind.u64.wrap 18 = 18 := by decide +kernel
    have kb3 : Go.bits .or .u64 0 18 = 18 := by decide +kernel
    have kb4 : Go.bits .and .u64 18 7 = 2 := by decide +kernel
    have kb5 : wrap32 2 = 2 := by decide +kernel
    have kb6 : wrap64 2 = 2 := by decide +kernel
    have HKL := Aside0.mk hkn
    have hdv : (marsh d).drop (k + 1) = uv v ++ rest := by rw [← List.drop_drop, hdr]; rfl
    have HDV := Aside0.mk hdv
    clear hdv
    have hvd : some xs = d.data := hP.data.elim (fun h => by have := h.1; rw [hqd] at this; cases this) (fun h => by rw [← h.1, hqd])
    have he0 : e.data = none := hP.data.elim (fun h => by have := h.1; rw [hqd] at this; cases this) (fun h => h.2)
    have HC1 := Aside0.mk (HU1.out.data0 he0)
    have HV := Aside0.mk (show v < 2 ^ 63 ∧ v ≤ 1000000 by have := FT.out.data xs hvd.symm; omega)
    have HVX := Aside0.mk hvx
    have HEB := Aside0.mk (show e.blocks = [] from hP.first.elim id (fun h => by have := h.2.1; rw [hqd] at this; cases this))
    have HQT := Aside0.mk hqt
    have HQD := Aside0.mk hqd
    have HRE := Aside0.mk hre
    obtain ⟨i05, hi05, hsz5⟩ : ∃ i, Tryd.prog.info? 5 = some i ∧ i.size = 1 := Option.map_eq_some_iff.1 (show (Tryd.prog.info? 5).map (·.size) = some 1 by kernel_rfl)
    have HI5 := Aside0.mk hi05
    have HZ5 := Aside0.mk hsz5
    have info5 : (Tryd.prog.info? 5).map (fun i => (i.zero, i.size, i.bytes)) = some (some (.int .u8 0), 1, 1) := by kernel_rfl
    have I5 := Aside0.mk info5
    clear hvd he0 hvx hi05 hsz5 info5
    clear hkn hdr heq hk8 hP hel hqt hqd hre
    go_wp2_with fail
    refine wp_loop_f m102_1 1 (fun kq us w' => us 7 = .int .i64 (k : Int) ∧ us 9 = .int .u64 0 ∧ us 10 = .int .u64 0 ∧ Aside0 (w' = W1)) ?atS18 (by kernel_rfl) ?rnd18
    case atS18 => exact ⟨rfl, rfl, rfl, ⟨rfl⟩⟩
    case rnd18 =>
     intro gk2 us2 W2 hrel J2 K2 hJ2 hK2
     dsimp only [ovl, m102_1]
     obtain ⟨h7, h9, h10, HW⟩ := hrel
     rw [h7, h9, h10]
     clear h7 h9 h10
     have ew := HW.out.symm
     subst ew
     go_wp2_with fail
     refine wp_loop_f m102_3 10 (fun kq us w' => ∃ (x y z : Int), us 7 = .int .i64 x ∧ us 18 = .int .u64 y ∧ us 17 = .int .i64 z ∧ Aside0 (w' = W1) ∧ Aside0 (∃ j : Nat, x = ((k + 1 + j : Nat) : Int) ∧ y = ((7 * j : Nat) : Int) ∧ z = ((v % 128 ^ j : Nat) : Int) ∧ j + kq = 10 ∧ (j = 0 ∨ 128 ^ j ≤ v))) ?atSD (by kernel_rfl) ?rndD
     case atSD =>
      exact ⟨k1, 0, 0, rfl, rfl, rfl, ⟨rfl⟩, ⟨0, K1.out, rfl, by rw [Nat.pow_zero, Nat.mod_one]; rfl, rfl, .inl rfl⟩⟩
     case rndD =>
      intro gk3 us3 W3 hrel J3 K3 hJ3 hK3
      dsimp only [ovl, m102_3]
      obtain ⟨x, y, z, h7, h15, hz, HW3, HJ⟩ := hrel
      rw [h7, h15, hz]
      clear h7 h15 hz
      have ew3 := HW3.out
      subst ew3
      obtain ⟨j, hxj, hyj, hzj, hjk, hj⟩ := HJ.out
      have hv := HV.out.1
      obtain ⟨hjn, hcx⟩ := var_byte HDV.out (by omega) hj
      obtain ⟨r1, r2, r3, r4⟩ := var_round (v := v) (by omega) hj
      obtain ⟨cc, hcc⟩ : ∃ c : Nat, c = v / 128 ^ j % 128 + (if v / 128 ^ j < 128 then 0 else 128) := ⟨_, rfl⟩
      rw [← hcc] at hcx
      obtain ⟨v1, v2, v3, v4⟩ := var_words .i64 63 (by decide) (by decide) (by decide) words_i64 (v := v) (j := j) (by omega) hj hcc
      obtain ⟨m, hm⟩ : ∃ m : Nat, m = v / 128 ^ j % 128 := ⟨_, rfl⟩
      obtain ⟨s, hs⟩ : ∃ s : Nat, s = m * 2 ^ (7 * j) := ⟨_, rfl⟩
      obtain ⟨a0, ha0⟩ : ∃ a : Nat, a = v % 128 ^ j := ⟨_, rfl⟩
      obtain ⟨a1, ha1⟩ : ∃ a : Nat, a = v % 128 ^ (j + 1) := ⟨_, rfl⟩
      rw [← hm] at v1 v2 v3 v4
      rw [← hs, ← hyj] at v3
      rw [← ha0, ← hs, ← ha1] at v4
      rw [← hxj] at hcx
      obtain ⟨ad', eA, hx⟩ := Kd.at_int (Kd.C_below HC.out HU1.out.below) x (by omega) (by have := HN.out; omega)
      injection eA with eA
      subst eA
      rw [hcx] at hx
      obtain ⟨x1, hx1⟩ : ∃ z : Int, wrap64 (x + 1) = z := ⟨_, rfl⟩
      have hx1w : IntKind.i64.wrap (x + 1) = x1 := (i64_w _).trans hx1
      have X1 := Aside0.mk (show x1 = ((k + 1 + (j + 1) : Nat) : Int) by have := HN2.out; have := HN.out; rw [← hx1]; unfold wrap64; omega)
      obtain ⟨y1, hy1⟩ : ∃ z : Int, IntKind.u64.wrap (y + 7) = z := ⟨_, rfl⟩
      have Y1 := Aside0.mk (show y1 = ((7 * (j + 1) : Nat) : Int) by rw [← hy1, words_u64 _ (by omega) (by omega)]; omega)
      have m1 : decide ((64 : Int) ≤ y) = false := decide_eq_false (by omega)
      have m2 : decide ((n : Int) ≤ x) = false := decide_eq_false (by have := HN.out; omega)
      have m3 : (x < (n : Int)) = True := eq_true (by have := HN.out; omega)
      have m4 : ((0 : Int) ≤ x) = True := eq_true (by omega)
      have hj2 : 7 * j ≤ 63 := by omega
      have m6 : (0 : Int) ≤ y := by omega
      have m7 : min y.toNat 64 = y.toNat := Nat.min_eq_left (by omega)
      have m8 : min y.toNat IntKind.i64.bits = y.toNat := m7
      have HJ1 := Aside0.mk (show j + gk3 = 10 ∧ (j = 0 ∨ 128 ^ j ≤ v) ∧ j ≤ 9 from ⟨hjk, hj, r1⟩)
      have HA1 := Aside0.mk ha1
      have HCC := Aside0.mk hcc
      obtain rfl : z = (a0 : Int) := hzj.trans (by rw [ha0])
      have v2w : wrap64 (m : Int) = (m : Int) := by unfold wrap64; omega
      have v3w : wrap64 ((m : Int) * 2 ^ y.toNat) = (s : Int) := (i64_w _).symm.trans v3
      clear hj2 hxj hyj hzj hjk hj hjn hcx r1 r2 r3 r4 hm hs ha0 ha1 hv HJ HW3
      by_cases hl : v / 128 ^ j < 128
      ·have m5 : decide ((cc : Int) < 128) = true := decide_eq_true (by rw [hcc, if_pos hl]; omega)
       have m5n : decide (cc < 128) = true := decide_eq_true (by rw [hcc, if_pos hl]; omega)
       have HL := Aside0.mk hl
       clear hl hcc
       have ea : a1 = v := HA1.out.trans (var_end HL.out)
       subst ea
       have q1 : decide ((a1 : Int) < 0) = false := decide_eq_false (by omega)
       obtain ⟨p, hp⟩ : ∃ z : Int, wrap64 (x1 + (a1 : Int)) = z := ⟨_, rfl⟩
       have hpw : IntKind.i64.wrap (x1 + (a1 : Int)) = p := (i64_w _).trans hp
       have hdx : (marsh d).drop (k + 1 + (j + 1)) = xs ++ encq { q with data := none } := by rw [← HRE.out, ← List.drop_drop, HDV.out, ← uv_end (show a1 < 2 ^ 64 by have := HV.out; omega) HJ1.out.2.1 HL.out, List.drop_left]
       have hdl := congrArg List.length hdx
       rw [List.length_drop, List.length_append, ← HVX.out] at hdl
       have HX1 := Aside0.mk (show k + 1 + (j + 1) ≤ (marsh d).length by have h1 := var_byte HDV.out (show a1 < 2 ^ 64 by have := HV.out; omega) HJ1.out.2.1; omega)
       have hpv : p = ((k + 1 + (j + 1) + a1 : Nat) : Int) ∧ k + 1 + (j + 1) + a1 ≤ n := by have h1 := X1.out; have h2 := HN2.out; have h3 := HN.out; have h4 := HX1.out; have h5 := HV.out; refine ⟨?_, by omega⟩; rw [← hp]; unfold wrap64; omega
       have HPV := Aside0.mk hpv
       have HDX := Aside0.mk hdx
       have q2 : decide (p < 0) = false := decide_eq_false (by omega)
       have q3 : decide ((n : Int) < p) = false := decide_eq_false (by omega)
       have hg1 : W3.cell? ⟨g, 1, none⟩ = some (.slice none 0 0) := (blk_cell HU1.out.blk 1).trans (by rw [HC1.out]; rfl)
       have hcutA := cut_to (P := Tryd.prog) 22 5 .i64 Tryd.underlying22 HI5.out none 0 0 (0 : Int) (Int.le_refl _) (Int.le_refl _) (Nat.le_refl _)
       have hx1p : (x1 ≤ p) = True := eq_true (by have := X1.out; omega)
       have hx10 : ((0 : Int) ≤ x1) = True := eq_true (by have := X1.out; omega)
       have hcutB := cut_mid (P := Tryd.prog) 22 5 .i64 .i64 Tryd.underlying22 HI5.out 1 HZ5.out (some ad) n c x1 p (of_eq_true hx10) (of_eq_true hx1p) (by omega) HNC.out
       obtain ⟨DD, hDD⟩ : ∃ D_, D_ = (if c = x1.toNat then some ad else Option.map (fun x : Addr => x.add (x1.toNat * 1)) (some ad)) := ⟨_, rfl⟩
       rw [← hDD] at hcutB
       have HDD := Aside0.mk hDD
       obtain ⟨pl, hpl⟩ : ∃ m : Nat, m = p.toNat - x1.toNat := ⟨_, rfl⟩
       rw [← hpl] at hcutB
       have HPL := Aside0.mk (show pl = a1 by have := X1.out; omega)
       have HCX : Aside0 (Kd.C (Kd.int .u8) W3 DD pl xs) := ⟨by rw [HDD.out, hpl]; have h1 := X1.out; have h2 : p.toNat = x1.toNat + xs.length := (by have := HVX.out; omega); exact mid_row (j := p.toNat) (Kd.C_below HC.out HU1.out.below) HNC.out (by rw [h1, Int.toNat_natCast]; exact HDX.out) (by rw [h1, Int.toNat_natCast]; exact HX1.out) h2⟩
       clear hpv hdx hdl hp hDD hpl
       go_wp2_with fail
       refine start_ (n := 14) (S := fun w' => w'.cell? ⟨g, 1, none⟩ = some (.slice none 0 0)) (ds := [13]) #[false, false, false, false, false, false, false, false, false, false, false, false, false, false] (by kernel_rfl) rfl rfl (hg1) (fun hHeld => ?_)
       refine pure_ (i := 0) (N := some 209) (v := ?_) (a' := ?_) #[true, false, false, false, false, false, false, false, false, false, false, false, false, false] rfl rfl (by kernel_rfl) (fun _ _ _ h => h) (Or.inl ⟨by rfl, ?_⟩) ?_ ?_
       rotate_left
       ·intro w'
        go_simp
        with_reducible rfl
       rotate_left
       ·simp only [Act.put, List.setIfInBounds_toArray, List.set_cons_zero, List.set_cons_succ, i64_w, i32_w]
        rfl
       refine pure_ (i := 1) (N := some 210) (v := ?_) (a' := ?_) #[true, true, false, false, false, false, false, false, false, false, false, false, false, false] rfl rfl (by kernel_rfl) (fun _ _ _ h => h) (Or.inl ⟨by rfl, ?_⟩) ?_ ?_
       rotate_left
       ·intro w'
        go_simp
        with_reducible rfl
       rotate_left
       ·simp only [Act.put, List.setIfInBounds_toArray, List.set_cons_zero, List.set_cons_succ, i64_w, i32_w]
        rfl
       refine pure_ (i := 2) (N := some 211) (v := ?_) (a' := ?_) #[true, true, true, false, false, false, false, false, false, false, false, false, false, false] rfl rfl (by kernel_rfl) (fun _ _ _ h => h) (Or.inl ⟨by rfl, ?_⟩) ?_ ?_
       rotate_left
       ·intro w'
        go_simp
        with_reducible rfl
       rotate_left
       ·simp only [Act.put, List.setIfInBounds_toArray, List.set_cons_zero, List.set_cons_succ, i64_w, i32_w]
        rfl
       refine pure_ (i := 3) (N := some 212) (v := ?_) (a' := ?_) #[true, true, true, true, false, false, false, false, false, false, false, false, false, false] rfl rfl (by kernel_rfl) (fun _ _ _ h => h) (Or.inl ⟨by rfl, ?_⟩) ?_ ?_
       rotate_left
       ·intro w'
        go_simp
        with_reducible rfl
       rotate_left
       ·simp only [Act.put, List.setIfInBounds_toArray, List.set_cons_zero, List.set_cons_succ, i64_w, i32_w]
        rfl
       refine pure_ (i := 6) (N := some 215) (v := ?_) (a' := ?_) #[true, true, true, true, false, false, true, false, false, false, false, false, false, false] rfl rfl (by kernel_rfl) (fun _ _ _ h => h) (Or.inl ⟨by rfl, ?_⟩) ?_ ?_
       rotate_left
       ·intro w'
        go_simp
        with_reducible rfl
       rotate_left
       ·simp only [Act.put, List.setIfInBounds_toArray, List.set_cons_zero, List.set_cons_succ, i64_w, i32_w]
        rfl
       refine pure_ (i := 7) (N := some 216) (v := ?_) (a' := ?_) #[true, true, true, true, false, false, true, true, false, false, false, false, false, false] rfl rfl (by kernel_rfl) (fun _ _ _ h => h) (Or.inl ⟨by rfl, ?_⟩) ?_ ?_
       rotate_left
       ·intro w'
        go_simp
        with_reducible rfl
       rotate_left
       ·simp only [Act.put, List.setIfInBounds_toArray, List.set_cons_zero, List.set_cons_succ, i64_w, i32_w]
        rfl
       refine pure_ (i := 8) (N := some 217) (v := ?_) (a' := ?_) #[true, true, true, true, false, false, true, true, true, false, false, false, false, false] rfl rfl (by kernel_rfl) (fun _ _ _ h => h) (Or.inl ⟨by rfl, ?_⟩) ?_ ?_
       rotate_left
       ·intro w'
        go_simp
        with_reducible rfl
       rotate_left
       ·simp only [Act.put, List.setIfInBounds_toArray, List.set_cons_zero, List.set_cons_succ, i64_w, i32_w]
        rfl
       refine pure_ (i := 9) (N := some 218) (v := ?_) (a' := ?_) #[true, true, true, true, false, false, true, true, true, true, false, false, false, false] rfl rfl (by kernel_rfl) (fun _ _ _ h => h) (Or.inl ⟨by rfl, ?_⟩) ?_ ?_
       rotate_left
       ·intro w'
        go_simp
        with_reducible rfl
       rotate_left
       ·simp only [Act.put, List.setIfInBounds_toArray, List.set_cons_zero, List.set_cons_succ, i64_w, i32_w]
        rfl
       refine take_ (i := 4) (N := some 213) (v := ?_) (a' := ?_) #[true, true, true, true, true, false, true, true, true, true, false, false, false, false] rfl rfl (by kernel_rfl) (fun _ _ _ h => h) (Or.inl ⟨by rfl, ?_⟩) hHeld ?_ ?_
       rotate_left
       ·intro w' s0
        go_simp
        with_reducible rfl
       rotate_left
       ·simp only [Act.put, List.setIfInBounds_toArray, List.set_cons_zero, List.set_cons_succ, i64_w, i32_w]
        rfl
       refine pure_ (i := 5) (N := some 214) (v := ?_) (a' := ?_) #[true, true, true, true, true, true, true, true, true, true, false, false, false, false] rfl rfl (by kernel_rfl) (fun _ _ _ h => h) (Or.inl ⟨by rfl, ?_⟩) ?_ ?_
       rotate_left
       ·intro w'
        go_simp
        with_reducible rfl
       rotate_left
       ·simp only [Act.put, List.setIfInBounds_toArray, List.set_cons_zero, List.set_cons_succ, i64_w, i32_w]
        rfl
       refine one_ (i := 10) (N := some 219) #[true, true, true, true, true, true, true, true, true, true, true, false, false, false] rfl rfl (by kernel_rfl) (by decide) (fun K hK => ?_)
       refine Kd.R_append_rows_step (Kd.int .u8) (Rr := fun x cs => cs = [Value.int .u8 x]) (w0 := w0) w0.heap.size (by rfl) (.tmp 214) (.tmp 218) 22 5 (.int .u8 0) 1 rfl Tryd.underlying22 I5.out rfl (by decide) (by decide) (.slice none 0 0) [] xs DD pl _ (fun k => W3.heap.size ≤ k) (fun _ => False) rfl rfl (Kd.R_nil _ _ _ _ _) (Kd.C_drew HCX.out) (fun x cs hx => hx) (fun _ hk => hk.elim) (fun _ h => h) (below_drew HU1.out.below) (below_size (below_drew HU1.out.below)) (by have h1 := HPL.out; have h2 := HV.out; simp only [List.length_nil]; omega) ?_
       intro va wa hR hB hg hat
       rw [List.nil_append] at hR
       obtain ⟨AA, cA, rfl⟩ := Kd.R_slice hR
       have HRa := Aside0.mk hR
       have HBa := Aside0.mk hB
       have HGa := Aside0.mk hg
       have hga := (blk_cell ((grown_none hg g (blk_lt HU1.out.blk)).trans HU1.out.blk) 1).trans (show _ = some (.slice none 0 0) by rw [HC1.out]; rfl)
       have hgaf := blk_frozen ((grown_none hg g (blk_lt HU1.out.blk)).trans HU1.out.blk) 1
       clear hR hB hg hat hg1
       refine hK.out _ _ (hga) (fun hHeld => ?_)
       clear hK K
       refine norm_ (a' := ?_) ?_ ?_
       rotate_left
       ·show Act.put _ (some 219) _ = _
        simp only [Act.put, List.setIfInBounds_toArray, List.set_cons_zero, List.set_cons_succ, i64_w, i32_w]
        rfl
       refine pure_ (i := 11) (N := some 220) (v := ?_) (a' := ?_) #[true, true, true, true, true, true, true, true, true, true, true, true, false, false] rfl rfl (by kernel_rfl) (fun _ _ _ h => h) (Or.inl ⟨by rfl, ?_⟩) ?_ ?_
       rotate_left
       ·intro w'
        go_simp
        with_reducible rfl
       rotate_left
       ·simp only [Act.put, List.setIfInBounds_toArray, List.set_cons_zero, List.set_cons_succ, i64_w, i32_w]
        rfl
       refine pure_ (i := 12) (N := some 221) (v := ?_) (a' := ?_) #[true, true, true, true, true, true, true, true, true, true, true, true, true, false] rfl rfl (by kernel_rfl) (fun _ _ _ h => h) (Or.inl ⟨by rfl, ?_⟩) ?_ ?_
       rotate_left
       ·intro w'
        go_simp
        with_reducible rfl
       rotate_left
       ·simp only [Act.put, List.setIfInBounds_toArray, List.set_cons_zero, List.set_cons_succ, i64_w, i32_w]
        rfl
       refine last_ (i := 13) (N := none) #[true, true, true, true, true, true, true, true, true, true, true, true, true, true] rfl rfl (by kernel_rfl) (by decide) (fun K hK => ?_)
       refine skip_ (w1 := ?_) (by rfl) rfl ?_ ?_
       rotate_left
       ·go_simp
        rfl
       refine hK.out _ _ ?_
       clear hK K
       refine done_ (by kernel_rfl) ?_
       
       obtain ⟨wb, hwb⟩ : ∃ w_, w_ = wa.setCell ⟨g, 1, none⟩ (.slice AA xs.length cA) := ⟨_, rfl⟩
       rw [← hwb]
       have HWB := Aside0.mk hwb
       have hgb_ : wb.heap[g]? = some (.cells #[c0, .slice AA xs.length cA, c2, c3, .pointer none, .pointer none, .slice none 0 0, .int .i32 0] t (0, 0)) := by rw [hwb]; exact blk_put ((grown_none HGa.out g (blk_lt HU1.out.blk)).trans HU1.out.blk) 1 _ rfl
       have HGB := Aside0.mk hgb_
       have hgb := (blk_cell hgb_ 1).trans rfl
       have hgbf := blk_frozen hgb_ 1
       clear hwb hga hgaf hgb_
       cases AA with
       | some ad9 =>
        have heq9 : ∀ W : World, (binOp .eql 22 (.slice (some ad9) xs.length cA) (.slice none 0 0)).run Tryd.prog W = .ok (.bool false) W := fun W => Lib.run_eql_slice_nil W 22 5 (some ad9) xs.length cA 0 0 Tryd.underlying22
        go_wp2_with fail
        have HUc : Aside0 (Um w0 wb g b5 wa.heap.size t { e with data := some xs } c0 (.slice (some ad9) xs.length cA) c2 c3) := ⟨by rw [HWB.out]; exact HU1.out.rdata HEB.out (W' := wa) ⟨HGa.out.size, fun k hk _ _ => grown_none HGa.out k hk, HBa.out⟩ ((grown_none HGa.out g (blk_lt HU1.out.blk)).trans HU1.out.blk) (grown_none HGa.out b5 (blk_lt HU1.out.bit)) ad9 cA xs HRa.out⟩
        have hfin := ur_data (x := p) HP.out HQT.out HQD.out HDR.out (by rw [← HKQ.out]; exact HKN.out) HVX.out (by have := HV.out; omega) HJ1.out.2.1 HL.out HUc.out HPV.out.1
        refine Handed.intro (encq { q with data := none }).length ?msDa (hJ1 _ _ _ ?rlDa ?frDa)
        case frDa => kernel_rfl
        case msDa => rw [HKQ.out]; exact hfin.2
        case rlDa => exact ⟨p, rfl, ⟨hfin.1⟩⟩
       | none =>
        have heq9 : ∀ W : World, (binOp .eql 22 (.slice none xs.length cA) (.slice none 0 0)).run Tryd.prog W = .ok (.bool true) W := fun W => Lib.run_eql_slice_nil W 22 5 none xs.length cA 0 0 Tryd.underlying22
        have HSB : Aside0 (Stp w0 W3 wb g b5 W3.heap.size) := ⟨by rw [HWB.out]; exact Stp.setg (W := W3) (W' := wa) (b5 := b5) ⟨HGa.out.size, fun k hk _ _ => grown_none HGa.out k hk, HBa.out⟩ HU1.out.gge 1 _⟩
        go_wp2_with (first | ((with_reducible refine gate_dst (N := 228) rfl ?_); refine Kd.R_lit (Kd.int .u8) (w0 := w0) (W := wb) w0.heap.size 5 rfl (N := 228) rfl (xs := ([] : List Int)) (inner := []) (ok := fun k => W3.heap.size ≤ k) (okp := fun _ => False) ?hr22 (by constructor <;> simp) (fun _ hk => hk.elim) HSB.out.size HSB.out.below HSB.out.below.size (by simp) ?_; (case hr22 => first | (go_simp; done) | (go_simp; rfl)); intro v9 we hR9 hB9 hG9 hat9; obtain ⟨ad9, c9, rfl⟩ := own_some hR9 hat9; have HR9 := Aside0.mk hR9; have HB9 := Aside0.mk hB9; have HG9 := Aside0.mk hG9; have hgc_ := (hG9.block g (blk_lt HGB.out) (by simp)).trans HGB.out; have hgc := (blk_cell hgc_ 1).trans rfl; have hgcf := blk_frozen hgc_ 1; clear hR9 hB9 hG9 hat9 hgc_ hgb hgbf) | ((with_reducible refine gate_store (t := 22) (p := 230) rfl ?_); refine store_event (t := 22) (p := 230) (v := ?vo_D2) (w1 := (we.setCell ⟨g, 1, none⟩ (.slice (some ad9) 0 c9))) ?hg ?ho ?hn ?hr ?_; (case ho => rfl); (case hg => rfl); (case hn => rfl); (case hr => first | (go_simp; done) | (go_simp; rfl)); intro wc hw; have HWC := Aside0.mk hw; clear hw hgc hgcf))
        have hx0 : xs = [] := by
         rcases Nat.eq_zero_or_pos xs.length with h | h
         ·exact List.eq_nil_of_length_eq_zero h
         ·obtain ⟨g9, c9, e9, _⟩ := Kd.R_form HRa.out h
          cases e9
        have hbk : we.heap[g]? = _ := (HG9.out.block g (blk_lt HGB.out) (by simp)).trans HGB.out
        have hsb := HSB.out
        have hsc : Stp w0 W3 we g b5 W3.heap.size := ⟨Nat.le_trans hsb.size HG9.out.size, fun k hk h1 h2 => (HG9.out.block k (Nat.lt_of_lt_of_le hk hsb.size) (by simp)).trans (hsb.keep k hk h1 h2), HB9.out⟩
        have hbb : we.heap[b5]? = W3.heap[b5]? := by
         refine (HG9.out.block b5 (Nat.lt_of_lt_of_le (blk_lt HU1.out.bit) hsb.size) (by simp)).trans ?_
         rw [HWB.out]
         exact (Below.heap_setCell wa ⟨g, 1, none⟩ _ b5 (by simpa using HU1.out.gb.symm)).trans (grown_none HGa.out b5 (blk_lt HU1.out.bit))
        have HUc : Aside0 (Um w0 wc g b5 we.heap.size t { e with data := some xs } c0 (.slice (some ad9) 0 c9) c2 c3) := ⟨by rw [HWC.out, hx0]; exact HU1.out.rdata HEB.out hsc hbk hbb ad9 c9 [] HR9.out⟩
        have hfin := ur_data (x := p) HP.out HQT.out HQD.out HDR.out (by rw [← HKQ.out]; exact HKN.out) HVX.out (by have := HV.out; omega) HJ1.out.2.1 HL.out HUc.out HPV.out.1
        refine Handed.intro (encq { q with data := none }).length ?msDc (hJ1 _ _ _ ?rlDc ?frDc)
        case frDc => kernel_rfl
        case msDc => rw [HKQ.out]; exact hfin.2
        case rlDc => exact ⟨p, rfl, ⟨hfin.1⟩⟩
      ·have m5 : decide ((cc : Int) < 128) = false := decide_eq_false (by rw [hcc, if_neg hl]; omega)
       have m5n : decide (cc < 128) = false := decide_eq_false (by rw [hcc, if_neg hl]; omega)
       have HL := Aside0.mk hl
       clear hl hcc
       go_wp2_with fail
       refine Handed.intro (gk3 - 1) ?msDb (hJ3 _ _ _ ?rlDb ?frDb)
       case frDb => kernel_rfl
       case msDb => have := HJ1.out.1; have := HJ1.out.2.2; omega
       case rlDb => exact ⟨x1, y1, (a1 : Int), rfl, rfl, rfl, ⟨rfl⟩, ⟨j + 1, X1.out, Y1.out, by rw [HA1.out], by have := HJ1.out.1; have := HJ1.out.2.2; omega, .inr (var_more HL.out)⟩⟩
   | none =>
    cases hqs : q.size with
    | some v =>
     obtain ⟨rest, hre⟩ : ∃ r, r = encq { q with size := none } := ⟨_, rfl⟩
     have heq : encq q = 24 :: (uv v ++ rest) := by unfold encq; rw [hqt, hqd, hqs, hre]; unfold encq; rw [hqt, hqd]; rfl
     have hel : 1 ≤ (encq q).length := by rw [heq]; simp
     have hkn : k < n := by have h2 := HKN.out; have h3 := HN.out; have h4 := HKQ.out; omega
     have hdr := HDR.out
     rw [heq] at hdr
     have hk8 : rd (marsh d) (k : Int) = 24 := rd_drop hdr
     obtain ⟨ad, eA, hx⟩ := Kd.at_int (Kd.C_below HC.out HU1.out.below) (k : Int) (by omega) (by have := HN.out; omega)
     rw [hk8, Int.toNat_natCast] at hx
     subst eA
     obtain ⟨k1, hk1⟩ : ∃ x : Int, wrap64 ((k : Int) + 1) = x := ⟨_, rfl⟩
     have hk1w : IntKind.i64.wrap ((k : Int) + 1) = k1 := (i64_w _).trans hk1
     have K1 := Aside0.mk (show k1 = ((k + 1 : Nat) : Int) by have := HN2.out; rw [← hk1]; unfold wrap64; omega)
     have j1 : decide ((k : Int) < (n : Int)) = true := decide_eq_true (by omega)
     have j1n : decide (k < n) = true := decide_eq_true hkn
     have j2 : decide ((n : Int) ≤ (k : Int)) = false := decide_eq_false (by omega)
     have j2n : decide (n ≤ k) = false := decide_eq_false (by omega)
     have j3 : ((k : Int) < (n : Int)) = True := eq_true (by omega)
     have j3n : (k < n) = True := eq_true hkn
     have kb1 : Go.bits .and .u8 24 127 = 24 := by decide +kernel
     have kb2 : IntKind.u64.wrap 24 = 24 := by decide +kernel
     have kb3 : Go.bits .or .u64 0 24 = 24 := by decide +kernel
     have kb4 : Go.bits .and .u64 24 7 = 0 := by decide +kernel
     have kb5 : wrap32 3 = 3 := by decide +kernel
     have kb6 : wrap64 0 = 0 := by decide +kernel
     have HKL := Aside0.mk hkn
     have hdv : (marsh d).drop (k + 1) = uv v ++ rest := by rw [← List.drop_drop, hdr]; rfl
     have HDV := Aside0.mk hdv
     clear hdv
     have hvd : some v = d.size := hP.size.elim (fun h => by have := h.1; rw [hqs] at this; cases this) (fun h => by rw [← h.1, hqs])
     have he0 : e.size = none := hP.size.elim (fun h => by have := h.1; rw [hqs] at this; cases this) (fun h => h.2)
     have HC0 := Aside0.mk (HU1.out.size0 he0)
     have HV := Aside0.mk (show v < 2 ^ 64 from FT.out.size v hvd.symm)
     have HEB := Aside0.mk (show e.blocks = [] from hP.first.elim id (fun h => by have := h.2.2; rw [hqs] at this; cases this))
     have HQT := Aside0.mk hqt
     have HQD := Aside0.mk hqd
     have HQS := Aside0.mk hqs
     clear hvd he0
     clear hkn hdr heq hk8 hP hel hqt hqd hqs hre
     go_wp2_with fail
     refine wp_loop_f m102_1 1 (fun kq us w' => us 7 = .int .i64 (k : Int) ∧ us 9 = .int .u64 0 ∧ us 10 = .int .u64 0 ∧ Aside0 (w' = W1)) ?atS24 (by kernel_rfl) ?rnd24
     case atS24 => exact ⟨rfl, rfl, rfl, ⟨rfl⟩⟩
     case rnd24 =>
      intro gk2 us2 W2 hrel J2 K2 hJ2 hK2
      dsimp only [ovl, m102_1]
      obtain ⟨h7, h9, h10, HW⟩ := hrel
      rw [h7, h9, h10]
      clear h7 h9 h10
      have ew := HW.out.symm
      subst ew
      go_wp2_with fail
      refine wp_loop_f m102_4 10 (fun kq us w' => ∃ (x y : Int), us 7 = .int .i64 x ∧ us 22 = .int .u64 y ∧ Aside0 (∃ j : Nat, x = ((k + 1 + j : Nat) : Int) ∧ y = ((7 * j : Nat) : Int) ∧ j + kq = 10 ∧ (j = 0 ∨ 128 ^ j ≤ v) ∧ Below W1.heap.size W1 w' ∧ w'.heap[W1.heap.size]? = some (.cells #[.int .u64 ((v % 128 ^ j : Nat) : Int)] 24 (0, 0)))) ?atSZ (by kernel_rfl) ?rndZ
      case atSZ =>
       refine ⟨k1, 0, rfl, rfl, ⟨0, K1.out, rfl, rfl, .inl rfl, below_alloc (Below.refl _ _) _, ?_⟩⟩
       have := blk_new W1 (.cells #[.int .u64 0] 24)
       rw [Nat.pow_zero, Nat.mod_one]
       exact this
      case rndZ =>
       intro gk3 us3 W3 hrel J3 K3 hJ3 hK3
       dsimp only [ovl, m102_4]
       obtain ⟨x, y, h7, h15, HJ⟩ := hrel
       rw [h7, h15]
       clear h7 h15
       obtain ⟨j, hxj, hyj, hjk, hj, hB, hbk⟩ := HJ.out
       have hv := HV.out
       obtain ⟨hjn, hcx⟩ := var_byte HDV.out (by omega) hj
       obtain ⟨r1, r2, r3, r4⟩ := var_round (v := v) (by omega) hj
       obtain ⟨cc, hcc⟩ : ∃ c : Nat, c = v / 128 ^ j % 128 + (if v / 128 ^ j < 128 then 0 else 128) := ⟨_, rfl⟩
       rw [← hcc] at hcx
       obtain ⟨v1, v2, v3, v4⟩ := var_words .u64 64 (by decide) (by decide) (by decide) words_u64 (v := v) (j := j) (by omega) hj hcc
       obtain ⟨m, hm⟩ : ∃ m : Nat, m = v / 128 ^ j % 128 := ⟨_, rfl⟩
       obtain ⟨s, hs⟩ : ∃ s : Nat, s = m * 2 ^ (7 * j) := ⟨_, rfl⟩
       obtain ⟨a0, ha0⟩ : ∃ a : Nat, a = v % 128 ^ j := ⟨_, rfl⟩
       obtain ⟨a1, ha1⟩ : ∃ a : Nat, a = v % 128 ^ (j + 1) := ⟨_, rfl⟩
       rw [← hm] at v1 v2 v3 v4
       rw [← hs, ← hyj] at v3
       rw [← ha0, ← hs, ← ha1] at v4
       rw [← hxj] at hcx
       obtain ⟨ad', eA, hx⟩ := Kd.at_int (Kd.C_below HC.out (below_then HU1.out.below HU1.out.below.size hB)) x (by omega) (by have := HN.out; omega)
       injection eA with eA
       subst eA
       rw [hcx] at hx
       obtain ⟨x1, hx1⟩ : ∃ z : Int, wrap64 (x + 1) = z := ⟨_, rfl⟩
       have hx1w : IntKind.i64.wrap (x + 1) = x1 := (i64_w _).trans hx1
       have X1 := Aside0.mk (show x1 = ((k + 1 + (j + 1) : Nat) : Int) by have := HN2.out; have := HN.out; rw [← hx1]; unfold wrap64; omega)
       obtain ⟨y1, hy1⟩ : ∃ z : Int, IntKind.u64.wrap (y + 7) = z := ⟨_, rfl⟩
       have Y1 := Aside0.mk (show y1 = ((7 * (j + 1) : Nat) : Int) by rw [← hy1, words_u64 _ (by omega) (by omega)]; omega)
       have m1 : decide ((64 : Int) ≤ y) = false := decide_eq_false (by omega)
       have m2 : decide ((n : Int) ≤ x) = false := decide_eq_false (by have := HN.out; omega)
       have m3 : (x < (n : Int)) = True := eq_true (by have := HN.out; omega)
       have m4 : ((0 : Int) ≤ x) = True := eq_true (by omega)
       have hj2 : 7 * j ≤ 63 := by omega
       have m6 : (0 : Int) ≤ y := by omega
       have m7 : min y.toNat 64 = y.toNat := Nat.min_eq_left (by omega)
       have m8 : min y.toNat IntKind.u64.bits = y.toNat := m7
       have HJ1 := Aside0.mk (show j + gk3 = 10 ∧ (j = 0 ∨ 128 ^ j ≤ v) ∧ j ≤ 9 from ⟨hjk, hj, r1⟩)
       have HA1 := Aside0.mk ha1
       have HCC := Aside0.mk hcc
       rw [← ha0] at hbk
       have hcell : W3.cell? ⟨W1.heap.size, 0, none⟩ = some (.int .u64 (a0 : Int)) := (blk_cell hbk 0).trans rfl
       have hfro := blk_frozen hbk 0
       have HBK := Aside0.mk hbk
       have HB := Aside0.mk hB
       clear hj2 hxj hyj hjk hj hB hbk hjn hcx r1 r2 r3 r4 hm hs ha0 ha1 hv HJ
       by_cases hl : v / 128 ^ j < 128
       ·have m5 : decide ((cc : Int) < 128) = true := decide_eq_true (by rw [hcc, if_pos hl]; omega)
        have m5n : decide (cc < 128) = true := decide_eq_true (by rw [hcc, if_pos hl]; omega)
        have HL := Aside0.mk hl
        clear hl hcc
        go_wp2_with (first | ((with_reducible refine gate_store (t := 24) (p := 21) rfl ?_); refine store_event (t := 24) (p := 21) (v := ?vo_Z1) (w1 := (W3.setCell ⟨W1.heap.size, 0, none⟩ (.int .u64 (a1 : Int)))) ?hg ?ho ?hn ?hr ?_; (case ho => rfl); (case hg => rfl); (case hn => rfl); (case hr => first | (go_simp; done) | (go_simp; rfl)); intro wa hw; have HBa : Aside0 (Below W1.heap.size W1 wa) := ⟨by rw [hw]; exact below_set HB.out (Nat.le_refl _)⟩; have HKa : Aside0 (wa.heap[W1.heap.size]? = some (.cells #[.int .u64 (a1 : Int)] 24 (0, 0))) := ⟨by rw [hw]; exact blk_put HBK.out 0 _ rfl⟩; clear hw; have hga : wa.cell? ⟨g, 2, none⟩ = some (.pointer none) := (blk_cell ((HBa.out.block g (blk_lt HU1.out.blk)).trans HU1.out.blk) 2).trans (by rw [HC0.out]; rfl); have hgaf := blk_frozen ((HBa.out.block g (blk_lt HU1.out.blk)).trans HU1.out.blk) 2) | ((with_reducible refine gate_store (t := 93) (p := 265) rfl ?_); refine store_event (t := 93) (p := 265) (v := ?vo_Z2) (w1 := (wa.setCell ⟨g, 2, none⟩ (.pointer (some ⟨W1.heap.size, 0, none⟩)))) ?hg ?ho ?hn ?hr ?_; (case ho => rfl); (case hg => rfl); (case hn => rfl); (case hr => first | (go_simp; done) | (go_simp; rfl)); intro wc hw; have HUc : Aside0 (Um w0 wc g b5 (W1.heap.size + 1) t { e with size := some v } c0 c1 (.pointer (some ⟨W1.heap.size, 0, none⟩)) c3) := ⟨by rw [hw]; exact HU1.out.rsize HEB.out HBa.out v (by have := HKa.out; rw [HA1.out, var_end HL.out] at this; exact this)⟩; clear hw hga hgaf))
        have hfin := ur_size (x := x1) HP.out HQT.out HQD.out HQS.out HDR.out (by rw [← HKQ.out]; exact HKN.out) HV.out HJ1.out.2.1 HL.out HUc.out X1.out
        refine Handed.intro (encq { q with size := none }).length ?msZa (hJ1 _ _ _ ?rlZa ?frZa)
        case frZa => kernel_rfl
        case msZa => rw [HKQ.out]; exact hfin.2
        case rlZa => exact ⟨x1, rfl, ⟨hfin.1⟩⟩
       ·have m5 : decide ((cc : Int) < 128) = false := decide_eq_false (by rw [hcc, if_neg hl]; omega)
        have m5n : decide (cc < 128) = false := decide_eq_false (by rw [hcc, if_neg hl]; omega)
        have HL := Aside0.mk hl
        clear hl hcc
        go_wp2_with ((with_reducible refine gate_store (t := 24) (p := 21) rfl ?_); refine store_event (t := 24) (p := 21) (v := ?vo_Z4) (w1 := (W3.setCell ⟨W1.heap.size, 0, none⟩ (.int .u64 (a1 : Int)))) ?hg ?ho ?hn ?hr ?_; (case ho => rfl); (case hg => rfl); (case hn => rfl); (case hr => first | (go_simp; done) | (go_simp; rfl)); intro wa hw; have HBa : Aside0 (Below W1.heap.size W1 wa) := ⟨by rw [hw]; exact below_set HB.out (Nat.le_refl _)⟩; have HKa : Aside0 (wa.heap[W1.heap.size]? = some (.cells #[.int .u64 (a1 : Int)] 24 (0, 0))) := ⟨by rw [hw]; exact blk_put HBK.out 0 _ rfl⟩; clear hw; have hga : wa.cell? ⟨g, 2, none⟩ = some (.pointer none) := (blk_cell ((HBa.out.block g (blk_lt HU1.out.blk)).trans HU1.out.blk) 2).trans (by rw [HC0.out]; rfl); have hgaf := blk_frozen ((HBa.out.block g (blk_lt HU1.out.blk)).trans HU1.out.blk) 2)
        refine Handed.intro (gk3 - 1) ?msZb (hJ3 _ _ _ ?rlZb ?frZb)
        case frZb => kernel_rfl
        case msZb => have := HJ1.out.1; have := HJ1.out.2.2; omega
        case rlZb => exact ⟨x1, y1, rfl, rfl, ⟨j + 1, X1.out, Y1.out, by have := HJ1.out.1; have := HJ1.out.2.2; omega, .inr (var_more HL.out), HBa.out, by rw [← HA1.out]; exact HKa.out⟩⟩
    | none =>
     cases hqb : q.blocks with
     | cons b bs =>
      have hb0 : 0 ≤ b ∧ b < 2 ^ 64 := FT.out.blks b (by rw [hP.blocks, hqb]; simp)
      obtain ⟨v, hvb⟩ : ∃ v : Nat, (v : Int) = b := ⟨b.toNat, by omega⟩
      obtain ⟨rest, hre⟩ : ∃ r, r = encq { q with blocks := bs } := ⟨_, rfl⟩
      have heq : encq q = 32 :: (uv v ++ rest) := by unfold encq; rw [hqt, hqd, hqs, hqb, hre, blkF_cons, ← hvb, Int.toNat_natCast]; unfold encq; rw [hqt, hqd, hqs]; rfl
      have hel : 1 ≤ (encq q).length := by rw [heq]; simp
      have hkn : k < n := by have h2 := HKN.out; have h3 := HN.out; have h4 := HKQ.out; omega
      have hdr := HDR.out
      rw [heq] at hdr
      have hk8 : rd (marsh d) (k : Int) = 32 := rd_drop hdr
      obtain ⟨ad, eA, hx⟩ := Kd.at_int (Kd.C_below HC.out HU1.out.below) (k : Int) (by omega) (by have := HN.out; omega)
      rw [hk8, Int.toNat_natCast] at hx
      subst eA
      obtain ⟨k1, hk1⟩ : ∃ x : Int, wrap64 ((k : Int) + 1) = x := ⟨_, rfl⟩
      have hk1w : IntKind.i64.wrap ((k : Int) + 1) = k1 := (i64_w _).trans hk1
      have K1 := Aside0.mk (show k1 = ((k + 1 : Nat) : Int) by have := HN2.out; rw [← hk1]; unfold wrap64; omega)
      have j1 : decide ((k : Int) < (n : Int)) = true := decide_eq_true (by omega)
      have j1n : decide (k < n) = true := decide_eq_true hkn
      have j2 : decide ((n : Int) ≤ (k : Int)) = false := decide_eq_false (by omega)
      have j2n : decide (n ≤ k) = false := decide_eq_false (by omega)
      have j3 : ((k : Int) < (n : Int)) = True := eq_true (by omega)
      have j3n : (k < n) = True := eq_true hkn
      have kb1 : Go.bits .and .u8 32 127 = 32 := by decide +kernel
      have kb2 : IntKind.u64.wrap 32 = 32 := by decide +kernel
      have kb3 : Go.bits .or .u64 0 32 = 32 := by decide +kernel
      have kb4 : Go.bits .and .u64 32 7 = 0 := by decide +kernel
      have kb5 : wrap32 4 = 4 := by decide +kernel
      have kb6 : wrap64 0 = 0 := by decide +kernel
      have HKL := Aside0.mk hkn
      have hdv : (marsh d).drop (k + 1) = uv v ++ rest := by rw [← List.drop_drop, hdr]; rfl
      have HDV := Aside0.mk hdv
      clear hdv
      have HV := Aside0.mk (show v < 2 ^ 64 by omega)
      have HVB := Aside0.mk hvb
      have HQT := Aside0.mk hqt
      have HQD := Aside0.mk hqd
      have HQS := Aside0.mk hqs
      have HQB := Aside0.mk hqb
      have hc3 := Kd.R_slice HU1.out.blks
      obtain ⟨AB, cB, rfl⟩ := hc3
      have info24 : (Tryd.prog.info? 24).map (fun i => (i.zero, i.size, i.bytes)) = some (some (.int .u64 0), 1, 8) := by kernel_rfl
      have I24 := Aside0.mk info24
      have HEL := Aside0.mk (show e.blocks.length ≤ 1000000 by have h1 := FT.out.many; rw [hP.blocks, List.length_append] at h1; omega)
      have hg3 : W1.cell? ⟨g, 3, none⟩ = some (.slice AB e.blocks.length cB) := (blk_cell HU1.out.blk 3).trans rfl
      have HG3 := Aside0.mk hg3
      clear hb0 hvb info24 hg3
      clear hkn hdr heq hk8 hP hel hqt hqd hqs hqb hre
      go_wp2_with fail
      refine wp_loop_f m102_1 1 (fun kq us w' => us 7 = .int .i64 (k : Int) ∧ us 9 = .int .u64 0 ∧ us 10 = .int .u64 0 ∧ Aside0 (w' = W1)) ?atS32 (by kernel_rfl) ?rnd32
      case atS32 => exact ⟨rfl, rfl, rfl, ⟨rfl⟩⟩
      case rnd32 =>
       intro gk2 us2 W2 hrel J2 K2 hJ2 hK2
       dsimp only [ovl, m102_1]
       obtain ⟨h7, h9, h10, HW⟩ := hrel
       rw [h7, h9, h10]
       clear h7 h9 h10
       have ew := HW.out.symm
       subst ew
       go_wp2_with fail
       refine wp_loop_f m102_5 10 (fun kq us w' => ∃ (x y z : Int), us 7 = .int .i64 x ∧ us 25 = .int .u64 y ∧ us 24 = .int .u64 z ∧ Aside0 (w' = W1) ∧ Aside0 (∃ j : Nat, x = ((k + 1 + j : Nat) : Int) ∧ y = ((7 * j : Nat) : Int) ∧ z = ((v % 128 ^ j : Nat) : Int) ∧ j + kq = 10 ∧ (j = 0 ∨ 128 ^ j ≤ v))) ?atSB (by kernel_rfl) ?rndB
       case atSB =>
        exact ⟨k1, 0, 0, rfl, rfl, rfl, ⟨rfl⟩, ⟨0, K1.out, rfl, by rw [Nat.pow_zero, Nat.mod_one]; rfl, rfl, .inl rfl⟩⟩
       case rndB =>
        intro gk3 us3 W3 hrel J3 K3 hJ3 hK3
        dsimp only [ovl, m102_5]
        obtain ⟨x, y, z, h7, h15, hz, HW3, HJ⟩ := hrel
        rw [h7, h15, hz]
        clear h7 h15 hz
        have ew3 := HW3.out
        subst ew3
        obtain ⟨j, hxj, hyj, hzj, hjk, hj⟩ := HJ.out
        have hv := HV.out
        obtain ⟨hjn, hcx⟩ := var_byte HDV.out (by omega) hj
        obtain ⟨r1, r2, r3, r4⟩ := var_round (v := v) (by omega) hj
        obtain ⟨cc, hcc⟩ : ∃ c : Nat, c = v / 128 ^ j % 128 + (if v / 128 ^ j < 128 then 0 else 128) := ⟨_, rfl⟩
        rw [← hcc] at hcx
        obtain ⟨v1, v2, v3, v4⟩ := var_words .u64 64 (by decide) (by decide) (by decide) words_u64 (v := v) (j := j) (by omega) hj hcc
        obtain ⟨m, hm⟩ : ∃ m : Nat, m = v / 128 ^ j % 128 := ⟨_, rfl⟩
        obtain ⟨s, hs⟩ : ∃ s : Nat, s = m * 2 ^ (7 * j) := ⟨_, rfl⟩
        obtain ⟨a0, ha0⟩ : ∃ a : Nat, a = v % 128 ^ j := ⟨_, rfl⟩
        obtain ⟨a1, ha1⟩ : ∃ a : Nat, a = v % 128 ^ (j + 1) := ⟨_, rfl⟩
        rw [← hm] at v1 v2 v3 v4
        rw [← hs, ← hyj] at v3
        rw [← ha0, ← hs, ← ha1] at v4
        rw [← hxj] at hcx
        obtain ⟨ad', eA, hx⟩ := Kd.at_int (Kd.C_below HC.out HU1.out.below) x (by omega) (by have := HN.out; omega)
        injection eA with eA
        subst eA
        rw [hcx] at hx
        obtain ⟨x1, hx1⟩ : ∃ z : Int, wrap64 (x + 1) = z := ⟨_, rfl⟩
        have hx1w : IntKind.i64.wrap (x + 1) = x1 := (i64_w _).trans hx1
        have X1 := Aside0.mk (show x1 = ((k + 1 + (j + 1) : Nat) : Int) by have := HN2.out; have := HN.out; rw [← hx1]; unfold wrap64; omega)
        obtain ⟨y1, hy1⟩ : ∃ z : Int, IntKind.u64.wrap (y + 7) = z := ⟨_, rfl⟩
        have Y1 := Aside0.mk (show y1 = ((7 * (j + 1) : Nat) : Int) by rw [← hy1, words_u64 _ (by omega) (by omega)]; omega)
        have m1 : decide ((64 : Int) ≤ y) = false := decide_eq_false (by omega)
        have m2 : decide ((n : Int) ≤ x) = false := decide_eq_false (by have := HN.out; omega)
        have m3 : (x < (n : Int)) = True := eq_true (by have := HN.out; omega)
        have m4 : ((0 : Int) ≤ x) = True := eq_true (by omega)
        have hj2 : 7 * j ≤ 63 := by omega
        have m6 : (0 : Int) ≤ y := by omega
        have m7 : min y.toNat 64 = y.toNat := Nat.min_eq_left (by omega)
        have m8 : min y.toNat IntKind.u64.bits = y.toNat := m7
        have HJ1 := Aside0.mk (show j + gk3 = 10 ∧ (j = 0 ∨ 128 ^ j ≤ v) ∧ j ≤ 9 from ⟨hjk, hj, r1⟩)
        have HA1 := Aside0.mk ha1
        have HCC := Aside0.mk hcc
        obtain rfl : z = (a0 : Int) := hzj.trans (by rw [ha0])
        clear hj2 hxj hyj hzj hjk hj hjn hcx r1 r2 r3 r4 hm hs ha0 ha1 hv HJ HW3
        by_cases hl : v / 128 ^ j < 128
        ·have m5 : decide ((cc : Int) < 128) = true := decide_eq_true (by rw [hcc, if_pos hl]; omega)
         have m5n : decide (cc < 128) = true := decide_eq_true (by rw [hcc, if_pos hl]; omega)
         have HL := Aside0.mk hl
         clear hl hcc
         have ea : a1 = v := HA1.out.trans (var_end HL.out)
         subst ea
         have hg3 := HG3.out
         go_wp2_with (first | (at_builtin; refine Kd.R_append (Kd.int .u64) (w0 := w0) (W := W3) w0.heap.size rfl (.tmp 301) (.tmp 303) 50 24 (.int .u64 0) 8 rfl Tryd.underlying50 I24.out rfl (by decide) (by decide) (.slice AB e.blocks.length cB) e.blocks (a1 : Int) [.int .u64 (a1 : Int)] (fun k => N ≤ k) (fun _ => False) rfl rfl rfl (fun _ hk => hk.elim) (fun k hk => Nat.le_trans HU1.out.NW hk) HU1.out.blks HU1.out.below HU1.out.below.size (by have := HEL.out; omega) ?_; intro va wa hR hB hg hat; obtain ⟨AA, cA, rfl⟩ := Kd.R_slice hR; have HRa := Aside0.mk hR; have HBa := Aside0.mk hB; have HGa := Aside0.mk hg; have hga_ := (hg.block g (blk_lt HU1.out.blk) (ne_own (h := HU1.out) g HU1.out.gN)).trans HU1.out.blk; have hga := (blk_cell hga_ 3).trans rfl; have hgaf := blk_frozen hga_ 3; clear hR hB hg hat hga_) | ((with_reducible refine gate_store (t := 50) (p := 306) rfl ?_); refine store_event (t := 50) (p := 306) (v := ?vo_B1) (w1 := (wa.setCell ⟨g, 3, none⟩ (.slice AA (e.blocks ++ [(a1 : Int)]).length cA))) ?hg ?ho ?hn ?hr ?_; (case ho => rfl); (case hg => rfl); (case hn => rfl); (case hr => first | (go_simp; done) | (go_simp; rfl)); intro wb hw; have HUc : Aside0 (Um w0 wb g b5 N t { e with blocks := e.blocks ++ [(a1 : Int)] } c0 c1 c2 (.slice AA (e.blocks ++ [(a1 : Int)]).length cA)) := ⟨by rw [hw]; exact HU1.out.rblk (a1 : Int) HGa.out HBa.out HRa.out⟩; clear hw hga hgaf))
         have hfin := ur_blk (x := x1) HP.out HQT.out HQD.out HQS.out HQB.out HDR.out (by rw [← HKQ.out]; exact HKN.out) HVB.out HV.out HJ1.out.2.1 HL.out (by rw [← HVB.out]; exact HUc.out) X1.out
         refine Handed.intro (encq { q with blocks := bs }).length ?msBa (hJ1 _ _ _ ?rlBa ?frBa)
         case frBa => kernel_rfl
         case msBa => rw [HKQ.out]; exact hfin.2
         case rlBa => exact ⟨x1, rfl, ⟨hfin.1⟩⟩
        ·have m5 : decide ((cc : Int) < 128) = false := decide_eq_false (by rw [hcc, if_neg hl]; omega)
         have m5n : decide (cc < 128) = false := decide_eq_false (by rw [hcc, if_neg hl]; omega)
         have HL := Aside0.mk hl
         clear hl hcc
         go_wp2_with fail
         refine Handed.intro (gk3 - 1) ?msBb (hJ3 _ _ _ ?rlBb ?frBb)
         case frBb => kernel_rfl
         case msBb => have := HJ1.out.1; have := HJ1.out.2.2; omega
         case rlBb => exact ⟨x1, y1, (a1 : Int), rfl, rfl, rfl, ⟨rfl⟩, ⟨j + 1, X1.out, Y1.out, by rw [HA1.out], by have := HJ1.out.1; have := HJ1.out.2.2; omega, .inr (var_more HL.out)⟩⟩
     | nil =>
      have h0 : q.ty = none ∧ q.data = none ∧ q.size = none ∧ q.blocks = [] := ⟨hqt, hqd, hqs, hqb⟩
      have he : (encq q).length = 0 := by unfold encq; rw [hqt, hqd, hqs, hqb]; rfl
      obtain ⟨p1, hR⟩ := um_done HU1.out hP h0.1 h0.2.1 h0.2.2.1 h0.2.2.2
      have HR := Aside0.mk hR
      have hety : e.ty = some d.ty := hP.ty.elim (fun h => h.2) (fun h => by have := h.1; rw [h0.1] at this; cases this)
      have hbit : W1.cell? ⟨b5, 0, none⟩ = some (.int .u64 1) := by
       have := HU1.out.bit
       rw [hety, if_neg (by simp)] at this
       exact blk_cell this 0
      have hkn : n = k := by have h1 := HKN.out; have h2 := HKQ.out; have h3 := HN.out; omega
      have q0 : decide ((k : Int) < (n : Int)) = false := decide_eq_false (by omega)
      have q0n : decide (k < n) = false := decide_eq_false (by omega)
      have q1 : decide ((n : Int) < (k : Int)) = false := decide_eq_false (by omega)
      have q1n : decide (n < k) = false := decide_eq_false (by omega)
      have HBL := Aside0.mk HU1.out.below
      clear hkn hety h0 hR hP he hqt hqd hqs hqb
      go_wp2_with fail
      go_ret
      exact ⟨rfl, HBL.out, p1, _, _, _, HR.out⟩
end Go.Proofs.YtnhnlodmkbiiiaaDoor.HandFields
