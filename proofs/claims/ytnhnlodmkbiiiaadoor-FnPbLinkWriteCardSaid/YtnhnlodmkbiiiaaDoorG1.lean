/- Bytes are read as a link of merkledag: Unmarshal, walked on any bytes of which umL says something. -/
import Derived.Test.YtnhnlodmkbiiiaaDoorG0
namespace Go.Proofs.YtnhnlodmkbiiiaaDoor.HandFields
open Go Go.RowKit Go.Proofs.YtnhnlodmkbiiiaaDoorL Go.Proofs.YtnhnlodmkbiiiaaDoorW.PrintWords Go.Proofs.YtnhnlodmkbiiiaaDoorW.PrintLast Go.Proofs.YtnhnlodmkbiiiaaDoorW.PrintMore Go.Proofs.YtnhnlodmkbiiiaaDoor.PFieldsBase
attribute [local go_sem] max2_int min2_int max_two min_two max_three min_three max_four min_four
set_option linter.unusedVariables false
set_option linter.unusedSimpArgs false
def m50_0 : List (Option Nat) := [none, none, none, none, some 4, none, some 6, some 7, some 8, some 9, some 10, some 11, some 12, some 13, some 14, some 15, some 16, some 17, some 18, some 19, some 20, some 21, some 22, some 23, some 24, some 25, some 26, some 27, none, none, some 30, some 31, some 32, some 33, some 34, some 35, some 36, some 37, some 38, some 39, some 40, some 41, some 42, some 43, some 44, some 45, some 46, some 47, some 48, some 49, some 50, some 51, some 52, some 53, some 54, some 55, some 56, some 57, some 58, some 59, some 60, some 61, some 62, some 63, some 64, some 65, some 66, some 67, some 68, some 69, some 70, some 71, some 72, some 73, some 74, some 75, some 76, some 77, some 78, some 79, some 80, some 81, some 82, some 83, some 84, some 85, some 86, some 87, some 88, some 89, some 90, some 91, some 92, some 93, some 94, some 95, some 96, some 97, some 98, some 99, some 100, some 101, some 102, some 103, some 104, some 105, some 106, some 107, some 108, some 109, some 110, some 111, some 112, some 113, some 114, some 115, some 116, some 117, some 118, some 119, some 120, some 121, some 122, some 123, some 124, some 125, some 126, some 127, some 128, some 129, some 130, some 131, some 132, some 133, some 134, some 135, some 136, some 137, some 138, some 139, some 140, some 141, some 142, some 143, some 144, some 145, some 146, some 147, some 148, some 149, some 150, some 151, some 152, some 153, some 154, some 155, some 156, some 157, some 158, some 159, some 160, some 161, some 162, some 163, some 164, some 165, some 166, some 167, some 168, some 169, some 170, some 171, some 172, some 173, some 174, some 175, some 176, some 177, some 178, some 179, some 180, some 181, some 182, some 183, some 184, some 185, some 186, some 187, some 188, some 189, some 190, some 191, some 192, some 193, some 194, some 195, some 196, some 197, some 198, some 199, some 200, some 201, some 202, some 203, some 204, some 205, some 206, some 207, some 208, some 209, some 210, some 211, some 212, some 213, some 214, some 215, some 216, some 217, some 218, some 219, some 220, some 221, some 222, some 223, some 224, some 225, some 226, some 227, some 228, some 229, some 230, some 231, some 232, some 233, some 234, some 235, some 236, some 237, some 238, some 239, some 240, some 241, some 242, some 243, some 244, some 245, some 246, some 247, some 248, some 249, some 250, some 251, some 252, some 253, some 254, some 255, some 256, some 257, some 258, some 259, some 260, some 261, some 262, none, none, none, none]
def m50_1 : List (Option Nat) := [none, none, none, none, some 4, none, some 6, none, some 8, some 9, some 10, none, none, none, none, none, none, none, none, none, none, none, none, none, none, none, none, none, none, none, none, none, none, none, some 34, some 35, some 36, some 37, some 38, some 39, some 40, some 41, some 42, some 43, some 44, some 45, some 46, some 47, some 48, some 49, some 50, some 51, some 52, some 53, some 54, some 55, some 56, some 57, none, none, none, none, none, none, none, none, none, none, none, none, none, none, none, none, none, none, none, none, none, none, none, none, none, none, none, none, none, none, none, none, none, none, none, none, none, none, none, none, none, none, none, none, none, none, none, none, none, none, none, none, none, none, none, none, none, none, none, none, none, none, none, none, none, none, none, none, none, none, none, none, none, none, none, none, none, none, none, none, none, none, none, none, none, none, none, none, none, none, none, none, none, none, none, none, none, none, none, none, none, none, none, none, none, none, none, none, none, none, none, none, none, none, none, none, none, none, none, none, none, none, none, none, none, none, none, none, none, none, none, none, none, none, none, none, none, none, none, none, none, none, none, none, none, none, none, none, none, none, none, none, none, none, none, none, none, none, none, none, none, none, none, none, none, none, none, none, none, none, none, none, none, none, none, none, none, none, none, none, none, none, none, none, none, none, none, none, none, none, none, none, none, none, none, none, none, none, none, none, none, none, none, none, none, none, none, none, none]
def m50_2 : List (Option Nat) := [none, none, none, none, some 4, none, some 6, none, none, none, none, none, none, some 13, some 14, some 15, none, none, none, none, none, none, none, none, none, none, none, none, none, none, none, none, none, none, none, none, none, none, none, none, none, none, none, none, none, none, none, none, none, none, none, none, none, none, none, none, none, none, none, none, none, none, none, none, none, none, none, none, none, none, none, none, none, none, none, none, none, none, none, none, none, none, none, none, none, none, none, none, none, none, none, none, none, none, none, none, none, none, none, none, none, none, none, none, none, none, none, none, none, none, none, none, none, none, none, none, none, none, some 118, some 119, some 120, some 121, some 122, some 123, some 124, some 125, some 126, some 127, some 128, some 129, some 130, some 131, some 132, some 133, some 134, some 135, some 136, some 137, some 138, some 139, some 140, some 141, none, none, none, none, none, none, none, none, none, none, none, none, none, none, none, none, none, none, none, none, none, none, none, none, none, none, none, none, none, none, none, none, none, none, none, none, none, none, none, none, none, none, none, none, none, none, none, none, none, none, none, none, none, none, none, none, none, none, none, none, none, none, none, none, none, none, none, none, none, none, none, none, none, none, none, none, none, none, none, none, none, none, none, none, none, none, none, none, none, none, none, none, none, none, none, none, none, none, none, none, none, none, none, none, none, none, none, none, none, none, none, none, none, none, none, none, none, none, none, none, none, none, none, none, none]
def m50_3 : List (Option Nat) := [none, none, none, none, some 4, none, some 6, none, none, none, none, none, none, none, none, none, none, some 17, some 18, some 19, none, none, none, none, none, none, none, none, none, none, none, none, none, none, none, none, none, none, none, none, none, none, none, none, none, none, none, none, none, none, none, none, none, none, none, none, none, none, none, none, none, none, none, none, none, none, none, none, none, none, none, none, none, none, none, none, none, none, none, none, none, none, none, none, none, none, none, none, none, none, none, none, none, none, none, none, none, none, none, none, none, none, none, none, none, none, none, none, none, none, none, none, none, none, none, none, none, none, none, none, none, none, none, none, none, none, none, none, none, none, none, none, none, none, none, none, none, none, none, none, none, none, none, none, none, none, none, none, none, none, none, none, none, none, none, none, none, none, none, none, none, none, none, none, none, none, none, none, none, none, none, none, none, none, none, none, none, none, none, none, none, none, none, some 183, some 184, some 185, some 186, some 187, some 188, some 189, some 190, some 191, some 192, some 193, some 194, some 195, some 196, some 197, some 198, some 199, some 200, some 201, some 202, some 203, some 204, some 205, some 206, none, none, none, none, none, none, none, none, none, none, none, none, none, none, none, none, none, none, none, none, none, none, none, none, none, none, none, none, none, none, none, none, none, none, none, none, none, none, none, none, none, none, none, none, none, none, none, none, none, none, none, none, none, none, none, none, none, none, none, none]
def m50_4 : List (Option Nat) := [none, none, none, none, some 4, none, some 6, none, none, none, none, none, none, none, none, none, none, none, none, none, none, none, none, none, some 24, some 25, none, none, none, none, none, none, none, none, none, none, none, none, none, none, none, none, none, none, none, none, none, none, none, none, none, none, none, none, none, none, none, none, none, none, none, none, none, none, none, none, none, none, none, none, none, none, none, none, none, none, none, none, none, none, none, none, none, none, none, none, none, none, none, none, none, none, none, none, none, none, none, none, none, none, none, none, none, none, none, none, none, none, none, none, none, none, none, none, none, none, none, none, none, none, none, none, none, none, none, none, none, none, none, none, none, none, none, none, none, none, none, none, none, none, none, none, none, none, none, none, none, none, none, none, none, none, none, none, none, none, none, none, none, none, none, none, none, none, none, none, none, none, none, none, none, none, none, none, none, none, none, none, none, none, none, none, none, none, none, none, none, none, none, none, none, none, none, none, none, none, none, none, none, none, none, none, none, none, none, none, none, none, none, none, none, none, none, none, none, none, none, none, none, none, none, none, none, none, none, none, none, none, none, none, none, none, none, none, none, none, some 236, some 237, some 238, some 239, some 240, some 241, some 242, some 243, some 244, some 245, some 246, some 247, some 248, some 249, some 250, some 251, some 252, some 253, some 254, some 255, some 256, some 257, some 258, some 259, none, none, none, none, none, none, none]
set_option maxHeartbeats 80000000 in
set_option maxRecDepth 100000 in
theorem UmLink (w0 w : World) (g : Nat) (xs : List Int) (hbx : ∀ x ∈ xs, 0 ≤ x ∧ x ≤ 255) (A : Option Addr) (n c : Nat) (hLm : Lm A n xs w0 w g ⟨none, none, none⟩ (.slice none 0 0) (.pointer none) (.pointer none)) (hGE : GE w0) (hn : n = xs.length) (hnc : n ≤ c) (hn2 : n ≤ 40000000) (kf : Nat) (RT : Option Lnk) (hR : umL kf xs ⟨none, none, none⟩ = some RT) :
    Calls Tryd.prog 50 #[.pointer (some ⟨g, 0, none⟩), .slice A n c] w (UmPost w0 g RT) := by
  have HBX := Aside0.mk hbx
  have HL0 := Aside0.mk hLm
  have HGE := Aside0.mk hGE
  have HN := Aside0.mk hn
  have HNC := Aside0.mk hnc
  have HN2 := Aside0.mk hn2
  have HR0 := Aside0.mk hR
  clear hbx hLm hGE hn hnc hn2 hR
  go_enter Tryd.func50, Tryd.ntmps50
  go_wp2_with fail
  refine wp_loop_f m50_0 kf (fun kq us w' => ∃ i : Int, us 6 = .int .i64 i ∧ Aside0 (∃ (k : Nat) (s : Lnk) (c0 c1 c2 : Value), i = (k : Int) ∧ k ≤ xs.length ∧ umL kq (xs.drop k) s = some RT ∧ Lm A n xs w0 w' g s c0 c1 c2)) ?atS1 (by kernel_rfl) ?rnd1
  case atS1 => exact ⟨0, rfl, ⟨0, _, _, _, _, rfl, Nat.zero_le _, HR0.out, HL0.out⟩⟩
  case rnd1 =>
    intro gk1 us1 W1 hrel J1 K1 hJ1 hK1
    dsimp only [ovl, m50_0]
    obtain ⟨i, h6, HU⟩ := hrel
    rw [h6]
    clear h6
    obtain ⟨k, sl, c0, c1, c2, rfl, hkl, hum, hL⟩ := HU.out
    have HLM := Aside0.mk hL
    clear HU hL
    obtain ⟨k', hk'⟩ : ∃ k', gk1 = k' + 1 := ⟨gk1 - 1, by cases gk1 with | zero => (unfold umL at hum; cases hum) | succ q => rfl⟩
    rw [hk'] at hum
    have HK' := Aside0.mk hk'
    clear hk'
    rcases umL_step hum with ⟨hend, hRT⟩ | ⟨hne, RK, hRK, hrest⟩
    · have hkn : k = xs.length := by have := congrArg List.length hend; rw [List.length_drop, List.length_nil] at this; omega
      have q0 : decide ((k : Int) < (n : Int)) = false := decide_eq_false (by have := HN.out; omega)
      have q0n : decide (k < n) = false := decide_eq_false (by have := HN.out; omega)
      have q1 : decide ((n : Int) < (k : Int)) = false := decide_eq_false (by have := HN.out; omega)
      have q1n : decide (n < k) = false := decide_eq_false (by have := HN.out; omega)
      have HRT := Aside0.mk hRT
      clear hkn hend hRT hum hkl
      go_wp2_with fail
      go_ret
      exact UmPost.good HRT.out HLM.out
    · have hkn : k < xs.length := by rcases Nat.lt_or_ge k xs.length with h | h; (exact h); exact absurd (List.drop_of_length_le h) hne
      have j1 : decide ((k : Int) < (n : Int)) = true := decide_eq_true (by have := HN.out; omega)
      have j1n : decide (k < n) = true := decide_eq_true (by have := HN.out; omega)
      have HRK := Aside0.mk hRK
      have HIK := Aside0.mk hkl
      have HNK : Aside0 (RK = none → RT = none) := ⟨fun h => by rcases hrest with ⟨_, h2⟩ | ⟨key, l1, h2, _⟩; (exact h2); (rw [h] at h2; cases h2)⟩
      have HVK : Aside0 (∀ v r, RK = some (v, r) → v < 2 ^ 64) := ⟨fun v r h => by rcases hrest with ⟨h2, _⟩ | ⟨key, l1, h2, h3⟩; (rw [h] at h2; cases h2); (rw [h] at h2; cases h2; rcases h3 with ⟨h4, _⟩ | ⟨h4, _⟩ | ⟨h4, _⟩ | ⟨h4, _⟩ <;> omega)⟩
      have HREST := Aside0.mk hrest
      obtain ⟨ad, eA, _⟩ := Kd.at_int HLM.out.inp (k : Int) (by omega) (by have := HN.out; omega)
      subst eA
      clear hkn hne hRK hrest hum hkl
      go_wp2_with fail
      refine wp_loop_f m50_1 10 (fun kq us w' => ∃ (x y z : Int), us 6 = .int .i64 x ∧ us 9 = .int .u64 y ∧ us 8 = .int .u64 z ∧ Aside0 (w' = W1) ∧ Aside0 (∃ j a : Nat, x = ((k + j : Nat) : Int) ∧ y = ((7 * j : Nat) : Int) ∧ z = (a : Int) ∧ j + kq = 10 ∧ VI xs k 10 RK j a)) ?atSK (by kernel_rfl) ?rndK
      case atSK => exact ⟨_, 0, 0, rfl, rfl, rfl, ⟨rfl⟩, ⟨0, 0, rfl, rfl, rfl, rfl, VI.start HRK.out (by decide) HIK.out⟩⟩
      case rndK =>
        intro gkK usK WK hrel JK KK hJK hKK
        dsimp only [ovl, m50_1]
        obtain ⟨x, y, z, h6, hsh, hz, HW, HJ⟩ := hrel
        rw [h6, hsh, hz]
        clear h6 hsh hz
        have ew := HW.out
        subst ew
        obtain ⟨j, a, hxj, hyj, hza, hjk, hVI⟩ := HJ.out
        subst hza
        have hj9 : j ≤ 9 := by have := hVI.jk; omega
        have m1 : decide ((64 : Int) ≤ y) = false := decide_eq_false (by omega)
        have HJ0 := Aside0.mk (show j + gkK = 10 ∧ j ≤ 9 from ⟨hjk, hj9⟩)
        rcases hVI.byte (b := 64) HBX.out (by decide) HVK.out with ⟨hA, hRn⟩ | ⟨cc, m, hc, hlt, hc256, hm, hsb, hBC⟩
        · have m2 : decide ((n : Int) ≤ x) = true := decide_eq_true (by have := HN.out; omega)
          have HRT := Aside0.mk (HNK.out hRn)
          obtain ⟨T1, X1, hg1⟩ := (HGE.out.below HLM.out.below).2.1
          clear hA hRn hxj hyj hjk hVI HJ hj9
          go_wp2_with fail
          go_ret
          exact UmPost.err HRT.out _ _ HLM.out.below
        · obtain ⟨v1, v2, v3, v4⟩ := acc_words .u64 64 (by decide) (by decide) words_u64 hc256 hm hVI.lt hsb
          obtain ⟨s, hs⟩ : ∃ s : Nat, s = m * 2 ^ (7 * j) := ⟨_, rfl⟩
          rw [← hs] at v3 v4 hsb hBC
          obtain ⟨a1, ha1⟩ : ∃ q : Nat, q = a + s := ⟨_, rfl⟩
          rw [← ha1] at v4 hBC hsb
          rw [← hyj] at v3
          rw [← hxj] at hc
          obtain ⟨ad', eA, hx⟩ := Kd.at_int HLM.out.inp x (by omega) (by have := HN.out; omega)
          injection eA with eA
          subst eA
          rw [hc] at hx
          obtain ⟨x1, hx1⟩ : ∃ z : Int, wrap64 (x + 1) = z := ⟨_, rfl⟩
          have hx1w : IntKind.i64.wrap (x + 1) = x1 := (i64_w _).trans hx1
          have XK1 := Aside0.mk (show x1 = ((k + j + 1 : Nat) : Int) by have := HN2.out; have := HN.out; rw [← hx1]; unfold wrap64; omega)
          have HLK := Aside0.mk (show k + j + 1 ≤ xs.length by omega)
          obtain ⟨y1, hy1⟩ : ∃ z : Int, IntKind.u64.wrap (y + 7) = z := ⟨_, rfl⟩
          have Y1 := Aside0.mk (show y1 = ((7 * (j + 1) : Nat) : Int) by rw [← hy1, words_u64 _ (by omega) (by omega)]; omega)
          have m2 : decide ((n : Int) ≤ x) = false := decide_eq_false (by have := HN.out; omega)
          have m3 : (x < (n : Int)) = True := eq_true (by have := HN.out; omega)
          have m4 : ((0 : Int) ≤ x) = True := eq_true (by omega)
          have m6 : (0 : Int) ≤ y := by omega
          have m7 : min y.toNat 64 = y.toNat := Nat.min_eq_left (by omega)
          have m8 : min y.toNat IntKind.u64.bits = y.toNat := m7
          have HBC := Aside0.mk hBC
          have HSB := Aside0.mk hsb
          by_cases hl : cc < 128
          · have m5 : decide ((cc : Int) < 128) = true := decide_eq_true (by omega)
            have m5n : decide (cc < 128) = true := decide_eq_true hl
            have HDK : Aside0 (RK = some (a1, xs.drop (k + j + 1))) := ⟨by rcases HBC.out with ⟨_, h⟩ | ⟨h, _⟩; (exact h); omega⟩
            clear hl HBC
            clear hxj hyj hjk hVI HJ hj9 hlt hc256 hm hs ha1 hsb hBC hc HW
            obtain ⟨l1, hl1, hkey⟩ : ∃ l1, l1 = xs.drop (k + j + 1) ∧ ((a1 = 10 ∧ lenR k' l1 (fun x => { sl with hash := some x }) = some RT) ∨ (a1 = 18 ∧ lenR k' l1 (fun x => { sl with name := some x }) = some RT) ∨ (a1 = 24 ∧ numR k' l1 (fun x => { sl with ts := some x }) = some RT) ∨ ((a1 = 8 ∨ a1 = 16 ∨ a1 = 26) ∧ RT = none)) := by
              rcases HREST.out with ⟨h2, _⟩ | ⟨key, l1, h2, h3⟩
              · have := HDK.out; rw [h2] at this; cases this
              · have := HDK.out; rw [h2] at this; cases this; exact ⟨_, rfl, h3⟩
            have HL1 := Aside0.mk hl1
            clear hl1
            rcases hkey with ⟨hk0, hrest⟩ | ⟨hk0, hrest⟩ | ⟨hk0, hrest⟩ | ⟨hk0 | hk0 | hk0, hRT⟩
            · have v4k : Go.bits .or .u64 (a : Int) (s : Int) = 10 := by rw [v4, hk0]; rfl
              clear v4
              have kb4 : Go.bits .and .u64 10 7 = 2 := by decide +kernel
              have kb5 : wrap32 1 = 1 := by decide +kernel
              have kb6 : wrap64 2 = 2 := by decide +kernel
              clear hk0
              obtain ⟨RH, hR, hrest2⟩ := lenR_step hrest
              rw [HL1.out] at hR
              have HRH := Aside0.mk hR
              have HIH := Aside0.mk HLK.out
              have HNH : Aside0 (RH = none → RT = none) := ⟨fun h => by rcases hrest2 with ⟨_, h2⟩ | ⟨key, l1, h2, _⟩; (exact h2); (rw [h] at h2; cases h2)⟩
              have HVH : Aside0 (∀ v r, RH = some (v, r) → v < 2 ^ 63) := ⟨fun v r h => rdv_lt 9 _ v r (fun x hx => HBX.out x (List.mem_of_mem_drop hx)) (by rw [HRH.out, h])⟩
              have HREST2 := Aside0.mk hrest2
              have XK := XK1
              obtain ⟨i1, hi1⟩ : ∃ i1, i1 = k + j + 1 := ⟨_, rfl⟩
              rw [← hi1] at HRH HIH XK
              clear hrest hR hrest2 hi1
              go_wp2_with fail
              refine wp_loop_f m50_2 10 (fun kq us w' => ∃ (x y z : Int), us 6 = .int .i64 x ∧ us 14 = .int .u64 y ∧ us 13 = .int .i64 z ∧ Aside0 (w' = WK) ∧ Aside0 (∃ j a : Nat, x = ((i1 + j : Nat) : Int) ∧ y = ((7 * j : Nat) : Int) ∧ z = (a : Int) ∧ j + kq = 10 ∧ VI xs i1 9 RH j a)) ?atSH (by kernel_rfl) ?rndH
              case atSH => exact ⟨_, 0, 0, rfl, rfl, rfl, ⟨rfl⟩, ⟨0, 0, XK.out, rfl, rfl, rfl, VI.start HRH.out (by decide) HIH.out⟩⟩
              case rndH =>
                intro gkH usH WH hrel JH KH hJH hKH
                dsimp only [ovl, m50_2]
                obtain ⟨x, y, z, h6, hsh, hz, HW, HJ⟩ := hrel
                rw [h6, hsh, hz]
                clear h6 hsh hz
                have ew := HW.out
                subst ew
                obtain ⟨j, a, hxj, hyj, hza, hjk, hVI⟩ := HJ.out
                subst hza
                have hj9 : j ≤ 9 := by have := hVI.jk; omega
                have m1 : decide ((64 : Int) ≤ y) = false := decide_eq_false (by omega)
                have HJ0 := Aside0.mk (show j + gkH = 10 ∧ j ≤ 9 from ⟨hjk, hj9⟩)
                rcases hVI.byte (b := 63) HBX.out (by decide) HVH.out with ⟨hA, hRn⟩ | ⟨cc, m, hc, hlt, hc256, hm, hsb, hBC⟩
                · have m2 : decide ((n : Int) ≤ x) = true := decide_eq_true (by have := HN.out; omega)
                  have HRT := Aside0.mk (HNH.out hRn)
                  obtain ⟨T1, X1, hg1⟩ := (HGE.out.below HLM.out.below).2.1
                  clear hA hRn hxj hyj hjk hVI HJ hj9
                  go_wp2_with fail
                  go_ret
                  exact UmPost.err HRT.out _ _ HLM.out.below
                · obtain ⟨v1, v2, v3, v4⟩ := acc_words .i64 63 (by decide) (by decide) words_i64 hc256 hm hVI.lt hsb
                  obtain ⟨s, hs⟩ : ∃ s : Nat, s = m * 2 ^ (7 * j) := ⟨_, rfl⟩
                  rw [← hs] at v3 v4 hsb hBC
                  obtain ⟨a1, ha1⟩ : ∃ q : Nat, q = a + s := ⟨_, rfl⟩
                  rw [← ha1] at v4 hBC hsb
                  rw [← hyj] at v3
                  rw [← hxj] at hc
                  obtain ⟨ad', eA, hx⟩ := Kd.at_int HLM.out.inp x (by omega) (by have := HN.out; omega)
                  injection eA with eA
                  subst eA
                  rw [hc] at hx
                  obtain ⟨x1, hx1⟩ : ∃ z : Int, wrap64 (x + 1) = z := ⟨_, rfl⟩
                  have hx1w : IntKind.i64.wrap (x + 1) = x1 := (i64_w _).trans hx1
                  have XH1 := Aside0.mk (show x1 = ((i1 + j + 1 : Nat) : Int) by have := HN2.out; have := HN.out; rw [← hx1]; unfold wrap64; omega)
                  have HLH := Aside0.mk (show i1 + j + 1 ≤ xs.length by omega)
                  obtain ⟨y1, hy1⟩ : ∃ z : Int, IntKind.u64.wrap (y + 7) = z := ⟨_, rfl⟩
                  have Y1 := Aside0.mk (show y1 = ((7 * (j + 1) : Nat) : Int) by rw [← hy1, words_u64 _ (by omega) (by omega)]; omega)
                  have m2 : decide ((n : Int) ≤ x) = false := decide_eq_false (by have := HN.out; omega)
                  have m3 : (x < (n : Int)) = True := eq_true (by have := HN.out; omega)
                  have m4 : ((0 : Int) ≤ x) = True := eq_true (by omega)
                  have m6 : (0 : Int) ≤ y := by omega
                  have m7 : min y.toNat 64 = y.toNat := Nat.min_eq_left (by omega)
                  have m8 : min y.toNat IntKind.i64.bits = y.toNat := m7
                  have HBC := Aside0.mk hBC
                  have HSB := Aside0.mk hsb
                  by_cases hl : cc < 128
                  · have m5 : decide ((cc : Int) < 128) = true := decide_eq_true (by omega)
                    have m5n : decide (cc < 128) = true := decide_eq_true hl
                    have HDH : Aside0 (RH = some (a1, xs.drop (i1 + j + 1))) := ⟨by rcases HBC.out with ⟨_, h⟩ | ⟨h, _⟩; (exact h); omega⟩
                    clear hl HBC
                    have v2w : wrap64 (m : Int) = (m : Int) := (i64_w _).symm.trans v2
                    have v3w : wrap64 ((m : Int) * 2 ^ y.toNat) = (s : Int) := (i64_w _).symm.trans v3
                    clear hxj hyj hjk hVI HJ hj9 hlt hc256 hm hs ha1 hsb hBC hc HW
                    have a63 : a1 < 2 ^ 63 := HSB.out
                    have HA63 := Aside0.mk a63
                    obtain ⟨l2, hl2, hlen⟩ : ∃ l2, l2 = xs.drop (i1 + j + 1) ∧ ((a1 ≤ l2.length ∧ umL k' (l2.drop a1) { sl with hash := some (l2.take a1) } = some RT) ∨ (l2.length < a1 ∧ RT = none)) := by
                      rcases HREST2.out with ⟨h2, _⟩ | ⟨key, l1, h2, h3⟩
                      · have := HDH.out; rw [h2] at this; cases this
                      · have := HDH.out; rw [h2] at this; cases this; exact ⟨_, rfl, h3⟩
                    have hl2n : l2.length + (i1 + j + 1) = xs.length := by rw [hl2, List.length_drop]; have := HLH.out; omega
                    have HL2 := Aside0.mk hl2
                    have HL2N := Aside0.mk hl2n
                    clear hl2
                    obtain ⟨p, hp⟩ : ∃ z : Int, wrap64 (x1 + (a1 : Int)) = z := ⟨_, rfl⟩
                    have hpw : IntKind.i64.wrap (x1 + (a1 : Int)) = p := (i64_w _).trans hp
                    have q1 : decide ((a1 : Int) < 0) = false := decide_eq_false (by omega)
                    rcases hlen with ⟨hle, hum⟩ | ⟨hgt, hRT⟩
                    · have hpv : p = ((i1 + j + 1 + a1 : Nat) : Int) ∧ i1 + j + 1 + a1 ≤ n := by have h1 := XH1.out; have h2 := HN2.out; have h3 := HN.out; refine ⟨?_, by omega⟩; rw [← hp]; unfold wrap64; omega
                      have HPV := Aside0.mk hpv
                      have HPX := Aside0.mk (show i1 + j + 1 + a1 ≤ xs.length by have h1 := hpv.2; have h2 := HN.out; omega)
                      have HUM := Aside0.mk hum
                      have HLE := Aside0.mk hle
                      have q2 : decide (p < 0) = false := decide_eq_false (by omega)
                      have q3 : decide ((n : Int) < p) = false := decide_eq_false (by omega)
                      obtain ⟨i05, hi05, hsz5⟩ : ∃ i, Tryd.prog.info? 5 = some i ∧ i.size = 1 := Option.map_eq_some_iff.1 info5s
                      have hx1p : (x1 ≤ p) = True := eq_true (by have := XH1.out; omega)
                      have hx10 : ((0 : Int) ≤ x1) = True := eq_true (by have := XH1.out; omega)
                      have hcutB := cut_mid (P := Tryd.prog) 22 5 .i64 .i64 Tryd.underlying22 hi05 1 hsz5 (some ad) n c x1 p (of_eq_true hx10) (of_eq_true hx1p) (by omega) HNC.out
                      obtain ⟨DD, hDD⟩ : ∃ D_, D_ = (if c = x1.toNat then some ad else Option.map (fun x : Addr => x.add (x1.toNat * 1)) (some ad)) := ⟨_, rfl⟩
                      rw [← hDD] at hcutB
                      obtain ⟨pl, hpl⟩ : ∃ m : Nat, m = p.toNat - x1.toNat := ⟨_, rfl⟩
                      rw [← hpl] at hcutB
                      obtain ⟨cD, hcD⟩ : ∃ m : Nat, m = c - x1.toNat := ⟨_, rfl⟩
                      rw [← hcD] at hcutB
                      have HPL := Aside0.mk (show pl = a1 by have := XH1.out; omega)
                      obtain ⟨hs, hhs⟩ : ∃ q, q = l2.take a1 := ⟨_, rfl⟩
                      have hsl : hs.length = a1 := by rw [hhs, List.length_take]; omega
                      have HHS := Aside0.mk hhs
                      have HSL := Aside0.mk hsl
                      have hd2 : xs.drop (i1 + j + 1) = hs ++ l2.drop a1 := by rw [← HL2.out, hhs, List.take_append_drop]
                      have HCX : Aside0 (Kd.C (Kd.int .u8) WH DD pl hs) := ⟨by rw [hDD, hpl]; have h1 := XH1.out; have h2 : p.toNat = x1.toNat + hs.length := (by omega); exact mid_row (j := p.toNat) HLM.out.inp HNC.out (by rw [h1, Int.toNat_natCast]; exact hd2) (by rw [h1, Int.toNat_natCast]; exact HLH.out) h2⟩
                      have HUM2 : Aside0 (umL k' (xs.drop (i1 + j + 1 + a1)) { sl with hash := some hs } = some RT) := ⟨by rw [hhs, ← List.drop_drop, ← HL2.out]; exact HUM.out⟩
                      obtain ⟨A0, n0, cap0, xs0, rfl, hn0, hRu⟩ := HLM.out.hashR
                      have HRU := Aside0.mk hRu
                      have hg1 : WH.cell? ⟨g, 0, none⟩ = some (.slice A0 n0 cap0) := (blk_cell HLM.out.blk 0).trans rfl
                      have hcutA := cut_to (P := Tryd.prog) 22 5 .i64 Tryd.underlying22 hi05 A0 n0 cap0 (0 : Int) (Int.le_refl _) (by omega) hn0
                      have hN1 : some g ≠ (Value.slice A0 0 cap0).ownBlock := by rw [own_cut A0 0 n0 cap0 cap0]; exact Kd.R_ne hRu HLM.out.blk (by decide)
                      have HN1 := Aside0.mk hN1
                      clear hi05 hsz5 hDD hpl hcD hhs hsl hd2 hn0 hRu hN1 hpv hum hle hl2n hp a63
                      go_wp2_with fail
                      refine start_ (n := 14) (S := fun w' => w'.cell? ⟨g, 0, none⟩ = some (.slice A0 n0 cap0)) (ds := [13]) #[false, false, false, false, false, false, false, false, false, false, false, false, false, false] (by kernel_rfl) rfl rfl (hg1) (fun hHeld => ?_)
                      refine pure_ (i := 0) (N := some 155) (v := ?_) (a' := ?_) #[true, false, false, false, false, false, false, false, false, false, false, false, false, false] rfl rfl (by kernel_rfl) (fun _ _ _ h => h) (Or.inl ⟨by rfl, ?_⟩) ?_ ?_
                      rotate_left
                      · intro w'
                        go_simp
                        with_reducible rfl
                      rotate_left
                      · simp only [Act.put, List.setIfInBounds_toArray, List.set_cons_zero, List.set_cons_succ, i64_w, i32_w]
                        rfl
                      refine pure_ (i := 1) (N := some 156) (v := ?_) (a' := ?_) #[true, true, false, false, false, false, false, false, false, false, false, false, false, false] rfl rfl (by kernel_rfl) (fun _ _ _ h => h) (Or.inl ⟨by rfl, ?_⟩) ?_ ?_
                      rotate_left
                      · intro w'
                        go_simp
                        with_reducible rfl
                      rotate_left
                      · simp only [Act.put, List.setIfInBounds_toArray, List.set_cons_zero, List.set_cons_succ, i64_w, i32_w]
                        rfl
                      refine pure_ (i := 2) (N := some 157) (v := ?_) (a' := ?_) #[true, true, true, false, false, false, false, false, false, false, false, false, false, false] rfl rfl (by kernel_rfl) (fun _ _ _ h => h) (Or.inl ⟨by rfl, ?_⟩) ?_ ?_
                      rotate_left
                      · intro w'
                        go_simp
                        with_reducible rfl
                      rotate_left
                      · simp only [Act.put, List.setIfInBounds_toArray, List.set_cons_zero, List.set_cons_succ, i64_w, i32_w]
                        rfl
                      refine pure_ (i := 3) (N := some 158) (v := ?_) (a' := ?_) #[true, true, true, true, false, false, false, false, false, false, false, false, false, false] rfl rfl (by kernel_rfl) (fun _ _ _ h => h) (Or.inl ⟨by rfl, ?_⟩) ?_ ?_
                      rotate_left
                      · intro w'
                        go_simp
                        with_reducible rfl
                      rotate_left
                      · simp only [Act.put, List.setIfInBounds_toArray, List.set_cons_zero, List.set_cons_succ, i64_w, i32_w]
                        rfl
                      refine pure_ (i := 6) (N := some 161) (v := ?_) (a' := ?_) #[true, true, true, true, false, false, true, false, false, false, false, false, false, false] rfl rfl (by kernel_rfl) (fun _ _ _ h => h) (Or.inl ⟨by rfl, ?_⟩) ?_ ?_
                      rotate_left
                      · intro w'
                        go_simp
                        with_reducible rfl
                      rotate_left
                      · simp only [Act.put, List.setIfInBounds_toArray, List.set_cons_zero, List.set_cons_succ, i64_w, i32_w]
                        rfl
                      refine pure_ (i := 7) (N := some 162) (v := ?_) (a' := ?_) #[true, true, true, true, false, false, true, true, false, false, false, false, false, false] rfl rfl (by kernel_rfl) (fun _ _ _ h => h) (Or.inl ⟨by rfl, ?_⟩) ?_ ?_
                      rotate_left
                      · intro w'
                        go_simp
                        with_reducible rfl
                      rotate_left
                      · simp only [Act.put, List.setIfInBounds_toArray, List.set_cons_zero, List.set_cons_succ, i64_w, i32_w]
                        rfl
                      refine pure_ (i := 8) (N := some 163) (v := ?_) (a' := ?_) #[true, true, true, true, false, false, true, true, true, false, false, false, false, false] rfl rfl (by kernel_rfl) (fun _ _ _ h => h) (Or.inl ⟨by rfl, ?_⟩) ?_ ?_
                      rotate_left
                      · intro w'
                        go_simp
                        with_reducible rfl
                      rotate_left
                      · simp only [Act.put, List.setIfInBounds_toArray, List.set_cons_zero, List.set_cons_succ, i64_w, i32_w]
                        rfl
                      refine pure_ (i := 9) (N := some 164) (v := ?_) (a' := ?_) #[true, true, true, true, false, false, true, true, true, true, false, false, false, false] rfl rfl (by kernel_rfl) (fun _ _ _ h => h) (Or.inl ⟨by rfl, ?_⟩) ?_ ?_
                      rotate_left
                      · intro w'
                        go_simp
                        with_reducible rfl
                      rotate_left
                      · simp only [Act.put, List.setIfInBounds_toArray, List.set_cons_zero, List.set_cons_succ, i64_w, i32_w]
                        rfl
                      refine take_ (i := 4) (N := some 159) (v := ?_) (a' := ?_) #[true, true, true, true, true, false, true, true, true, true, false, false, false, false] rfl rfl (by kernel_rfl) (fun _ _ _ h => h) (Or.inl ⟨by rfl, ?_⟩) hHeld ?_ ?_
                      rotate_left
                      · intro w' s0
                        go_simp
                        with_reducible rfl
                      rotate_left
                      · simp only [Act.put, List.setIfInBounds_toArray, List.set_cons_zero, List.set_cons_succ, i64_w, i32_w]
                        rfl
                      refine pure_ (i := 5) (N := some 160) (v := ?_) (a' := ?_) #[true, true, true, true, true, true, true, true, true, true, false, false, false, false] rfl rfl (by kernel_rfl) (fun _ _ _ h => h) (Or.inl ⟨by rfl, ?_⟩) ?_ ?_
                      rotate_left
                      · intro w'
                        go_simp
                        with_reducible rfl
                      rotate_left
                      · simp only [Act.put, List.setIfInBounds_toArray, List.set_cons_zero, List.set_cons_succ, i64_w, i32_w]
                        rfl
                      refine one_ (i := 10) (N := some 165) #[true, true, true, true, true, true, true, true, true, true, true, false, false, false] rfl rfl (by kernel_rfl) (by decide) (fun K hK => ?_)
                      refine Kd.R_append_rows_step (Kd.int .u8) (Rr := fun x cs => cs = [Value.int .u8 x]) (w0 := w0) w0.heap.size (by rfl) (.tmp 160) (.tmp 164) 22 5 (.int .u8 0) 1 rfl Tryd.underlying22 info5e rfl (by decide) (by decide) (.slice A0 0 cap0) [] hs DD pl _ (okz (some ad) n g) (fun _ => False) rfl rfl (R_cut0 (Kd.R_drew HRU.out)) (Kd.C_drew HCX.out) (fun x cs hx => hx) (fun _ hk => hk.elim) (fun k hk => HLM.out.okNew k hk) (below_drew HLM.out.below) (below_size (below_drew HLM.out.below)) (by have h1 := HPL.out; have h2 := HLE.out; have h3 := HL2N.out; have h4 := HN2.out; have h5 := HN.out; simp only [List.length_nil]; omega) ?_
                      intro va wa hR hB hg hat
                      rw [List.nil_append] at hR
                      obtain ⟨AA, cA, rfl⟩ := Kd.R_slice hR
                      have HRa := Aside0.mk hR
                      have HBa := Aside0.mk hB
                      have HGa := Aside0.mk hg
                      have hga_ := (hg.block g (blk_lt HLM.out.blk) HN1.out).trans HLM.out.blk
                      have HGAB := Aside0.mk hga_
                      have hga := (blk_cell hga_ 0).trans rfl
                      have hgaf := blk_frozen hga_ 0
                      clear hR hB hg hat hg1 hga_
                      refine hK.out _ _ (hga) (fun hHeld => ?_)
                      clear hK K
                      refine norm_ (a' := ?_) ?_ ?_
                      rotate_left
                      · show Act.put _ (some 165) _ = _
                        simp only [Act.put, List.setIfInBounds_toArray, List.set_cons_zero, List.set_cons_succ, i64_w, i32_w]
                        rfl
                      refine pure_ (i := 11) (N := some 166) (v := ?_) (a' := ?_) #[true, true, true, true, true, true, true, true, true, true, true, true, false, false] rfl rfl (by kernel_rfl) (fun _ _ _ h => h) (Or.inl ⟨by rfl, ?_⟩) ?_ ?_
                      rotate_left
                      · intro w'
                        go_simp
                        with_reducible rfl
                      rotate_left
                      · simp only [Act.put, List.setIfInBounds_toArray, List.set_cons_zero, List.set_cons_succ, i64_w, i32_w]
                        rfl
                      refine pure_ (i := 12) (N := some 167) (v := ?_) (a' := ?_) #[true, true, true, true, true, true, true, true, true, true, true, true, true, false] rfl rfl (by kernel_rfl) (fun _ _ _ h => h) (Or.inl ⟨by rfl, ?_⟩) ?_ ?_
                      rotate_left
                      · intro w'
                        go_simp
                        with_reducible rfl
                      rotate_left
                      · simp only [Act.put, List.setIfInBounds_toArray, List.set_cons_zero, List.set_cons_succ, i64_w, i32_w]
                        rfl
                      refine last_ (i := 13) (N := none) #[true, true, true, true, true, true, true, true, true, true, true, true, true, true] rfl rfl (by kernel_rfl) (by decide) (fun K hK => ?_)
                      refine skip_ (w1 := ?_) (by rfl) rfl ?_ ?_
                      rotate_left
                      · go_simp
                        rfl
                      refine hK.out _ _ ?_
                      clear hK K
                      refine done_ (by kernel_rfl) ?_

                      obtain ⟨wb, hwb⟩ : ∃ w_, w_ = wa.setCell ⟨g, 0, none⟩ (.slice AA hs.length cA) := ⟨_, rfl⟩
                      rw [← hwb]
                      have HWB := Aside0.mk hwb
                      have hgb_ : wb.heap[g]? = some (.cells #[.slice AA hs.length cA, c1, c2, .slice none 0 0, .int .i32 0] 96 (0, 0)) := by rw [hwb]; exact blk_put HGAB.out 0 _ rfl
                      have HGB := Aside0.mk hgb_
                      have hgb := (blk_cell hgb_ 0).trans rfl
                      have hgbf := blk_frozen hgb_ 0
                      have HGD : Aside0 (WH.grownBy wa (Value.slice A0 n0 cap0).ownBlock) := ⟨⟨HGa.out.os, HGa.out.tape, HGa.out.output, HGa.out.size, fun k hk hne => HGa.out.block k hk (by rw [own_cut A0 0 n0 cap0 cap0]; exact hne)⟩⟩
                      clear hwb hga hgaf hgb_
                      cases AA with
                      | some ad9 =>
                        have heq9 : ∀ W : World, (binOp .eql 22 (.slice (some ad9) hs.length cA) (.slice none 0 0)).run Tryd.prog W = .ok (.bool false) W := fun W => Lib.run_eql_slice_nil W 22 5 (some ad9) hs.length cA 0 0 Tryd.underlying22
                        go_wp2_with fail
                        have HU2 : Aside0 (Lm (some ad) n xs w0 wb g { sl with hash := some hs } (.slice (some ad9) hs.length cA) c1 c2) := ⟨by rw [HWB.out]; exact HLM.out.setHash HRU.out (fun k hk _ hne => HGD.out.block k hk hne) HGAB.out HBa.out ad9 cA hs HRa.out⟩
                        refine Handed.intro k' ?msH1 (hJ1 _ _ _ ?rlH1 ?frH1)
                        case frH1 => kernel_rfl
                        case msH1 => have := HK'.out; omega
                        case rlH1 => exact ⟨p, rfl, ⟨i1 + j + 1 + a1, _, _, _, _, HPV.out.1, HPX.out, HUM2.out, HU2.out⟩⟩
                      | none =>
                        have heq9 : ∀ W : World, (binOp .eql 22 (.slice none hs.length cA) (.slice none 0 0)).run Tryd.prog W = .ok (.bool true) W := fun W => Lib.run_eql_slice_nil W 22 5 none hs.length cA 0 0 Tryd.underlying22
                        have HBW : Aside0 (Below w0.heap.size w0 wb) := ⟨by rw [HWB.out]; exact below_set HBa.out HLM.out.gge⟩
                        go_wp2_with (first | ((with_reducible refine gate_dst (N := 174) rfl ?_); refine Kd.R_lit (Kd.int .u8) (w0 := w0) (W := wb) w0.heap.size 5 rfl (N := 174) rfl (xs := ([] : List Int)) (inner := []) (ok := okz (some ad) n g) (okp := fun _ => False) ?hr22 (by constructor <;> simp) (fun _ hk => hk.elim) (HLM.out.okNew _ (Nat.le_trans HGD.out.size (by rw [HWB.out]; simp [World.setCell]))) HBW.out HBW.out.size (by simp) ?_; (case hr22 => first | (go_simp; done) | (go_simp; rfl)); intro v9 we hR9 hB9 hG9 hat9; obtain ⟨ad9, c9, rfl⟩ := own_some hR9 hat9; have HR9 := Aside0.mk hR9; have HB9 := Aside0.mk hB9; have HG9 := Aside0.mk hG9; have hgc_ := (hG9.block g (blk_lt HGB.out) (by simp)).trans HGB.out; have hgc := (blk_cell hgc_ 0).trans rfl; have hgcf := blk_frozen hgc_ 0; clear hR9 hB9 hG9 hat9 hgc_ hgb hgbf) | ((with_reducible refine gate_store (t := 22) (p := 176) rfl ?_); refine store_event (t := 22) (p := 176) (v := ?vo_H2) (w1 := (we.setCell ⟨g, 0, none⟩ (.slice (some ad9) 0 c9))) ?hg ?ho ?hn ?hr ?_; (case ho => rfl); (case hg => rfl); (case hn => rfl); (case hr => first | (go_simp; done) | (go_simp; rfl)); intro wc hw; have HWC := Aside0.mk hw; clear hw hgc hgcf))
                        have hx0 : hs = [] := by
                          rcases Nat.eq_zero_or_pos hs.length with h | h
                          · exact List.eq_nil_of_length_eq_zero h
                          · obtain ⟨g9, c9, e9, _⟩ := Kd.R_form HRa.out h
                            cases e9
                        have HU2 : Aside0 (Lm (some ad) n xs w0 wc g { sl with hash := some hs } (.slice (some ad9) 0 c9) c1 c2) := ⟨by
                          rw [HWC.out, hx0]
                          exact HLM.out.setHash HRU.out (fun k hk hkg hne => by
                            refine (HG9.out.block k (Nat.lt_of_lt_of_le hk (Nat.le_trans HGD.out.size (by rw [HWB.out]; simp [World.setCell]))) (by simp)).trans ?_
                            rw [HWB.out]
                            exact (Below.heap_setCell wa ⟨g, 0, none⟩ _ k (by simpa using hkg)).trans (HGD.out.block k hk hne)) ((HG9.out.block g (blk_lt HGB.out) (by simp)).trans HGB.out) HB9.out ad9 c9 [] HR9.out⟩
                        refine Handed.intro k' ?msH3 (hJ1 _ _ _ ?rlH3 ?frH3)
                        case frH3 => kernel_rfl
                        case msH3 => have := HK'.out; omega
                        case rlH3 => exact ⟨p, rfl, ⟨i1 + j + 1 + a1, _, _, _, _, HPV.out.1, HPX.out, HUM2.out, HU2.out⟩⟩
                    · have HRT := Aside0.mk hRT
                      have hxx := XH1.out
                      have hnn := HN.out
                      by_cases hov : i1 + j + 1 + a1 < 2 ^ 63
                      · have hpv : p = ((i1 + j + 1 + a1 : Nat) : Int) := by rw [← hp]; unfold wrap64; omega
                        have q2 : decide (p < 0) = false := decide_eq_false (by omega)
                        have q3 : decide ((n : Int) < p) = true := decide_eq_true (by omega)
                        obtain ⟨T1, X1, hg1⟩ := (HGE.out.below HLM.out.below).2.1
                        clear hpv hov hp hRT hgt hl2n hxx hnn a63
                        go_wp2_with fail
                        go_ret
                        exact UmPost.err HRT.out _ _ HLM.out.below
                      · have hn2 := HN2.out
                        have q2 : decide (p < 0) = true := decide_eq_true (by rw [← hp]; unfold wrap64; omega)
                        obtain ⟨T1, X1, hg1⟩ := (HGE.out.below HLM.out.below).2.2
                        clear hov hp hRT hgt hl2n hxx hnn a63 hn2
                        go_wp2_with fail
                        go_ret
                        exact UmPost.err HRT.out _ _ HLM.out.below
                  · have m5 : decide ((cc : Int) < 128) = false := decide_eq_false (by omega)
                    have m5n : decide (cc < 128) = false := decide_eq_false hl
                    have HVN : Aside0 (VI xs i1 9 RH (j + 1) a1) := ⟨by rcases HBC.out with ⟨h, _⟩ | ⟨_, h⟩; (exact absurd h hl); exact h⟩
                    clear hl HBC
                    have v2w : wrap64 (m : Int) = (m : Int) := (i64_w _).symm.trans v2
                    have v3w : wrap64 ((m : Int) * 2 ^ y.toNat) = (s : Int) := (i64_w _).symm.trans v3
                    clear hxj hyj hjk hVI HJ hj9 hlt hc256 hm hs ha1 hsb hBC hc HW
                    go_wp2_with fail
                    refine Handed.intro (gkH - 1) ?msHb (hJH _ _ _ ?rlHb ?frHb)
                    case frHb => kernel_rfl
                    case msHb => have := HJ0.out; omega
                    case rlHb => exact ⟨x1, y1, (a1 : Int), rfl, rfl, rfl, ⟨rfl⟩, ⟨j + 1, a1, XH1.out, Y1.out, rfl, by have := HJ0.out; omega, HVN.out⟩⟩
            · have v4k : Go.bits .or .u64 (a : Int) (s : Int) = 18 := by rw [v4, hk0]; rfl
              clear v4
              have kb4 : Go.bits .and .u64 18 7 = 2 := by decide +kernel
              have kb5 : wrap32 2 = 2 := by decide +kernel
              have kb6 : wrap64 2 = 2 := by decide +kernel
              clear hk0
              obtain ⟨RN, hR, hrest2⟩ := lenR_step hrest
              rw [HL1.out] at hR
              have HRN := Aside0.mk hR
              have HIN := Aside0.mk HLK.out
              have HNN : Aside0 (RN = none → RT = none) := ⟨fun h => by rcases hrest2 with ⟨_, h2⟩ | ⟨key, l1, h2, _⟩; (exact h2); (rw [h] at h2; cases h2)⟩
              have HVN : Aside0 (∀ v r, RN = some (v, r) → v < 2 ^ 64) := ⟨fun v r h => Nat.lt_trans (rdv_lt 9 _ v r (fun x hx => HBX.out x (List.mem_of_mem_drop hx)) (by rw [HRN.out, h])) (by decide)⟩
              have HREST2 := Aside0.mk hrest2
              have XK := XK1
              obtain ⟨i1, hi1⟩ : ∃ i1, i1 = k + j + 1 := ⟨_, rfl⟩
              rw [← hi1] at HRN HIN XK
              clear hrest hR hrest2 hi1
              go_wp2_with fail
              refine wp_loop_f m50_3 10 (fun kq us w' => ∃ (x y z : Int), us 6 = .int .i64 x ∧ us 18 = .int .u64 y ∧ us 17 = .int .u64 z ∧ Aside0 (w' = WK) ∧ Aside0 (∃ j a : Nat, x = ((i1 + j : Nat) : Int) ∧ y = ((7 * j : Nat) : Int) ∧ z = (a : Int) ∧ j + kq = 10 ∧ VI xs i1 9 RN j a)) ?atSN (by kernel_rfl) ?rndN
              case atSN => exact ⟨_, 0, 0, rfl, rfl, rfl, ⟨rfl⟩, ⟨0, 0, XK.out, rfl, rfl, rfl, VI.start HRN.out (by decide) HIN.out⟩⟩
              case rndN =>
                intro gkN usN WN hrel JN KN hJN hKN
                dsimp only [ovl, m50_3]
                obtain ⟨x, y, z, h6, hsh, hz, HW, HJ⟩ := hrel
                rw [h6, hsh, hz]
                clear h6 hsh hz
                have ew := HW.out
                subst ew
                obtain ⟨j, a, hxj, hyj, hza, hjk, hVI⟩ := HJ.out
                subst hza
                have hj9 : j ≤ 9 := by have := hVI.jk; omega
                have m1 : decide ((64 : Int) ≤ y) = false := decide_eq_false (by omega)
                have HJ0 := Aside0.mk (show j + gkN = 10 ∧ j ≤ 9 from ⟨hjk, hj9⟩)
                rcases hVI.byte (b := 64) HBX.out (by decide) HVN.out with ⟨hA, hRn⟩ | ⟨cc, m, hc, hlt, hc256, hm, hsb, hBC⟩
                · have m2 : decide ((n : Int) ≤ x) = true := decide_eq_true (by have := HN.out; omega)
                  have HRT := Aside0.mk (HNN.out hRn)
                  obtain ⟨T1, X1, hg1⟩ := (HGE.out.below HLM.out.below).2.1
                  clear hA hRn hxj hyj hjk hVI HJ hj9
                  go_wp2_with fail
                  go_ret
                  exact UmPost.err HRT.out _ _ HLM.out.below
                · obtain ⟨v1, v2, v3, v4⟩ := acc_words .u64 64 (by decide) (by decide) words_u64 hc256 hm hVI.lt hsb
                  obtain ⟨s, hs⟩ : ∃ s : Nat, s = m * 2 ^ (7 * j) := ⟨_, rfl⟩
                  rw [← hs] at v3 v4 hsb hBC
                  obtain ⟨a1, ha1⟩ : ∃ q : Nat, q = a + s := ⟨_, rfl⟩
                  rw [← ha1] at v4 hBC hsb
                  rw [← hyj] at v3
                  rw [← hxj] at hc
                  obtain ⟨ad', eA, hx⟩ := Kd.at_int HLM.out.inp x (by omega) (by have := HN.out; omega)
                  injection eA with eA
                  subst eA
                  rw [hc] at hx
                  obtain ⟨x1, hx1⟩ : ∃ z : Int, wrap64 (x + 1) = z := ⟨_, rfl⟩
                  have hx1w : IntKind.i64.wrap (x + 1) = x1 := (i64_w _).trans hx1
                  have XN1 := Aside0.mk (show x1 = ((i1 + j + 1 : Nat) : Int) by have := HN2.out; have := HN.out; rw [← hx1]; unfold wrap64; omega)
                  have HLN := Aside0.mk (show i1 + j + 1 ≤ xs.length by omega)
                  obtain ⟨y1, hy1⟩ : ∃ z : Int, IntKind.u64.wrap (y + 7) = z := ⟨_, rfl⟩
                  have Y1 := Aside0.mk (show y1 = ((7 * (j + 1) : Nat) : Int) by rw [← hy1, words_u64 _ (by omega) (by omega)]; omega)
                  have m2 : decide ((n : Int) ≤ x) = false := decide_eq_false (by have := HN.out; omega)
                  have m3 : (x < (n : Int)) = True := eq_true (by have := HN.out; omega)
                  have m4 : ((0 : Int) ≤ x) = True := eq_true (by omega)
                  have m6 : (0 : Int) ≤ y := by omega
                  have m7 : min y.toNat 64 = y.toNat := Nat.min_eq_left (by omega)
                  have m8 : min y.toNat IntKind.u64.bits = y.toNat := m7
                  have HBC := Aside0.mk hBC
                  have HSB := Aside0.mk hsb
                  by_cases hl : cc < 128
                  · have m5 : decide ((cc : Int) < 128) = true := decide_eq_true (by omega)
                    have m5n : decide (cc < 128) = true := decide_eq_true hl
                    have HDN : Aside0 (RN = some (a1, xs.drop (i1 + j + 1))) := ⟨by rcases HBC.out with ⟨_, h⟩ | ⟨h, _⟩; (exact h); omega⟩
                    clear hl HBC
                    clear hxj hyj hjk hVI HJ hj9 hlt hc256 hm hs ha1 hsb hBC hc HW
                    have a63 : a1 < 2 ^ 63 := rdv_lt 9 _ a1 _ (fun x hx => HBX.out x (List.mem_of_mem_drop hx)) (HRN.out.trans (congrArg some HDN.out))
                    have HA63 := Aside0.mk a63
                    obtain ⟨l2, hl2, hlen⟩ : ∃ l2, l2 = xs.drop (i1 + j + 1) ∧ ((a1 ≤ l2.length ∧ umL k' (l2.drop a1) { sl with name := some (l2.take a1) } = some RT) ∨ (l2.length < a1 ∧ RT = none)) := by
                      rcases HREST2.out with ⟨h2, _⟩ | ⟨key, l1, h2, h3⟩
                      · have := HDN.out; rw [h2] at this; cases this
                      · have := HDN.out; rw [h2] at this; cases this; exact ⟨_, rfl, h3⟩
                    have hl2n : l2.length + (i1 + j + 1) = xs.length := by rw [hl2, List.length_drop]; have := HLN.out; omega
                    have HL2 := Aside0.mk hl2
                    have HL2N := Aside0.mk hl2n
                    clear hl2
                    obtain ⟨p, hp⟩ : ∃ z : Int, wrap64 (x1 + (a1 : Int)) = z := ⟨_, rfl⟩
                    have hpw : IntKind.i64.wrap (x1 + (a1 : Int)) = p := (i64_w _).trans hp
                    have q1 : decide ((a1 : Int) < 0) = false := decide_eq_false (by omega)
                    have A1W : Aside0 (wrap64 (a1 : Int) = (a1 : Int)) := ⟨by unfold wrap64; omega⟩
                    rcases hlen with ⟨hle, hum⟩ | ⟨hgt, hRT⟩
                    · have hpv : p = ((i1 + j + 1 + a1 : Nat) : Int) ∧ i1 + j + 1 + a1 ≤ n := by have h1 := XN1.out; have h2 := HN2.out; have h3 := HN.out; refine ⟨?_, by omega⟩; rw [← hp]; unfold wrap64; omega
                      have HPV := Aside0.mk hpv
                      have HPX := Aside0.mk (show i1 + j + 1 + a1 ≤ xs.length by have h1 := hpv.2; have h2 := HN.out; omega)
                      have HUM := Aside0.mk hum
                      have HLE := Aside0.mk hle
                      have q2 : decide (p < 0) = false := decide_eq_false (by omega)
                      have q3 : decide ((n : Int) < p) = false := decide_eq_false (by omega)
                      obtain ⟨i05, hi05, hsz5⟩ : ∃ i, Tryd.prog.info? 5 = some i ∧ i.size = 1 := Option.map_eq_some_iff.1 info5s
                      have hx1p : (x1 ≤ p) = True := eq_true (by have := XN1.out; omega)
                      have hx10 : ((0 : Int) ≤ x1) = True := eq_true (by have := XN1.out; omega)
                      have hcutB := cut_mid (P := Tryd.prog) 22 5 .i64 .i64 Tryd.underlying22 hi05 1 hsz5 (some ad) n c x1 p (of_eq_true hx10) (of_eq_true hx1p) (by omega) HNC.out
                      obtain ⟨DD, hDD⟩ : ∃ D_, D_ = (if c = x1.toNat then some ad else Option.map (fun x : Addr => x.add (x1.toNat * 1)) (some ad)) := ⟨_, rfl⟩
                      rw [← hDD] at hcutB
                      obtain ⟨pl, hpl⟩ : ∃ m : Nat, m = p.toNat - x1.toNat := ⟨_, rfl⟩
                      rw [← hpl] at hcutB
                      obtain ⟨cD, hcD⟩ : ∃ m : Nat, m = c - x1.toNat := ⟨_, rfl⟩
                      rw [← hcD] at hcutB
                      have HPL := Aside0.mk (show pl = a1 by have := XN1.out; omega)
                      obtain ⟨hs, hhs⟩ : ∃ q, q = l2.take a1 := ⟨_, rfl⟩
                      have hsl : hs.length = a1 := by rw [hhs, List.length_take]; omega
                      have HHS := Aside0.mk hhs
                      have HSL := Aside0.mk hsl
                      have hd2 : xs.drop (i1 + j + 1) = hs ++ l2.drop a1 := by rw [← HL2.out, hhs, List.take_append_drop]
                      have HCX : Aside0 (Kd.C (Kd.int .u8) WN DD pl hs) := ⟨by rw [hDD, hpl]; have h1 := XN1.out; have h2 : p.toNat = x1.toNat + hs.length := (by omega); exact mid_row (j := p.toNat) HLM.out.inp HNC.out (by rw [h1, Int.toNat_natCast]; exact hd2) (by rw [h1, Int.toNat_natCast]; exact HLN.out) h2⟩
                      have HUM2 : Aside0 (umL k' (xs.drop (i1 + j + 1 + a1)) { sl with name := some hs } = some RT) := ⟨by rw [hhs, ← List.drop_drop, ← HL2.out]; exact HUM.out⟩
                      have hconv : ∀ w1 : World, Below WN.heap.size WN w1 → (convert 22 9 (.slice DD pl cD)).run Tryd.prog w1 = .ok (.string (strOfNums hs)) w1 := fun w1 hb => Kd.C_string Tryd.underlying22 Tryd.underlying5 Tryd.underlying9 (Kd.C_below HCX.out hb)
                      obtain ⟨str, hstr⟩ : ∃ q, q = strOfNums hs := ⟨_, rfl⟩
                      have hc1_ := hconv WN (Below.refl _ _)
                      rw [← hstr] at hc1_
                      have HSTR := Aside0.mk hstr
                      clear hstr hi05 hsz5 hDD hpl hcD hhs hsl hd2 hpv hum hle hl2n hp a63 hconv
                      have a1w := A1W.out
                      have hbl := below_alloc (Below.refl WN.heap.size WN) (.cells #[.string str] 9)
                      have hgx := (hbl.block g (blk_lt HLM.out.blk)).trans HLM.out.blk
                      have hga := (blk_cell hgx 1).trans rfl
                      have hgaf := blk_frozen hgx 1
                      have HBL := Aside0.mk hbl
                      clear hbl hgx
                      go_wp2_with fail
                      have HU2 : Aside0 (Lm (some ad) n xs w0 ((WN.alloc (.cells #[.string str] 9)).setCell ⟨g, 1, none⟩ (.pointer (some ⟨WN.heap.size, 0, none⟩))) g { sl with name := some hs } c0 (.pointer (some ⟨WN.heap.size, 0, none⟩)) c2) := ⟨HLM.out.setName HBL.out hs (by rw [HSTR.out]; exact blk_new WN _) (fun e => by have := blk_lt HLM.out.blk; omega)⟩
                      refine Handed.intro k' ?msN1 (hJ1 _ _ _ ?rlN1 ?frN1)
                      case frN1 => kernel_rfl
                      case msN1 => have := HK'.out; omega
                      case rlN1 => exact ⟨p, rfl, ⟨i1 + j + 1 + a1, _, _, _, _, HPV.out.1, HPX.out, HUM2.out, HU2.out⟩⟩
                    · have HRT := Aside0.mk hRT
                      have hxx := XN1.out
                      have hnn := HN.out
                      by_cases hov : i1 + j + 1 + a1 < 2 ^ 63
                      · have hpv : p = ((i1 + j + 1 + a1 : Nat) : Int) := by rw [← hp]; unfold wrap64; omega
                        have q2 : decide (p < 0) = false := decide_eq_false (by omega)
                        have q3 : decide ((n : Int) < p) = true := decide_eq_true (by omega)
                        obtain ⟨T1, X1, hg1⟩ := (HGE.out.below HLM.out.below).2.1
                        clear hpv hov hp hRT hgt hl2n hxx hnn a63
                        have a1w := A1W.out
                        go_wp2_with fail
                        go_ret
                        exact UmPost.err HRT.out _ _ HLM.out.below
                      · have hn2 := HN2.out
                        have q2 : decide (p < 0) = true := decide_eq_true (by rw [← hp]; unfold wrap64; omega)
                        obtain ⟨T1, X1, hg1⟩ := (HGE.out.below HLM.out.below).2.2
                        clear hov hp hRT hgt hl2n hxx hnn a63 hn2
                        have a1w := A1W.out
                        go_wp2_with fail
                        go_ret
                        exact UmPost.err HRT.out _ _ HLM.out.below
                  · have m5 : decide ((cc : Int) < 128) = false := decide_eq_false (by omega)
                    have m5n : decide (cc < 128) = false := decide_eq_false hl
                    have HVN : Aside0 (VI xs i1 9 RN (j + 1) a1) := ⟨by rcases HBC.out with ⟨h, _⟩ | ⟨_, h⟩; (exact absurd h hl); exact h⟩
                    clear hl HBC
                    clear hxj hyj hjk hVI HJ hj9 hlt hc256 hm hs ha1 hsb hBC hc HW
                    go_wp2_with fail
                    refine Handed.intro (gkN - 1) ?msNb (hJN _ _ _ ?rlNb ?frNb)
                    case frNb => kernel_rfl
                    case msNb => have := HJ0.out; omega
                    case rlNb => exact ⟨x1, y1, (a1 : Int), rfl, rfl, rfl, ⟨rfl⟩, ⟨j + 1, a1, XN1.out, Y1.out, rfl, by have := HJ0.out; omega, HVN.out⟩⟩
            · have v4k : Go.bits .or .u64 (a : Int) (s : Int) = 24 := by rw [v4, hk0]; rfl
              clear v4
              have kb4 : Go.bits .and .u64 24 7 = 0 := by decide +kernel
              have kb5 : wrap32 3 = 3 := by decide +kernel
              have kb6 : wrap64 0 = 0 := by decide +kernel
              clear hk0
              obtain ⟨RT_, hR, hrest2⟩ := numR_step hrest
              rw [HL1.out] at hR
              obtain ⟨RT2, hRT2⟩ : ∃ q, q = RT_ := ⟨_, rfl⟩
              subst hRT2
              have HRT := Aside0.mk hR
              have HIT := Aside0.mk HLK.out
              have HNT : Aside0 (RT2 = none → RT = none) := ⟨fun h => by rcases hrest2 with ⟨_, h2⟩ | ⟨key, l1, h2, _⟩; (exact h2); (rw [h] at h2; cases h2)⟩
              have HVT : Aside0 (∀ v r, RT2 = some (v, r) → v < 2 ^ 64) := ⟨fun v r h => by rcases hrest2 with ⟨h2, _⟩ | ⟨key, l1, h2, h3, _⟩; (rw [h] at h2; cases h2); (rw [h] at h2; cases h2; exact h3)⟩
              have HREST2 := Aside0.mk hrest2
              have XK := XK1
              obtain ⟨i1, hi1⟩ : ∃ i1, i1 = k + j + 1 := ⟨_, rfl⟩
              rw [← hi1] at HRT HIT XK
              have hga : WK.cell? ⟨g, 2, none⟩ = some c2 := (blk_cell HLM.out.blk 2).trans rfl
              clear hrest hR hrest2 hi1 hga
              go_wp2_with fail
              refine wp_loop_f m50_4 10 (fun kq us w' => ∃ (x y : Int), us 6 = .int .i64 x ∧ us 24 = .int .u64 y ∧ Aside0 (∃ j a : Nat, x = ((i1 + j : Nat) : Int) ∧ y = ((7 * j : Nat) : Int) ∧ j + kq = 10 ∧ VI xs i1 10 RT2 j a ∧ Below WK.heap.size WK w' ∧ w'.heap[WK.heap.size]? = some (.cells #[.int .u64 (a : Int)] 24 (0, 0)))) ?atST (by kernel_rfl) ?rndT
              case atST => exact ⟨_, 0, rfl, rfl, ⟨0, 0, XK.out, rfl, rfl, VI.start HRT.out (by decide) HIT.out, below_alloc (Below.refl _ _) _, blk_new WK (.cells #[.int .u64 0] 24)⟩⟩
              case rndT =>
                intro gkT usT WT hrel JT KT hJT hKT
                dsimp only [ovl, m50_4]
                obtain ⟨x, y, h6, hsh, HJ⟩ := hrel
                rw [h6, hsh]
                clear h6 hsh
                obtain ⟨j, a, hxj, hyj, hjk, hVI, hB, hbk⟩ := HJ.out
                have HB := Aside0.mk hB
                have HBK := Aside0.mk hbk
                have hcell : WT.cell? ⟨WK.heap.size, 0, none⟩ = some (.int .u64 (a : Int)) := (blk_cell hbk 0).trans rfl
                have hfro := blk_frozen hbk 0
                clear hB hbk
                have hj9 : j ≤ 9 := by have := hVI.jk; omega
                have m1 : decide ((64 : Int) ≤ y) = false := decide_eq_false (by omega)
                have HJ0 := Aside0.mk (show j + gkT = 10 ∧ j ≤ 9 from ⟨hjk, hj9⟩)
                rcases hVI.byte (b := 64) HBX.out (by decide) HVT.out with ⟨hA, hRn⟩ | ⟨cc, m, hc, hlt, hc256, hm, hsb, hBC⟩
                · have m2 : decide ((n : Int) ≤ x) = true := decide_eq_true (by have := HN.out; omega)
                  have HRT := Aside0.mk (HNT.out hRn)
                  obtain ⟨T1, X1, hg1⟩ := (HGE.out.below (below_then HLM.out.below HLM.out.below.size HB.out)).2.1
                  clear hA hRn hxj hyj hjk hVI HJ hj9
                  go_wp2_with fail
                  go_ret
                  exact UmPost.err HRT.out _ _ (below_then HLM.out.below HLM.out.below.size HB.out)
                · obtain ⟨v1, v2, v3, v4⟩ := acc_words .u64 64 (by decide) (by decide) words_u64 hc256 hm hVI.lt hsb
                  obtain ⟨s, hs⟩ : ∃ s : Nat, s = m * 2 ^ (7 * j) := ⟨_, rfl⟩
                  rw [← hs] at v3 v4 hsb hBC
                  obtain ⟨a1, ha1⟩ : ∃ q : Nat, q = a + s := ⟨_, rfl⟩
                  rw [← ha1] at v4 hBC hsb
                  rw [← hyj] at v3
                  rw [← hxj] at hc
                  obtain ⟨ad', eA, hx⟩ := Kd.at_int (Kd.C_below HLM.out.inp HB.out) x (by omega) (by have := HN.out; omega)
                  injection eA with eA
                  subst eA
                  rw [hc] at hx
                  obtain ⟨x1, hx1⟩ : ∃ z : Int, wrap64 (x + 1) = z := ⟨_, rfl⟩
                  have hx1w : IntKind.i64.wrap (x + 1) = x1 := (i64_w _).trans hx1
                  have XT1 := Aside0.mk (show x1 = ((i1 + j + 1 : Nat) : Int) by have := HN2.out; have := HN.out; rw [← hx1]; unfold wrap64; omega)
                  have HLT := Aside0.mk (show i1 + j + 1 ≤ xs.length by omega)
                  obtain ⟨y1, hy1⟩ : ∃ z : Int, IntKind.u64.wrap (y + 7) = z := ⟨_, rfl⟩
                  have Y1 := Aside0.mk (show y1 = ((7 * (j + 1) : Nat) : Int) by rw [← hy1, words_u64 _ (by omega) (by omega)]; omega)
                  have m2 : decide ((n : Int) ≤ x) = false := decide_eq_false (by have := HN.out; omega)
                  have m3 : (x < (n : Int)) = True := eq_true (by have := HN.out; omega)
                  have m4 : ((0 : Int) ≤ x) = True := eq_true (by omega)
                  have m6 : (0 : Int) ≤ y := by omega
                  have m7 : min y.toNat 64 = y.toNat := Nat.min_eq_left (by omega)
                  have m8 : min y.toNat IntKind.u64.bits = y.toNat := m7
                  have HBC := Aside0.mk hBC
                  have HSB := Aside0.mk hsb
                  by_cases hl : cc < 128
                  · have m5 : decide ((cc : Int) < 128) = true := decide_eq_true (by omega)
                    have m5n : decide (cc < 128) = true := decide_eq_true hl
                    have HDT : Aside0 (RT2 = some (a1, xs.drop (i1 + j + 1))) := ⟨by rcases HBC.out with ⟨_, h⟩ | ⟨h, _⟩; (exact h); omega⟩
                    clear hl HBC
                    clear hxj hyj hjk hVI HJ hj9 hlt hc256 hm hs ha1 hsb hBC hc
                    obtain ⟨l2, hl2, hv64, hum⟩ : ∃ l2, l2 = xs.drop (i1 + j + 1) ∧ a1 < 18446744073709551616 ∧ umL k' l2 { sl with ts := some a1 } = some RT := by
                      rcases HREST2.out with ⟨h2, _⟩ | ⟨key, l1, h2, h3, h4⟩
                      · have := HDT.out; rw [h2] at this; cases this
                      · have := HDT.out; rw [h2] at this; cases this; exact ⟨_, rfl, h3, h4⟩
                    have HUM := Aside0.mk hum
                    have HL2 := Aside0.mk hl2
                    clear hum hl2 hv64
                    go_wp2_with (first | ((with_reducible refine gate_store (t := 24) (p := 23) rfl ?_); refine store_event (t := 24) (p := 23) (v := ?vo_Tl) (w1 := (WT.setCell ⟨WK.heap.size, 0, none⟩ (.int .u64 (a1 : Int)))) ?hg ?ho ?hn ?hr ?_; (case ho => rfl); (case hg => rfl); (case hn => rfl); (case hr => first | (go_simp; done) | (go_simp; rfl)); intro wa hw; have HBa : Aside0 (Below WK.heap.size WK wa) := ⟨by rw [hw]; exact below_set HB.out (Nat.le_refl _)⟩; have HKa : Aside0 (wa.heap[WK.heap.size]? = some (.cells #[.int .u64 (a1 : Int)] 24 (0, 0))) := ⟨by rw [hw]; exact blk_put HBK.out 0 _ rfl⟩; clear hw; have hg_ := (HBa.out.block g (blk_lt HLM.out.blk)).trans HLM.out.blk; have hga := (blk_cell hg_ 2).trans rfl; have hgaf := blk_frozen hg_ 2; clear hg_) | ((with_reducible refine gate_store (t := 93) (p := 262) rfl ?_); refine store_event (t := 93) (p := 262) (v := ?vo_T2) (w1 := (wa.setCell ⟨g, 2, none⟩ (.pointer (some ⟨WK.heap.size, 0, none⟩)))) ?hg ?ho ?hn ?hr ?_; (case ho => rfl); (case hg => rfl); (case hn => rfl); (case hr => first | (go_simp; done) | (go_simp; rfl)); intro wb hw; have HWB := Aside0.mk hw; clear hw hga hgaf))
                    have HU2 : Aside0 (Lm (some ad) n xs w0 wb g { sl with ts := some a1 } c0 c1 (.pointer (some ⟨WK.heap.size, 0, none⟩))) := ⟨by rw [HWB.out]; exact HLM.out.setTs HBa.out a1 HKa.out (fun e => by have := blk_lt HLM.out.blk; omega)⟩
                    refine Handed.intro k' ?msT1 (hJ1 _ _ _ ?rlT1 ?frT1)
                    case frT1 => kernel_rfl
                    case msT1 => have := HK'.out; omega
                    case rlT1 => exact ⟨x1, rfl, ⟨i1 + j + 1, _, _, _, _, XT1.out, HLT.out, by rw [← HL2.out]; exact HUM.out, HU2.out⟩⟩
                  · have m5 : decide ((cc : Int) < 128) = false := decide_eq_false (by omega)
                    have m5n : decide (cc < 128) = false := decide_eq_false hl
                    have HVN : Aside0 (VI xs i1 10 RT2 (j + 1) a1) := ⟨by rcases HBC.out with ⟨h, _⟩ | ⟨_, h⟩; (exact absurd h hl); exact h⟩
                    clear hl HBC
                    clear hxj hyj hjk hVI HJ hj9 hlt hc256 hm hs ha1 hsb hBC hc
                    go_wp2_with ((with_reducible refine gate_store (t := 24) (p := 23) rfl ?_); refine store_event (t := 24) (p := 23) (v := ?vo_Tm) (w1 := (WT.setCell ⟨WK.heap.size, 0, none⟩ (.int .u64 (a1 : Int)))) ?hg ?ho ?hn ?hr ?_; (case ho => rfl); (case hg => rfl); (case hn => rfl); (case hr => first | (go_simp; done) | (go_simp; rfl)); intro wa hw; have HBa : Aside0 (Below WK.heap.size WK wa) := ⟨by rw [hw]; exact below_set HB.out (Nat.le_refl _)⟩; have HKa : Aside0 (wa.heap[WK.heap.size]? = some (.cells #[.int .u64 (a1 : Int)] 24 (0, 0))) := ⟨by rw [hw]; exact blk_put HBK.out 0 _ rfl⟩; clear hw; have hg_ := (HBa.out.block g (blk_lt HLM.out.blk)).trans HLM.out.blk; have hga := (blk_cell hg_ 2).trans rfl; have hgaf := blk_frozen hg_ 2; clear hg_)
                    refine Handed.intro (gkT - 1) ?msTb (hJT _ _ _ ?rlTb ?frTb)
                    case frTb => kernel_rfl
                    case msTb => have := HJ0.out; omega
                    case rlTb => exact ⟨x1, y1, rfl, rfl, ⟨j + 1, a1, XT1.out, Y1.out, by have := HJ0.out; omega, HVN.out, HBa.out, HKa.out⟩⟩
            · have v4k : Go.bits .or .u64 (a : Int) (s : Int) = 8 := by rw [v4, hk0]; rfl
              clear v4
              have kb4 : Go.bits .and .u64 8 7 = 0 := by decide +kernel
              have kb5 : wrap32 1 = 1 := by decide +kernel
              have kb6 : wrap64 0 = 0 := by decide +kernel
              clear hk0
              have HRT := Aside0.mk hRT
              clear hRT
              go_wp2_with (go_at_call 91; refine (errors_New.calls _ _ _ rfl).mono ?_; rintro e w9 ⟨T9, X9, rfl, hb9⟩; have HB9 := Aside0.mk hb9; clear hb9; (try simp only [errV_some]))
              go_ret
              exact UmPost.err HRT.out _ _ (below_then HLM.out.below HLM.out.below.size HB9.out)
            · have v4k : Go.bits .or .u64 (a : Int) (s : Int) = 16 := by rw [v4, hk0]; rfl
              clear v4
              have kb4 : Go.bits .and .u64 16 7 = 0 := by decide +kernel
              have kb5 : wrap32 2 = 2 := by decide +kernel
              have kb6 : wrap64 0 = 0 := by decide +kernel
              clear hk0
              have HRT := Aside0.mk hRT
              clear hRT
              go_wp2_with (go_at_call 91; refine (errors_New.calls _ _ _ rfl).mono ?_; rintro e w9 ⟨T9, X9, rfl, hb9⟩; have HB9 := Aside0.mk hb9; clear hb9; (try simp only [errV_some]))
              go_ret
              exact UmPost.err HRT.out _ _ (below_then HLM.out.below HLM.out.below.size HB9.out)
            · have v4k : Go.bits .or .u64 (a : Int) (s : Int) = 26 := by rw [v4, hk0]; rfl
              clear v4
              have kb4 : Go.bits .and .u64 26 7 = 2 := by decide +kernel
              have kb5 : wrap32 3 = 3 := by decide +kernel
              have kb6 : wrap64 2 = 2 := by decide +kernel
              clear hk0
              have HRT := Aside0.mk hRT
              clear hRT
              go_wp2_with (go_at_call 91; refine (errors_New.calls _ _ _ rfl).mono ?_; rintro e w9 ⟨T9, X9, rfl, hb9⟩; have HB9 := Aside0.mk hb9; clear hb9; (try simp only [errV_some]))
              go_ret
              exact UmPost.err HRT.out _ _ (below_then HLM.out.below HLM.out.below.size HB9.out)
          · have m5 : decide ((cc : Int) < 128) = false := decide_eq_false (by omega)
            have m5n : decide (cc < 128) = false := decide_eq_false hl
            have HVN : Aside0 (VI xs k 10 RK (j + 1) a1) := ⟨by rcases HBC.out with ⟨h, _⟩ | ⟨_, h⟩; (exact absurd h hl); exact h⟩
            clear hl HBC
            clear hxj hyj hjk hVI HJ hj9 hlt hc256 hm hs ha1 hsb hBC hc HW
            go_wp2_with fail
            refine Handed.intro (gkK - 1) ?msKb (hJK _ _ _ ?rlKb ?frKb)
            case frKb => kernel_rfl
            case msKb => have := HJ0.out; omega
            case rlKb => exact ⟨x1, y1, (a1 : Int), rfl, rfl, rfl, ⟨rfl⟩, ⟨j + 1, a1, XK1.out, Y1.out, rfl, by have := HJ0.out; omega, HVN.out⟩⟩
end Go.Proofs.YtnhnlodmkbiiiaaDoor.HandFields
