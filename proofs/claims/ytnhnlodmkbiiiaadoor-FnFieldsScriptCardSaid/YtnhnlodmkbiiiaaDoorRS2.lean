/- The bytes of a message of unixfs are read as this message by the reference. Plain lists and numbers. -/
import Derived.Test.YtnhnlodmkbiiiaaDoorRS0
import Derived.Test.YtnhnlodmkbiiiaaDoorRN3
import Derived.Test.YtnhnlodmkbiiiaaDoorRG0
import Derived.Test.YtnhnlodmkbiiiaaDoorRPScrx7
import Derived.Test.YtnhnlodmkbiiiaaDoorRPScrx8
import Derived.Test.YtnhnlodmkbiiiaaDoorRPScrx9
namespace Go.Proofs.YtnhnlodmkbiiiaaDoor.HandFields
open Go Go.RowKit Go.Proofs.YtnhnlodmkbiiiaaDoorL Go.Proofs.YtnhnlodmkbiiiaaDoorW.PrintWords Go.Proofs.YtnhnlodmkbiiiaaDoorW.PrintLast Go.Proofs.YtnhnlodmkbiiiaaDoorW.PrintMore Go.Proofs.YtnhnlodmkbiiiaaDoor.PFieldsBase Go.Proofs.YtnhnlodmkbiiiaaDoor.PScr
attribute [local go_sem] max2_int min2_int max_two min_two max_three min_three max_four min_four
set_option linter.unusedVariables false
set_option linter.unusedSimpArgs false
/-- What ReadUvarint says of what the bytes are. -/
def ruR (n : Nat) : Option (Nat × List Int) → Int × Int
 | none => (0, 0)
 | some (v, r) => ((v : Int), ((n - r.length : Nat) : Int))
theorem shl7 (m j : Nat) (hj : j < 9) {x : Int} (h : IntKind.u64.wrap ((m : Int) * 2 ^ (((7 * j : Nat) : Int)).toNat) = x) : shl .u64 (m : Int) ((7 * j : Nat) : Int) = x := by
 unfold shl
 rw [show IntKind.u64.bits = 64 from rfl, Nat.min_eq_left (show (((7 * j : Nat) : Int)).toNat ≤ 64 by rw [Int.toNat_natCast]; omega)]
 exact h
theorem w64m (n : Nat) (x : Int) (h : n ≤ 1000000000) (e : x = (n : Int)) : wrap64 x = (n : Int) := by subst e; unfold wrap64; omega
theorem ru_loop (xs : List Int) (hb : ∀ x ∈ xs, 0 ≤ x ∧ x ≤ 255) (hl : xs.length ≤ 1000000) (R : Option (Nat × List Int)) (hv : ∀ v r, R = some (v, r) → v < 2 ^ 64) :
  ∀ d j a, j + d = 9 → VI xs 0 9 R j a → Ev (fun k => spec_ReadUvarint.l0 k xs (a : Int) (j : Int)) (ruR xs.length R)
 | 0, j, a, hd, h => by have := h.jk; omega
 | d + 1, j, a, hd, h => by
  have hj : j < 9 := h.jk
  have w7 : wrap64 (7 * (j : Int)) = ((7 * j : Nat) : Int) := w64m (7 * j) (7 * (j : Int)) (by omega) (by omega)
  have w1 : wrap64 ((j : Int) + 1) = ((j + 1 : Nat) : Int) := w64m (j + 1) _ (by omega) (by omega)
  have p0 : (0 : Int) ≤ (j : Int) := by omega
  have p7 : (0 : Int) ≤ ((7 * j : Nat) : Int) := by omega
  have pd : j + 1 + d = 9 := by omega
  have pl : ¬ ((j : Int) = 9) := by omega
  have pt : decide ((j : Int) < 10) = true := decide_eq_true (by omega)
  rcases h.byte (b := 64) hb (by decide) hv with ⟨hA, hRn⟩ | ⟨cc, m, hc, hlt, hc256, hm, hsb, hBC⟩
  ·rw [hRn]
   refine Ev.step (f := fun k => spec_ReadUvarint.j1 k xs (a : Int) (j : Int) false) (fun k => by simp only [spec_ReadUvarint.l0]; rw [if_neg (by omega)]) ?_
   exact Ev.step (f := fun _ => some (0, 0)) (fun k => by simp only [spec_ReadUvarint.j1]; rw [if_neg (by decide)]) (Ev.now _)
  ·rw [Nat.zero_add] at hc hlt hBC
   have p1 : (j : Int) < (xs.length : Int) := Int.ofNat_lt.2 hlt
   have px : xs.length - (xs.drop (j + 1)).length = j + 1 := by rw [List.length_drop]; exact Nat.sub_sub_self hlt
   refine Ev.step (f := fun k => spec_ReadUvarint.j1 k xs (a : Int) (j : Int) true) (fun k => by simp only [spec_ReadUvarint.l0]; rw [if_pos p1, pt]) ?_
   refine Ev.step (f := fun k => spec_ReadUvarint.j2 k xs (a : Int) (j : Int) false) (fun k => by simp only [spec_ReadUvarint.j1]; rw [if_pos trivial, if_neg pl]) ?_
   obtain ⟨v1, v2, v3, v4⟩ := acc_words .u64 64 (by decide) (by decide) words_u64 hc256 hm h.lt hsb
   have hs : shl .u64 (m : Int) ((7 * j : Nat) : Int) = ((m * 2 ^ (7 * j) : Nat) : Int) := shl7 m j hj v3
   clear hsb v3
   rcases hBC with ⟨h1, h2⟩ | ⟨h1, h2⟩
   ·refine Ev.step (f := fun _ => some (ruR xs.length R)) (fun k => ?_) (Ev.now _)
    simp only [spec_ReadUvarint.j2]
    rw [if_neg Bool.false_ne_true, if_pos p0, if_pos p1, w7, if_pos p7, hc, if_pos (show (cc : Int) < 128 from Int.ofNat_lt.2 h1), v1, v2, hs, v4, w1, h2]
    simp only [ruR]
    rw [px]
   ·refine Ev.step (f := fun k => spec_ReadUvarint.l0 k xs ((a + m * 2 ^ (7 * j) : Nat) : Int) ((j + 1 : Nat) : Int)) (fun k => ?_) (ru_loop xs hb hl R hv d (j + 1) _ pd h2)
    simp only [spec_ReadUvarint.j2]
    rw [if_neg Bool.false_ne_true, if_pos p0, if_pos p1, w7, if_pos p7, hc, if_neg (show ¬ (cc : Int) < 128 from fun h => absurd (Int.ofNat_lt.1 h) (Nat.not_lt.2 h1)), v1, v2, hs, v4, w1]
theorem tk_words (L j j2 : Nat) (h : j + j2 ≤ L) (hL : L ≤ 1000000) : IntKind.u64.wrap (wrap64 ((wrap64 ((L : Int) - (j : Int))) - (j2 : Int))) = ((L - (j + j2) : Nat) : Int) ∧ wrap64 ((j : Int) + (j2 : Int)) = ((j + j2 : Nat) : Int) := by
 have h1 : wrap64 ((L : Int) - (j : Int)) = ((L - j : Nat) : Int) := w64m _ _ (by omega) (by omega)
 have h2 : wrap64 (((L - j : Nat) : Int) - (j2 : Int)) = ((L - (j + j2) : Nat) : Int) := w64m _ _ (by omega) (by omega)
 refine ⟨?_, w64m _ _ (by omega) (by omega)⟩
 rw [h1, h2]
 exact words_u64 _ (by omega) (by omega)
theorem tk_words2 (a n L : Nat) (h : a + n ≤ L) (hL : L ≤ 1000000) : wrap64 (n : Int) = (n : Int) ∧ wrap64 ((a : Int) + (n : Int)) = ((a + n : Nat) : Int) := ⟨w64m _ _ (by omega) rfl, w64m _ _ (by omega) (by omega)⟩
theorem take_head (xs l1 : List Int) (key j : Nat) (hj : 0 < j) (hjl : j ≤ xs.length) (hl1 : l1 = xs.drop j) (hR : Ev (fun k => spec_ReadUvarint.f k xs) ((key : Int), (j : Int))) (r2 : Int × Int) (hR2 : Ev (fun k => spec_ReadUvarint.f k l1) r2) {r : Int × Int × Int × List Int × Int}
  (h : (if r2.2 = 0 then (some (0, 0, 0, ([] : List Int), 0)) else (if (Go.bits .and .u64 (key : Int) 7) = 0 then (some ((key : Int) / 8, 0, r2.1, ([] : List Int), wrap64 ((j : Int) + r2.2))) else (if (Go.bits .and .u64 (key : Int) 7) = 2 then (if r2.1 ≤ (IntKind.u64.wrap (wrap64 ((wrap64 ((xs.length : Int) - (j : Int))) - r2.2))) then (if 0 ≤ (wrap64 ((j : Int) + r2.2)) then (if (wrap64 ((j : Int) + r2.2)) ≤ (wrap64 ((wrap64 ((j : Int) + r2.2)) + (wrap64 (r2.1)))) then (if (wrap64 ((wrap64 ((j : Int) + r2.2)) + (wrap64 (r2.1)))) ≤ (xs.length : Int) then (some ((key : Int) / 8, 2, 0, ((xs.take ((wrap64 ((wrap64 ((j : Int) + r2.2)) + (wrap64 (r2.1)))) : Int).toNat).drop ((wrap64 ((j : Int) + r2.2)) : Int).toNat), wrap64 ((wrap64 ((j : Int) + r2.2)) + (wrap64 (r2.1))))) else (none)) else (none)) else (none)) else (some (0, 0, 0, ([] : List Int), 0))) else (some (0, 0, 0, ([] : List Int), 0))))) = some r) :
  Ev (fun k => spec_pbTake.f k xs) r := by
 unfold spec_pbTake.f
 refine Ev.bind hR ?_
 dsimp only
 have q0 : ((j : Int) = 0) = False := eq_false (by omega)
 have q1 : ((0 : Int) ≤ (j : Int)) = True := eq_true (by omega)
 have q2 : ((j : Int) ≤ (xs.length : Int)) = True := eq_true (by omega)
 simp only [q0, q1, q2, if_true, if_false, Int.toNat_natCast, ← hl1]
 refine Ev.bind hR2 ?_
 exact Ev.congr (fun _ => h) (Ev.now _)
theorem Ev_stepb {α β : Type} {g F : Nat → Option β} {p : Nat → Option α} {a : α} {r : β} (hp : Ev p a) (hg : ∀ k, p k = some a → g (k + 1) = F k) (hF : Ev F r) : Ev g r := by
 obtain ⟨K, hp⟩ := hp
 obtain ⟨K', hF⟩ := hF
 refine ⟨max K K' + 1, fun n hn => ?_⟩
 obtain ⟨m, rfl⟩ : ∃ m, n = m + 1 := ⟨n - 1, by omega⟩
 rw [hg m (hp m (by omega))]
 exact hF m (by omega)
theorem rdv_uvF : ∀ (n k v : Nat) (rest : List Int), v < 128 ^ (n + 1) → v < 128 ^ (k + 1) → rdv (k + 1) (uvF n v ++ rest) = some (some (v, rest))
 | n, k, v, rest, hn, hk => by
  by_cases h : v < 128
  ·have e : uvF n v = [(v : Int)] := by
    match n with
    | 0 => rfl
    | n + 1 => unfold uvF; rw [if_pos h]
   rw [e]
   show rdv (k + 1) ((v : Int) :: rest) = _
   unfold rdv
   rw [if_pos (by omega), Int.toNat_natCast]
  ·match n, k with
   | 0, _ => simp at hn; omega
   | _, 0 => simp at hk; omega
   | n + 1, k + 1 =>
    have e : uvF (n + 1) v = ((v % 128 + 128 : Nat) : Int) :: uvF n (v / 128) := by
     conv => { lhs; unfold uvF }
     rw [if_neg h]
    have hd : v / 128 < 128 ^ (n + 1) := by rw [Nat.div_lt_iff_lt_mul (by decide), ← Nat.pow_succ]; exact hn
    have hd2 : v / 128 < 128 ^ (k + 1) := by rw [Nat.div_lt_iff_lt_mul (by decide), ← Nat.pow_succ]; exact hk
    rw [e]
    have q1 : ¬ (((v % 128 + 128 : Nat) : Int) < 128) := by omega
    have q2 : ((((v % 128 + 128 : Nat) : Int) - 128).toNat + 128 * (v / 128)) = v := by omega
    have ih := rdv_uvF n k (v / 128) rest hd hd2
    clear hn hk hd hd2
    show rdv (k + 1 + 1) (((v % 128 + 128 : Nat) : Int) :: (uvF n (v / 128) ++ rest)) = _
    rw [rdv, if_neg q1, ih]
    simp only [Option.map_some, q2]
theorem rdv9 (v : Nat) (h : v < 2 ^ 63) (rest : List Int) : rdv 9 (uv v ++ rest) = some (some (v, rest)) := rdv_uvF 10 8 v rest (Nat.lt_of_lt_of_le h (by decide)) (Nat.lt_of_lt_of_le h (by decide))
theorem uv_byte (v : Nat) (hv : v < 2 ^ 64) : ∀ x ∈ uv v, (0 : Int) ≤ x ∧ x ≤ 255 := by
 have key : ∀ n v, v < 128 ^ (n + 1) → ∀ x ∈ uvF n v, (0 : Int) ≤ x ∧ x ≤ 255 := by
  intro n
  induction n with
  | zero =>
   intro v hv x hx
   unfold uvF at hx
   obtain rfl := List.mem_singleton.1 hx
   simp at hv
   omega
  | succ n ih =>
   intro v hv x hx
   unfold uvF at hx
   split at hx
   ·obtain rfl := List.mem_singleton.1 hx
    omega
   ·rcases List.mem_cons.1 hx with rfl | hx
    ·omega
    ·exact ih (v / 128) (by rw [Nat.div_lt_iff_lt_mul (by decide), ← Nat.pow_succ]; exact hv) x hx
 exact key 10 v (Nat.lt_of_lt_of_le hv (by decide))
/-- Bytes, few enough. -/
structure Byt (xs : List Int) : Prop where
 b : ∀ x ∈ xs, (0 : Int) ≤ x ∧ x ≤ 255
 l : xs.length ≤ 1000000
theorem Byt.tail {a b : List Int} (h : Byt (a ++ b)) : Byt b := ⟨fun x hx => h.b x (List.mem_append_right _ hx), by have := h.l; rw [List.length_append] at this; omega⟩
theorem ru_uv (v : Nat) (hv : v < 2 ^ 63) (r : List Int) (h : Byt (uv v ++ r)) : Ev (fun k => spec_ReadUvarint.f k (uv v ++ r)) ((v : Int), ((uv v).length : Int)) := by
 have h1 := ru_loop (uv v ++ r) h.b h.l (some (v, r)) (fun v' r' e => by injection e with e; injection e with e1 e2; rw [← e1]; exact Nat.lt_trans hv (by decide)) 9 0 0 rfl (VI.start (by rw [List.drop_zero]; exact rdv9 v hv r) (by decide) (Nat.zero_le _))
 simp only [ruR, List.length_append, Nat.add_sub_cancel] at h1
 exact h1
/-- A field whose key is one byte. -/
theorem take_uv (c : Nat) (hc : c < 128) (v : Nat) (hv : v < 2 ^ 63) (r : List Int) (h : Byt ((c : Int) :: (uv v ++ r))) {R : Int × Int × Int × List Int × Int}
  (hR : (if (Go.bits .and .u64 (c : Int) 7) = 0 then (some ((c : Int) / 8, 0, (v : Int), ([] : List Int), ((1 + (uv v).length : Nat) : Int))) else (if (Go.bits .and .u64 (c : Int) 7) = 2 then (if (v : Int) ≤ ((r.length : Nat) : Int) then (some ((c : Int) / 8, 2, 0, r.take v, ((1 + (uv v).length + v : Nat) : Int))) else (some (0, 0, 0, ([] : List Int), 0))) else (some (0, 0, 0, ([] : List Int), 0)))) = some R) :
  Ev (fun k => spec_pbTake.f k ((c : Int) :: (uv v ++ r))) R := by
 have e1 : uv c = [(c : Int)] := by unfold uv uvF; rw [if_pos hc]
 have hR1 := ru_uv c (by omega) (uv v ++ r) (by rw [e1]; exact h)
 rw [e1] at hR1
 have hT : Byt (uv v ++ r) := Byt.tail (a := [(c : Int)]) h
 have hR2 := ru_uv v hv r hT
 have hlen : ((c : Int) :: (uv v ++ r)).length = 1 + (uv v).length + r.length := by simp only [List.length_cons, List.length_append]; omega
 have hL := h.l
 rw [hlen] at hL
 have hp := uvF_pos 10 v
 have hp2 : 1 ≤ (uv v).length := hp
 refine take_head ((c : Int) :: (uv v ++ r)) (uv v ++ r) c 1 (by decide) (by rw [hlen]; omega) rfl hR1 _ hR2 ?_
 dsimp only
 rw [if_neg (by omega)]
 obtain ⟨n1, hn1⟩ : ∃ n, n = (uv v).length := ⟨_, rfl⟩
 obtain ⟨n2, hn2⟩ : ∃ n, n = r.length := ⟨_, rfl⟩
 have e5 : ((c : Int) :: (uv v ++ r)).drop (1 + n1) = r := by rw [hn1, Nat.add_comm, List.drop_succ_cons, List.drop_left]
 rw [← hn1, ← hn2] at hL hlen
 rw [← hn1, ← hn2] at hR
 rw [← hn1, hlen]
 have w : n1 + n2 ≤ 1000000 → IntKind.u64.wrap (wrap64 ((wrap64 (((1 + n1 + n2 : Nat) : Int) - ((1 : Nat) : Int))) - (n1 : Int))) = (n2 : Int) ∧ wrap64 (((1 : Nat) : Int) + (n1 : Int)) = ((1 + n1 : Nat) : Int) := fun hh => by
  obtain ⟨w1, w2⟩ := tk_words (1 + n1 + n2) 1 n1 (by omega) hL
  have e : 1 + n1 + n2 - (1 + n1) = n2 := by omega
  rw [e] at w1
  exact ⟨w1, w2⟩
 obtain ⟨w1, w2⟩ := w (by omega)
 rw [w1, w2]
 clear w1 w2 w hR1 hR2
 by_cases h0 : Go.bits .and .u64 (c : Int) 7 = 0
 ·rw [if_pos h0] at hR ⊢
  exact hR
 rw [if_neg h0] at hR ⊢
 by_cases h2 : Go.bits .and .u64 (c : Int) 7 = 2
 ·rw [if_pos h2] at hR ⊢
  by_cases hle : (v : Int) ≤ (n2 : Int)
  ·rw [if_pos hle] at hR ⊢
   have p4 : (0 : Int) ≤ ((1 + n1 : Nat) : Int) := by omega
   have p5 : ((1 + n1 : Nat) : Int) ≤ ((1 + n1 + v : Nat) : Int) := by omega
   have p6 : ((1 + n1 + v : Nat) : Int) ≤ ((1 + n1 + n2 : Nat) : Int) := by omega
   have e4 : 1 + n1 + v - (1 + n1) = v := by omega
   obtain ⟨w3, w4⟩ := tk_words2 (1 + n1) v (1 + n1 + n2) (by omega) hL
   rw [w3, w4, if_pos p4, if_pos p5, if_pos p6, Int.toNat_natCast, Int.toNat_natCast, List.drop_take, e4, e5]
   exact hR
  ·rw [if_neg hle] at hR ⊢
   exact hR
 ·rw [if_neg h2] at hR ⊢
  exact hR
/-- spec.Message, with what has been read. -/
def msF (k : Nat) (xs : List Int) (b : Bool) (t : Int) (da : List Int) (s : Int) (sz : List Int) := spec_Message.l0 k xs b t da s sz 0 0
section
variable (b : Bool) (t : Int) (da : List Int) (s : Int) (sz : List Int)
theorem ms_end : Ev (fun k => msF k [] true t da s sz) (t, da, s, sz, 0, 0, true) := by
 refine Ev.step (f := fun _ => some (t, da, s, sz, 0, 0, true)) (fun k => ?_) (Ev.now _)
 simp only [msF, spec_Message.l0]
 rw [if_neg (by simp), if_pos trivial]
theorem drop_uv (c : Int) (v : Nat) (r : List Int) : (c :: (uv v ++ r)).drop (1 + (uv v).length) = r := by rw [Nat.add_comm, List.drop_succ_cons, List.drop_left]
theorem ms_num (c : Nat) (hc : c < 128) (v : Nat) (hv : v < 2 ^ 63) (r : List Int) (h : Byt ((c : Int) :: (uv v ++ r))) (h0 : Go.bits .and .u64 (c : Int) 7 = 0) (h2 : (c : Int) / 8 ≠ 2) {R : Int × List Int × Int × List Int × Int × Int × Bool}
  (hn : Ev (fun k => spec_Message.j1 k ((c : Int) :: (uv v ++ r)) b ((c : Int) / 8) 0 (v : Int) [] ((1 + (uv v).length : Nat) : Int) false t da s sz 0 0) R) : Ev (fun k => msF k ((c : Int) :: (uv v ++ r)) b t da s sz) R := by
 have hT := take_uv c hc v hv r h (R := ((c : Int) / 8, 0, (v : Int), [], ((1 + (uv v).length : Nat) : Int))) (by rw [if_pos h0])
 refine Ev_stepb hT (F := fun k => spec_Message.j1 k ((c : Int) :: (uv v ++ r)) b ((c : Int) / 8) 0 (v : Int) [] ((1 + (uv v).length : Nat) : Int) false t da s sz 0 0) (fun k e => ?_) hn
 simp only [msF, spec_Message.l0]
 rw [if_pos (by simp; omega), e, Option.bind_some]
 dsimp only
 rw [if_neg (by omega), if_neg (by decide), if_pos rfl]
 rw [show (((c : Int) / 8 == 2) = false) from beq_false_of_ne h2]
theorem ms_1 (v : Nat) (hv : v < 1000) (r : List Int) (h : Byt (8 :: (uv v ++ r))) {R : Int × List Int × Int × List Int × Int × Int × Bool} (hn : Ev (fun k => msF k r true (v : Int) da s sz) R) : Ev (fun k => msF k (8 :: (uv v ++ r)) b t da s sz) R := by
 refine ms_num b t da s sz 8 (by decide) v (by omega) r h (by decide +kernel) (by decide) ?_
 refine Ev.step (f := fun k => msF k r true (v : Int) da s sz) (fun k => ?_) hn
 simp only [msF, spec_Message.j1]
 rw [if_neg (by decide), if_pos (by decide), if_pos (by omega), if_pos (by simp only [List.length_cons, List.length_append]; omega), Int.toNat_natCast]
 rw [show ((8 : Nat) : Int) = 8 from rfl, drop_uv]
 rw [show wrap64 (wrap32 (v : Int)) = (v : Int) by unfold wrap64 wrap32; omega]
theorem ms_3 (v : Nat) (hv : v < 2 ^ 63) (r : List Int) (h : Byt (24 :: (uv v ++ r))) {R : Int × List Int × Int × List Int × Int × Int × Bool} (hn : Ev (fun k => msF k r b t da (v : Int) sz) R) : Ev (fun k => msF k (24 :: (uv v ++ r)) b t da s sz) R := by
 refine ms_num b t da s sz 24 (by decide) v hv r h (by decide +kernel) (by decide) ?_
 refine Ev.step (f := fun k => msF k r b t da (v : Int) sz) (fun k => ?_) hn
 simp only [msF, spec_Message.j1]
 rw [if_neg (by decide), if_neg (by decide), if_neg (by decide), if_pos (by decide), if_pos (by omega), if_pos (by simp only [List.length_cons, List.length_append]; omega), Int.toNat_natCast]
 rw [show ((24 : Nat) : Int) = 24 from rfl, drop_uv]
theorem ms_4 (v : Nat) (hv : v < 2 ^ 63) (r : List Int) (h : Byt (32 :: (uv v ++ r))) (hz : sz.length ≤ 1000000) {R : Int × List Int × Int × List Int × Int × Int × Bool} (hn : Ev (fun k => msF k r b t da s (sz ++ [(v : Int)])) R) : Ev (fun k => msF k (32 :: (uv v ++ r)) b t da s sz) R := by
 refine ms_num b t da s sz 32 (by decide) v hv r h (by decide +kernel) (by decide) ?_
 refine Ev.step (f := fun k => spec_Message.j2 k (((32 : Nat) : Int) :: (uv v ++ r)) b (((32 : Nat) : Int) / 8) (v : Int) [] ((1 + (uv v).length : Nat) : Int) true t da s sz 0 0) (fun k => ?_) ?_
 ·simp only [spec_Message.j1]
  rw [if_neg (by decide), if_neg (by decide), if_neg (by decide), if_neg (by decide), if_pos (by decide)]
  rfl
 refine Ev.step (f := fun k => msF k r b t da s (sz ++ [(v : Int)])) (fun k => ?_) hn
 simp only [msF, spec_Message.j2]
 rw [if_pos trivial, if_pos (by omega), if_pos (by omega), if_pos (by simp only [List.length_cons, List.length_append]; omega), Int.toNat_natCast]
 rw [show ((32 : Nat) : Int) = 32 from rfl, drop_uv]
theorem ms_2 (xs : List Int) (hx : xs.length ≤ 1000000) (r : List Int) (h : Byt (18 :: (uv xs.length ++ (xs ++ r)))) {R : Int × List Int × Int × List Int × Int × Int × Bool} (hn : Ev (fun k => msF k r b t xs s sz) R) : Ev (fun k => msF k (18 :: (uv xs.length ++ (xs ++ r))) b t da s sz) R := by
 have hT := take_uv 18 (by decide) xs.length (by omega) (xs ++ r) h (R := (2, 2, 0, xs, ((1 + (uv xs.length).length + xs.length : Nat) : Int))) (by rw [if_neg (by decide +kernel), if_pos (by decide +kernel), if_pos (by rw [List.length_append]; omega), List.take_left]; rfl)
 refine Ev_stepb hT (F := fun k => spec_Message.j1 k (18 :: (uv xs.length ++ (xs ++ r))) b 2 2 0 xs ((1 + (uv xs.length).length + xs.length : Nat) : Int) false t da s sz 0 0) (fun k e => ?_) ?_
 ·simp only [msF, spec_Message.l0]
  rw [show ((18 : Nat) : Int) = 18 from rfl] at e
  rw [if_pos (by simp; omega), e, Option.bind_some]
  dsimp only
  rw [if_neg (by omega), if_pos rfl, if_pos rfl, if_neg (by decide)]
 refine Ev.step (f := fun k => msF k r b t xs s sz) (fun k => ?_) hn
 simp only [msF, spec_Message.j1]
 rw [if_neg (by decide), if_neg (by decide), if_pos (by decide), Option.bind_some, if_pos (by simp only [List.length_nil]; omega), if_pos (by omega), if_pos (by simp only [List.length_cons, List.length_append]; omega), Int.toNat_natCast, List.nil_append]
 rw [show (18 :: (uv xs.length ++ (xs ++ r))).drop (1 + (uv xs.length).length + xs.length) = r by rw [← List.drop_drop, drop_uv, List.drop_left]]
theorem ms_blks : ∀ (bs : List Int), (∀ x ∈ bs, 0 ≤ x ∧ x < 2 ^ 63) → Byt (blkF bs) → (sz ++ bs).length ≤ 1000000 → Ev (fun k => msF k (blkF bs) true t da s sz) (t, da, s, sz ++ bs, 0, 0, true) := by
 intro bs
 induction bs generalizing sz with
 | nil => intro _ _ _; rw [List.append_nil]; exact ms_end t da s sz
 | cons x bs ih =>
  intro hb hB hl
  rw [blkF_cons] at hB ⊢
  have hx := hb x (List.mem_cons_self ..)
  have h1 := ih (sz ++ [x]) (fun y hy => hb y (List.mem_cons_of_mem _ hy)) (Byt.tail (a := [(32 : Int)] ++ uv x.toNat) (by simpa using hB)) (by simpa using hl)
  rw [show sz ++ x :: bs = sz ++ [x] ++ bs by simp]
  rw [show (32 :: (uv x.toNat ++ blkF bs) : List Int) = 32 :: (uv x.toNat ++ blkF bs) from rfl]
  refine ms_4 true t da s sz x.toNat (by omega) (blkF bs) hB (by simp at hl; omega) ?_
  rw [show ((x.toNat : Nat) : Int) = x by omega]
  exact h1
end
theorem dataF_eq (o : Option (List Int)) : dataF o = match o with | none => [] | some xs => 18 :: (uv xs.length ++ xs) := by cases o <;> rfl
theorem sizeF_eq (o : Option Nat) : sizeF o = match o with | none => [] | some n => 24 :: uv n := by cases o <;> rfl
theorem ms_marsh {d : Dat} (hf : Fit d) (hb : ∀ x ∈ d.blocks, x < 2 ^ 63) (hs : ∀ n, d.size = some n → n < 2 ^ 63) (hd : ∀ xs, d.data = some xs → ∀ x ∈ xs, (0 : Int) ≤ x ∧ x ≤ 255) (hl : (marsh d).length ≤ 1000000) :
  Ev (fun k => spec_Message.f k (marsh d)) ((d.ty : Int), d.data.getD [], ((d.size.getD 0 : Nat) : Int), d.blocks, 0, 0, true) := by
 have hB : Byt (marsh d) := by
  refine ⟨fun x hx => ?_, hl⟩
  unfold marsh at hx
  rcases List.mem_append.1 hx with hx | hx
  ·rcases List.mem_cons.1 hx with rfl | hx
   ·omega
   ·exact uv_byte _ (by have := hf.ty; omega) x hx
  rcases List.mem_append.1 hx with hx | hx
  ·rw [dataF_eq] at hx
   cases e : d.data with
   | none => rw [e] at hx; cases hx
   | some xs =>
    rw [e] at hx
    rcases List.mem_cons.1 hx with rfl | hx
    ·omega
    rcases List.mem_append.1 hx with hx | hx
    ·exact uv_byte _ (by have := hf.data xs e; omega) x hx
    ·exact hd xs e x hx
  rcases List.mem_append.1 hx with hx | hx
  ·rw [sizeF_eq] at hx
   cases e : d.size with
   | none => rw [e] at hx; cases hx
   | some n =>
    rw [e] at hx
    rcases List.mem_cons.1 hx with rfl | hx
    ·omega
    ·exact uv_byte _ (hf.size n e) x hx
  ·unfold blkF at hx
   obtain ⟨y, hy, hx⟩ := List.mem_flatMap.1 hx
   have := hf.blks y hy
   rcases List.mem_cons.1 hx with rfl | hx
   ·omega
   ·exact uv_byte _ (by omega) x hx
 have e0 : marsh d = 8 :: (uv d.ty ++ (dataF d.data ++ (sizeF d.size ++ blkF d.blocks))) := by unfold marsh; simp
 have hS : ∀ (t : Int) (da : List Int), Byt (sizeF d.size ++ blkF d.blocks) → Ev (fun k => msF k (sizeF d.size ++ blkF d.blocks) true t da 0 []) (t, da, ((d.size.getD 0 : Nat) : Int), d.blocks, 0, 0, true) := by
  intro t da hB
  have hmany := hf.many
  cases e : d.size with
  | none =>
   rw [e] at hB
   exact ms_blks t da 0 [] d.blocks (fun x hx => ⟨(hf.blks x hx).1, hb x hx⟩) hB (by simpa using hmany)
  | some n =>
   rw [e] at hB
   have e1 : sizeF (some n) ++ blkF d.blocks = 24 :: (uv n ++ blkF d.blocks) := by rw [sizeF_eq]; rfl
   rw [e1] at hB ⊢
   refine ms_3 true t da 0 [] n (hs n e) (blkF d.blocks) hB ?_
   exact ms_blks t da _ [] d.blocks (fun x hx => ⟨(hf.blks x hx).1, hb x hx⟩) (Byt.tail (a := [(24 : Int)] ++ uv n) (by simpa using hB)) (by simpa using hmany)
 unfold spec_Message.f
 change Ev (fun k => msF k (marsh d) false 0 [] 0 []) _
 rw [e0] at hB ⊢
 refine ms_1 false 0 [] 0 [] d.ty hf.ty _ hB ?_
 have hB1 : Byt (dataF d.data ++ (sizeF d.size ++ blkF d.blocks)) := Byt.tail (a := [(8 : Int)] ++ uv d.ty) (by simpa using hB)
 cases e : d.data with
 | none => rw [e] at hB1; exact hS _ _ hB1
 | some xs =>
  rw [e] at hB1
  have e1 : dataF (some xs) ++ (sizeF d.size ++ blkF d.blocks) = 18 :: (uv xs.length ++ (xs ++ (sizeF d.size ++ blkF d.blocks))) := by rw [dataF_eq]; simp
  rw [e1] at hB1 ⊢
  refine ms_2 true _ [] 0 [] xs (hf.data xs e) _ hB1 ?_
  exact hS _ _ (Byt.tail (a := [(18 : Int)] ++ uv xs.length ++ xs) (by simpa using hB1))
end Go.Proofs.YtnhnlodmkbiiiaaDoor.HandFields
