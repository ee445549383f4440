/- Bytes read as a link: the code's way and the reference tell the same, wherever the reference says that they are of known fields. Plain lists and numbers. -/
import Derived.Test.YtnhnlodmkbiiiaaDoorG5
namespace Go.Proofs.YtnhnlodmkbiiiaaDoor.HandPb
open Go Go.RowKit Go.Proofs.YtnhnlodmkbiiiaaDoorL Go.Proofs.YtnhnlodmkbiiiaaDoorW.PrintWords Go.Proofs.YtnhnlodmkbiiiaaDoorW.PrintLast Go.Proofs.YtnhnlodmkbiiiaaDoorW.PrintMore Go.Proofs.YtnhnlodmkbiiiaaDoor.HandFields Go.Proofs.YtnhnlodmkbiiiaaDoor.PPbShare
attribute [local go_sem] max2_int min2_int max_two min_two max_three min_three max_four min_four
set_option linter.unusedVariables false
set_option linter.unusedSimpArgs false
/-- No nine bytes in a row from 128 on (r such bytes stand ahead). -/
def nr : Nat → List Int → Bool
  | _, [] => true
  | r, c :: l => if c < 128 then nr 0 l else if r + 1 = 9 then false else nr (r + 1) l
theorem nr_mono : ∀ (l : List Int) (r r' : Nat), r' ≤ r → r ≤ 8 → nr r l = true → nr r' l = true
  | [], _, _, _, _, _ => rfl
  | c :: l, r, r', h, h8, hn => by
    unfold nr at hn ⊢
    by_cases h1 : c < 128
    · rw [if_pos h1] at hn ⊢; exact hn
    · rw [if_neg h1] at hn ⊢
      by_cases h2 : r + 1 = 9
      · rw [if_pos h2] at hn; cases hn
      · rw [if_neg h2] at hn; rw [if_neg (by omega)]; exact nr_mono l _ _ (by omega) (by omega) hn
theorem nr_tail {r : Nat} {c : Int} {l : List Int} (h : nr r (c :: l) = true) (hr : r ≤ 8) : nr 0 l = true := by
  unfold nr at h
  by_cases h1 : c < 128
  · rw [if_pos h1] at h; exact h
  · rw [if_neg h1] at h
    by_cases h2 : r + 1 = 9
    · rw [if_pos h2] at h; cases h
    · rw [if_neg h2] at h; exact nr_mono l _ _ (Nat.zero_le _) (by omega) h
theorem nr_drop : ∀ (j : Nat) (l : List Int), nr 0 l = true → nr 0 (l.drop j) = true
  | 0, l, h => h
  | j + 1, [], h => h
  | j + 1, c :: l, h => nr_drop j l (nr_tail h (by decide))
theorem nr_take : ∀ (j r : Nat) (l : List Int), r ≤ 8 → nr r l = true → nr r (l.take j) = true
  | 0, _, l, _, h => rfl
  | j + 1, _, [], _, h => rfl
  | j + 1, r, c :: l, h8, h => by
    show nr r (c :: l.take j) = true
    unfold nr at h ⊢
    by_cases h1 : c < 128
    · rw [if_pos h1] at h ⊢; exact nr_take j 0 l (by decide) h
    · rw [if_neg h1] at h ⊢
      by_cases h2 : r + 1 = 9
      · rw [if_pos h2] at h; cases h
      · rw [if_neg h2] at h ⊢; exact nr_take j _ l (by omega) h
theorem nr_rdv : ∀ (l : List Int) (r : Nat), r ≤ 8 → nr r l = true → ∃ R, ∀ k, 9 - r ≤ k → rdv k l = some R
  | [], r, h8, _ => ⟨none, fun k hk => by obtain ⟨k, rfl⟩ : ∃ m, k = m + 1 := ⟨k - 1, by omega⟩; rfl⟩
  | c :: l, r, h8, h => by
    unfold nr at h
    by_cases h1 : c < 128
    · exact ⟨some (c.toNat, l), fun k hk => by obtain ⟨k, rfl⟩ : ∃ m, k = m + 1 := ⟨k - 1, by omega⟩; unfold rdv; rw [if_pos h1]⟩
    · rw [if_neg h1] at h
      by_cases h2 : r + 1 = 9
      · rw [if_pos h2] at h; cases h
      · rw [if_neg h2] at h
        obtain ⟨R, hR⟩ := nr_rdv l (r + 1) (by omega) h
        exact ⟨R.map (fun p => ((c - 128).toNat + 128 * p.1, p.2)), fun k hk => by
          obtain ⟨k, rfl⟩ : ∃ m, k = m + 1 := ⟨k - 1, by omega⟩
          unfold rdv; rw [if_neg h1, hR k (by omega)]; rfl⟩
theorem rdv_drop : ∀ (k : Nat) (l : List Int) (v : Nat) (r : List Int), rdv k l = some (some (v, r)) → ∃ j, 0 < j ∧ j ≤ k ∧ j ≤ l.length ∧ r = l.drop j
  | 0, l, v, r, h => by simp [rdv] at h
  | k + 1, [], v, r, h => by simp [rdv] at h
  | k + 1, b :: l, v, r, h => by
    unfold rdv at h
    by_cases h1 : b < 128
    · rw [if_pos h1] at h
      have := Option.some.inj (Option.some.inj h)
      injection this with h2 h3
      exact ⟨1, by decide, by omega, by simp, h3.symm⟩
    · rw [if_neg h1] at h
      obtain ⟨q, hq, h2⟩ := Option.map_eq_some_iff.1 h
      obtain ⟨p, hp, h3⟩ := Option.map_eq_some_iff.1 h2
      subst hp
      obtain ⟨v', r'⟩ := p
      obtain ⟨j, h4, h5, h6, h7⟩ := rdv_drop k l v' r' hq
      injection h3 with h8 h9
      exact ⟨j + 1, by omega, by omega, by simpa using h6, by rw [← h9]; exact h7⟩
/-- What ReadUvarint says of a number. -/
def ruR (n : Nat) : Option (Nat × List Int) → Int × Int
  | none => (0, 0)
  | some (v, r) => ((v : Int), ((n - r.length : Nat) : Int))
theorem shl7 (m j : Nat) (hj : j < 9) {x : Int} (h : IntKind.u64.wrap ((m : Int) * 2 ^ (((7 * j : Nat) : Int)).toNat) = x) : shl .u64 (m : Int) ((7 * j : Nat) : Int) = x := by
  unfold shl
  rw [show IntKind.u64.bits = 64 from rfl, Nat.min_eq_left (show (((7 * j : Nat) : Int)).toNat ≤ 64 by rw [Int.toNat_natCast]; omega)]
  exact h
theorem w64m (n : Nat) (x : Int) (h : n ≤ 1000000000) (e : x = (n : Int)) : wrap64 x = (n : Int) := by subst e; unfold wrap64; omega
theorem ru_loop (xs : List Int) (hb : ∀ x ∈ xs, 0 ≤ x ∧ x ≤ 255) (hl : xs.length ≤ 1000000) (R : Option (Nat × List Int)) (hv : ∀ v r, R = some (v, r) → v < 2 ^ 64) :
    ∀ d j a, j + d = 9 → VI xs 0 9 R j a → Ev (fun k => spec_ReadUvarint.l0 k xs (a : Int) (j : Int)) (ruR xs.length R)
  | 0, j, a, hd, h => by have := h.jk; omega
  | d + 1, j, a, hd, h => by
    have hj : j < 9 := h.jk
    have w7 : wrap64 (7 * (j : Int)) = ((7 * j : Nat) : Int) := w64m (7 * j) (7 * (j : Int)) (by omega) (by omega)
    have w1 : wrap64 ((j : Int) + 1) = ((j + 1 : Nat) : Int) := w64m (j + 1) _ (by omega) (by omega)
    have p0 : (0 : Int) ≤ (j : Int) := by omega
    have p7 : (0 : Int) ≤ ((7 * j : Nat) : Int) := by omega
    have pd : j + 1 + d = 9 := by omega
    have pl : ¬ ((j : Int) = 9) := by omega
    have pt : decide ((j : Int) < 10) = true := decide_eq_true (by omega)
    rcases h.byte (b := 64) hb (by decide) hv with ⟨hA, hRn⟩ | ⟨cc, m, hc, hlt, hc256, hm, hsb, hBC⟩
    · rw [hRn]
      refine Ev.step (f := fun k => spec_ReadUvarint.j1 k xs (a : Int) (j : Int) false) (fun k => by simp only [spec_ReadUvarint.l0]; rw [if_neg (by omega)]) ?_
      exact Ev.step (f := fun _ => some (0, 0)) (fun k => by simp only [spec_ReadUvarint.j1]; rw [if_neg (by decide)]) (Ev.now _)
    · rw [Nat.zero_add] at hc hlt hBC
      have p1 : (j : Int) < (xs.length : Int) := Int.ofNat_lt.2 hlt
      have px : xs.length - (xs.drop (j + 1)).length = j + 1 := by rw [List.length_drop]; exact Nat.sub_sub_self hlt
      refine Ev.step (f := fun k => spec_ReadUvarint.j1 k xs (a : Int) (j : Int) true) (fun k => by simp only [spec_ReadUvarint.l0]; rw [if_pos p1, pt]) ?_
      refine Ev.step (f := fun k => spec_ReadUvarint.j2 k xs (a : Int) (j : Int) false) (fun k => by simp only [spec_ReadUvarint.j1]; rw [if_pos trivial, if_neg pl]) ?_
      obtain ⟨v1, v2, v3, v4⟩ := acc_words .u64 64 (by decide) (by decide) words_u64 hc256 hm h.lt hsb
      have hs : shl .u64 (m : Int) ((7 * j : Nat) : Int) = ((m * 2 ^ (7 * j) : Nat) : Int) := shl7 m j hj v3
      clear hsb v3
      rcases hBC with ⟨h1, h2⟩ | ⟨h1, h2⟩
      · refine Ev.step (f := fun _ => some (ruR xs.length R)) (fun k => ?_) (Ev.now _)
        simp only [spec_ReadUvarint.j2]
        rw [if_neg Bool.false_ne_true, if_pos p0, if_pos p1, w7, if_pos p7, hc, if_pos (show (cc : Int) < 128 from Int.ofNat_lt.2 h1), v1, v2, hs, v4, w1, h2]
        simp only [ruR]
        rw [px]
      · refine Ev.step (f := fun k => spec_ReadUvarint.l0 k xs ((a + m * 2 ^ (7 * j) : Nat) : Int) ((j + 1 : Nat) : Int)) (fun k => ?_) (ru_loop xs hb hl R hv d (j + 1) _ pd h2)
        simp only [spec_ReadUvarint.j2]
        rw [if_neg Bool.false_ne_true, if_pos p0, if_pos p1, w7, if_pos p7, hc, if_neg (show ¬ (cc : Int) < 128 from fun h => absurd (Int.ofNat_lt.1 h) (Nat.not_lt.2 h1)), v1, v2, hs, v4, w1]
theorem ru_eq (xs : List Int) (hb : ∀ x ∈ xs, 0 ≤ x ∧ x ≤ 255) (hl : xs.length ≤ 1000000) (hn : nr 0 xs = true) : ∃ R, rdv 9 xs = some R ∧ rdv 10 xs = some R ∧ (∀ v r, R = some (v, r) → v < 2 ^ 63 ∧ ∃ j, 0 < j ∧ j ≤ xs.length ∧ r = xs.drop j) ∧ Ev (fun k => spec_ReadUvarint.f k xs) (ruR xs.length R) := by
  obtain ⟨R, hR⟩ := nr_rdv xs 0 (by decide) hn
  have h9 := hR 9 (by decide)
  have hv : ∀ v r, R = some (v, r) → v < 2 ^ 63 := fun v r e => rdv_lt 9 xs v r hb (by rw [h9, e])
  refine ⟨R, h9, hR 10 (by decide), fun v r e => ⟨hv v r e, ?_⟩, ?_⟩
  · obtain ⟨j, h1, _, h3, h4⟩ := rdv_drop 9 xs v r (by rw [h9, e])
    exact ⟨j, h1, h3, h4⟩
  · exact ru_loop xs hb hl R (fun v r e => Nat.lt_trans (hv v r e) (by decide)) 9 0 0 rfl (VI.start (by rw [List.drop_zero]; exact h9) (by decide) (Nat.zero_le _))
theorem key7 (key : Nat) (h : key < 2 ^ 63) : Go.bits .and .u64 (key : Int) 7 = ((key % 8 : Nat) : Int) := by
  have h1 := bits_mask .u64 64 (by decide) words_u64 3 (by decide) (key : Int) (by omega) (by omega)
  have h2 : Go.bits .and .u64 (key : Int) 7 = (key : Int) % 8 := by simpa using h1
  rw [h2]; omega
theorem tk_words (L j j2 : Nat) (h : j + j2 ≤ L) (hL : L ≤ 1000000) : IntKind.u64.wrap (wrap64 ((wrap64 ((L : Int) - (j : Int))) - (j2 : Int))) = ((L - (j + j2) : Nat) : Int) ∧ wrap64 ((j : Int) + (j2 : Int)) = ((j + j2 : Nat) : Int) := by
  have h1 : wrap64 ((L : Int) - (j : Int)) = ((L - j : Nat) : Int) := w64m _ _ (by omega) (by omega)
  have h2 : wrap64 (((L - j : Nat) : Int) - (j2 : Int)) = ((L - (j + j2) : Nat) : Int) := w64m _ _ (by omega) (by omega)
  refine ⟨?_, w64m _ _ (by omega) (by omega)⟩
  rw [h1, h2]
  exact words_u64 _ (by omega) (by omega)
theorem tk_words2 (a n L : Nat) (h : a + n ≤ L) (hL : L ≤ 1000000) : wrap64 (n : Int) = (n : Int) ∧ wrap64 ((a : Int) + (n : Int)) = ((a + n : Nat) : Int) := ⟨w64m _ _ (by omega) rfl, w64m _ _ (by omega) (by omega)⟩
/-- What pbTake says, by the numbers ahead. -/
structure TakeR (xs : List Int) (key : Nat) (l1 : List Int) (R2 : Option (Nat × List Int)) : Prop where
  torn : R2 = none → Ev (fun k => spec_pbTake.f k xs) (0, 0, 0, ([] : List Int), 0)
  num : ∀ n l2, R2 = some (n, l2) → key % 8 = 0 → Ev (fun k => spec_pbTake.f k xs) (((key / 8 : Nat) : Int), 0, (n : Int), ([] : List Int), ((xs.length - l2.length : Nat) : Int))
  row : ∀ n l2, R2 = some (n, l2) → key % 8 = 2 → n ≤ l2.length → Ev (fun k => spec_pbTake.f k xs) (((key / 8 : Nat) : Int), 2, 0, l2.take n, ((xs.length - (l2.drop n).length : Nat) : Int))
  short : ∀ n l2, R2 = some (n, l2) → key % 8 = 2 → l2.length < n → Ev (fun k => spec_pbTake.f k xs) (0, 0, 0, ([] : List Int), 0)
theorem take_none (xs : List Int) (hR : Ev (fun k => spec_ReadUvarint.f k xs) (0, 0)) : Ev (fun k => spec_pbTake.f k xs) (0, 0, 0, ([] : List Int), 0) := by
  unfold spec_pbTake.f
  refine Ev.bind hR ?_
  dsimp only
  simp only [if_true]
  exact Ev.now _
theorem ite_nat {α : Type} {p : Prop} [Decidable p] (h : p) (a b : α) : (if p then a else b) = a := if_pos h
theorem take_head (xs l1 : List Int) (key j : Nat) (hj : 0 < j) (hjl : j ≤ xs.length) (hl1 : l1 = xs.drop j) (hR : Ev (fun k => spec_ReadUvarint.f k xs) ((key : Int), (j : Int))) (r2 : Int × Int) (hR2 : Ev (fun k => spec_ReadUvarint.f k l1) r2) {r : Int × Int × Int × List Int × Int}
    (h : (if r2.2 = 0 then (some (0, 0, 0, ([] : List Int), 0)) else (if (Go.bits .and .u64 (key : Int) 7) = 0 then (some ((key : Int) / 8, 0, r2.1, ([] : List Int), wrap64 ((j : Int) + r2.2))) else (if (Go.bits .and .u64 (key : Int) 7) = 2 then (if r2.1 ≤ (IntKind.u64.wrap (wrap64 ((wrap64 ((xs.length : Int) - (j : Int))) - r2.2))) then (if 0 ≤ (wrap64 ((j : Int) + r2.2)) then (if (wrap64 ((j : Int) + r2.2)) ≤ (wrap64 ((wrap64 ((j : Int) + r2.2)) + (wrap64 (r2.1)))) then (if (wrap64 ((wrap64 ((j : Int) + r2.2)) + (wrap64 (r2.1)))) ≤ (xs.length : Int) then (some ((key : Int) / 8, 2, 0, ((xs.take ((wrap64 ((wrap64 ((j : Int) + r2.2)) + (wrap64 (r2.1)))) : Int).toNat).drop ((wrap64 ((j : Int) + r2.2)) : Int).toNat), wrap64 ((wrap64 ((j : Int) + r2.2)) + (wrap64 (r2.1))))) else (none)) else (none)) else (none)) else (some (0, 0, 0, ([] : List Int), 0))) else (some (0, 0, 0, ([] : List Int), 0))))) = some r) :
    Ev (fun k => spec_pbTake.f k xs) r := by
  unfold spec_pbTake.f
  refine Ev.bind hR ?_
  dsimp only
  have q0 : ((j : Int) = 0) = False := eq_false (by omega)
  have q1 : ((0 : Int) ≤ (j : Int)) = True := eq_true (by omega)
  have q2 : ((j : Int) ≤ (xs.length : Int)) = True := eq_true (by omega)
  simp only [q0, q1, q2, if_true, if_false, Int.toNat_natCast, ← hl1]
  refine Ev.bind hR2 ?_
  exact Ev.congr (fun _ => h) (Ev.now _)
theorem take_eq (xs : List Int) (hb : ∀ x ∈ xs, 0 ≤ x ∧ x ≤ 255) (hl : xs.length ≤ 1000000) (hn : nr 0 xs = true) (key : Nat) (l1 : List Int) (hR : rdv 9 xs = some (some (key, l1))) (R2 : Option (Nat × List Int)) (hR2 : rdv 9 l1 = some R2) : TakeR xs key l1 R2 := by
  obtain ⟨R, h9, _, hRv, hE⟩ := ru_eq xs hb hl hn
  rw [h9] at hR
  obtain rfl := Option.some.inj hR
  obtain ⟨hk63, j, hj, hjl, hjd⟩ := hRv _ _ rfl
  obtain ⟨R', h9', _, hRv', hE'⟩ := ru_eq l1 (fun x hx => hb x (by rw [hjd] at hx; exact List.mem_of_mem_drop hx)) (by rw [hjd, List.length_drop]; omega) (by rw [hjd]; exact nr_drop j xs hn)
  rw [h9'] at hR2
  obtain rfl := Option.some.inj hR2
  have ej : xs.length - l1.length = j := by rw [hjd, List.length_drop]; omega
  have hE1 : Ev (fun k => spec_ReadUvarint.f k xs) ((key : Int), (j : Int)) := by simp only [ruR, ej] at hE; exact hE
  have h7 := key7 key hk63
  have hdv : ((key : Int) / 8) = ((key / 8 : Nat) : Int) := by omega
  refine ⟨fun e => ?_, fun n l2 e h0 => ?_, fun n l2 e h2 hle => ?_, fun n l2 e h2 hlt => ?_⟩
  · subst e
    exact take_head xs l1 key j hj hjl hjd hE1 _ hE' (by simp only [ruR]; rw [if_pos trivial])
  all_goals
    subst e
    obtain ⟨hn63, j2, hj2, hj2l, hj2d⟩ := hRv' _ _ rfl
    have hll : l1.length = xs.length - j := by rw [hjd, List.length_drop]
    have e2 : l1.length - l2.length = j2 := by rw [hj2d, List.length_drop]; omega
    have hl2 : l2.length = xs.length - (j + j2) := by rw [hj2d, List.length_drop, hll]; omega
    have hjj : j + j2 ≤ xs.length := by omega
    have p2 : ¬ (j2 : Int) = 0 := by omega
    have e3 : j + j2 = xs.length - l2.length := by omega
    refine take_head xs l1 key j hj hjl hjd hE1 _ hE' ?_
    simp only [ruR, e2]
  · obtain ⟨w1, w2⟩ := tk_words xs.length j j2 hjj hl
    rw [if_neg p2, h7, h0, if_pos (by decide), hdv, w2, e3]
  · have e4 : j + j2 + n - (j + j2) = n := by omega
    have e5 : j + j2 + n = xs.length - (l2.drop n).length := by rw [List.length_drop]; omega
    have p3 : (n : Int) ≤ ((xs.length - (j + j2) : Nat) : Int) := by omega
    have p4 : (0 : Int) ≤ ((j + j2 : Nat) : Int) := by omega
    have p5 : ((j + j2 : Nat) : Int) ≤ ((j + j2 + n : Nat) : Int) := by omega
    have p6 : ((j + j2 + n : Nat) : Int) ≤ (xs.length : Int) := by omega
    have p7 : j + j2 + n ≤ xs.length := by omega
    obtain ⟨w3, w4⟩ := tk_words2 (j + j2) n xs.length p7 hl
    obtain ⟨w1, w2⟩ := tk_words xs.length j j2 hjj hl
    rw [if_neg p2, h7, h2, if_neg (by decide), if_pos (by decide), w1, if_pos p3, w2, if_pos p4, w3, w4, if_pos p5, if_pos p6, hdv, Int.toNat_natCast, Int.toNat_natCast, List.drop_take, e4, ← List.drop_drop, ← hjd, ← hj2d, e5]
  · have p3 : ¬ (n : Int) ≤ ((xs.length - (j + j2) : Nat) : Int) := by omega
    obtain ⟨w1, w2⟩ := tk_words xs.length j j2 hjj hl
    rw [if_neg p2, h7, h2, if_neg (by decide), if_pos (by decide), w1, if_neg p3]
theorem Ev_stepb {α β : Type} {g F : Nat → Option β} {p : Nat → Option α} {a : α} {r : β} (hp : Ev p a) (hg : ∀ k, p k = some a → g (k + 1) = F k) (hF : Ev F r) : Ev g r := by
  obtain ⟨K, hp⟩ := hp
  obtain ⟨K', hF⟩ := hF
  refine ⟨max K K' + 1, fun n hn => ?_⟩
  obtain ⟨m, rfl⟩ : ∃ m, n = m + 1 := ⟨n - 1, by omega⟩
  rw [hg m (hp m (by omega))]
  exact hF m (by omega)
/-- What PbLinkOf says of what the bytes are. -/
def LkR : Option Lnk → Bool × Bool × Bool × List Int × ByteArray × Int × Bool
  | none => (false, false, false, ([] : List Int), (⟨#[]⟩ : ByteArray), 0, false)
  | some s => (s.hash.isSome, s.name.isSome, s.ts.isSome, s.hash.getD [], strOfNums (s.name.getD []), ((s.ts.getD 0 : Nat) : Int), true)
def lkF (k : Nat) (xs : List Int) (s : Lnk) := spec_PbLinkOf.l0 k xs s.hash.isSome s.name.isSome s.ts.isSome (s.hash.getD []) (strOfNums (s.name.getD [])) ((s.ts.getD 0 : Nat) : Int)
theorem ours_end (xs : List Int) (h : xs.length = 0) : Ev (fun k => spec_PbOurs.l1 k xs 3) true := by
  refine Ev.step (f := fun _ => some true) (fun k => ?_) (Ev.now _)
  simp only [spec_PbOurs.l1]
  rw [if_neg (by omega)]
theorem ours_none (xs : List Int) (hR : Ev (fun k => spec_ReadUvarint.f k xs) (0, 0)) : Ev (fun k => spec_PbOurs.l1 k xs 3) true := by
  by_cases h : (xs.length : Int) > 0
  · refine Ev_stepb (F := fun _ => some true) hR (fun k hk => ?_) (Ev.now _)
    simp only [spec_PbOurs.l1]
    rw [if_pos h, hk, Option.bind_some]
    rfl
  · exact ours_end xs (by omega)
theorem ours_go (xs : List Int) (key j : Nat) (hp : 0 < xs.length) (hj : 0 < j) (h63 : key < 2 ^ 63) (hR : Ev (fun k => spec_ReadUvarint.f k xs) ((key : Int), (j : Int))) (x : Bool) (hx : x = (decide (key / 8 < 1) || decide (3 < key / 8) || !(decide (key % 8 = 0) || decide (key % 8 = 2)))) {r : Bool} (h : Ev (fun k => spec_PbOurs.j2 k xs 3 (key : Int) x) r) : Ev (fun k => spec_PbOurs.l1 k xs 3) r := by
  refine Ev_stepb (F := fun k => spec_PbOurs.j2 k xs 3 (key : Int) x) hR (fun k hk => ?_) h
  · simp only [spec_PbOurs.l1]
    rw [if_pos (by omega), hk, Option.bind_some]
    have q0 : ((j : Int) = 0) = False := eq_false (by omega)
    simp only [q0, if_false]
    have q1 : ((key : Int) / 8 < 1) = (key / 8 < 1) := propext (by omega)
    have q2 : ((key : Int) / 8 > 3) = (3 < key / 8) := propext (by omega)
    have q3 : (Go.bits .and .u64 (key : Int) 7 = 0) = (key % 8 = 0) := by rw [key7 key h63]; exact propext (by omega)
    have q4 : (Go.bits .and .u64 (key : Int) 7 != 2) = !decide (key % 8 = 2) := by
      rw [key7 key h63]
      by_cases h2 : key % 8 = 2
      · rw [h2]; rfl
      · rw [decide_eq_false h2]; exact bne_iff_ne.2 (by omega)
    simp only [q1, q2, q3, q4]
    subst hx
    by_cases c1 : key / 8 < 1
    · simp only [c1, if_true, decide_true, Bool.true_or]
    by_cases c2 : 3 < key / 8
    · simp only [c1, c2, if_true, if_false, decide_true, Bool.true_or, Bool.or_true]
    by_cases c3 : key % 8 = 0
    · simp only [c1, c2, c3, if_true, if_false, decide_true, decide_false, Bool.true_or, Bool.or_true, Bool.or_false, Bool.not_true]
    · simp only [c1, c2, c3, if_true, if_false, decide_true, decide_false, Bool.false_or, Bool.or_false]
theorem ours_bad (xs : List Int) (y : Int) : Ev (fun k => spec_PbOurs.j2 k xs 3 y true) false := by
  refine Ev.step (f := fun _ => some false) (fun k => ?_) (Ev.now _)
  simp only [spec_PbOurs.j2]
  rw [if_pos trivial]
theorem ours_torn (xs : List Int) (y : Int) (hT : Ev (fun k => spec_pbTake.f k xs) (0, 0, 0, ([] : List Int), 0)) : Ev (fun k => spec_PbOurs.j2 k xs 3 y false) true := by
  refine Ev_stepb (F := fun _ => some true) hT (fun k hk => ?_) (Ev.now _)
  simp only [spec_PbOurs.j2]
  rw [if_neg Bool.false_ne_true, hk, Option.bind_some]
  rfl
theorem ours_next (xs rest : List Int) (y a b c : Int) (v : List Int) (hT : Ev (fun k => spec_pbTake.f k xs) (a, b, c, v, ((xs.length - rest.length : Nat) : Int))) (hlt : rest.length < xs.length) (hd : rest = xs.drop (xs.length - rest.length)) {r : Bool} (h : Ev (fun k => spec_PbOurs.l1 k rest 3) r) : Ev (fun k => spec_PbOurs.j2 k xs 3 y false) r := by
  refine Ev_stepb (F := fun k => spec_PbOurs.l1 k rest 3) hT (fun k hk => ?_) h
  · simp only [spec_PbOurs.j2]
    rw [if_neg Bool.false_ne_true, hk, Option.bind_some]
    have q0 : (((xs.length - rest.length : Nat) : Int) = 0) = False := eq_false (by omega)
    have q1 : ((3 : Int) = 2) = False := eq_false (by decide)
    have q2 : ((0 : Int) ≤ ((xs.length - rest.length : Nat) : Int)) = True := eq_true (by omega)
    have q3 : (((xs.length - rest.length : Nat) : Int) ≤ (xs.length : Int)) = True := eq_true (by omega)
    simp only [q0, q1, q2, q3, if_true, if_false, Int.toNat_natCast, ← hd]
theorem lk_end (xs : List Int) (h : xs.length = 0) (s : Lnk) : Ev (fun k => lkF k xs s) (LkR (some s)) := by
  refine Ev.step (f := fun _ => some (LkR (some s))) (fun k => ?_) (Ev.now _)
  simp only [lkF, spec_PbLinkOf.l0]
  rw [if_neg (by omega)]
  rfl
theorem lk_bad (k : Nat) (xs v : List Int) (a c n : Int) (b0 b1 b2 : Bool) (h : List Int) (st : ByteArray) (z : Int) : Ev (fun k => spec_PbLinkOf.j1 k xs a c v n true b0 b1 b2 h st z) (LkR none) := by
  refine Ev.step (f := fun _ => some (LkR none)) (fun k => ?_) (Ev.now _)
  simp only [spec_PbLinkOf.j1]
  rw [if_pos trivial]
  rfl
theorem lk_torn (xs : List Int) (hp : 0 < xs.length) (s : Lnk) (hT : Ev (fun k => spec_pbTake.f k xs) (0, 0, 0, ([] : List Int), 0)) : Ev (fun k => lkF k xs s) (LkR none) := by
  refine Ev_stepb (F := fun k => spec_PbLinkOf.j1 k xs 0 0 [] 0 true s.hash.isSome s.name.isSome s.ts.isSome (s.hash.getD []) (strOfNums (s.name.getD [])) ((s.ts.getD 0 : Nat) : Int)) hT (fun k hk => ?_) (lk_bad 0 ..)
  simp only [lkF, spec_PbLinkOf.l0]
  rw [if_pos (by omega), hk, Option.bind_some]
  rfl
theorem lk_wrong (xs v : List Int) (hp : 0 < xs.length) (s : Lnk) (a b c : Int) (n : Nat) (hn : 0 < n) (hT : Ev (fun k => spec_pbTake.f k xs) (a, b, c, v, (n : Int))) (hx : ((a == 3) != (b == 0)) = true) : Ev (fun k => lkF k xs s) (LkR none) := by
  refine Ev_stepb (F := fun k => spec_PbLinkOf.j1 k xs a c v n true s.hash.isSome s.name.isSome s.ts.isSome (s.hash.getD []) (strOfNums (s.name.getD [])) ((s.ts.getD 0 : Nat) : Int)) hT (fun k hk => ?_) (lk_bad 0 ..)
  simp only [lkF, spec_PbLinkOf.l0]
  rw [if_pos (by omega), hk, Option.bind_some]
  have q0 : ((n : Int) = 0) = False := eq_false (by omega)
  simp only [q0, if_false, hx]
theorem lk_good (xs v rest : List Int) (s t : Lnk) (a b c : Int) (hT : Ev (fun k => spec_pbTake.f k xs) (a, b, c, v, ((xs.length - rest.length : Nat) : Int))) (hlt : rest.length < xs.length) (hd : rest = xs.drop (xs.length - rest.length)) (hl : v.length ≤ 1000000)
    (ht : (a = 1 ∧ b = 2 ∧ t = { s with hash := some v }) ∨ (a = 2 ∧ b = 2 ∧ t = { s with name := some v }) ∨ (a = 3 ∧ b = 0 ∧ ∃ m : Nat, c = (m : Int) ∧ t = { s with ts := some m })) {r : Bool × Bool × Bool × List Int × ByteArray × Int × Bool} (h : Ev (fun k => lkF k rest t) r) : Ev (fun k => lkF k xs s) r := by
  have hx : ((a == 3) != (b == 0)) = false := by rcases ht with ⟨rfl, rfl, _⟩ | ⟨rfl, rfl, _⟩ | ⟨rfl, rfl, _⟩ <;> decide
  have q0 : (((xs.length - rest.length : Nat) : Int) = 0) = False := eq_false (by omega)
  have q2 : ((0 : Int) ≤ ((xs.length - rest.length : Nat) : Int)) = True := eq_true (by omega)
  have q3 : (((xs.length - rest.length : Nat) : Int) ≤ (xs.length : Int)) = True := eq_true (by omega)
  refine Ev_stepb (F := fun k => spec_PbLinkOf.j1 k xs a c v ((xs.length - rest.length : Nat) : Int) false s.hash.isSome s.name.isSome s.ts.isSome (s.hash.getD []) (strOfNums (s.name.getD [])) ((s.ts.getD 0 : Nat) : Int)) hT (fun k hk => ?_) ?_
  · simp only [lkF, spec_PbLinkOf.l0]
    rw [if_pos (by omega), hk, Option.bind_some]
    simp only [q0, if_false, hx]
  · refine Ev.step (f := fun k => lkF k rest t) (fun k => ?_) h
    simp only [spec_PbLinkOf.j1]
    rcases ht with ⟨rfl, rfl, rfl⟩ | ⟨rfl, rfl, rfl⟩ | ⟨rfl, rfl, m, rfl, rfl⟩
    · rw [if_neg (by decide), if_pos (by decide), Option.bind_some]
      have q4 : (([] : List Int).length + v.length < 140737488355328) = True := eq_true (by rw [List.length_nil]; omega)
      simp only [q2, q3, q4, if_true, Int.toNat_natCast, ← hd, List.nil_append]
      rfl
    · rw [if_neg (by decide), if_neg (by decide), if_pos (by decide)]
      simp only [q2, q3, if_true, Int.toNat_natCast, ← hd]
      rfl
    · rw [if_neg (by decide), if_neg (by decide), if_neg (by decide), if_pos (by decide)]
      simp only [q2, q3, if_true, Int.toNat_natCast, ← hd]
      rfl
theorem nr_cons (r : Nat) (c : Int) (l : List Int) : nr r (c :: l) = if c < 128 then nr 0 l else if r + 1 = 9 then false else nr (r + 1) l := rfl
theorem ours_run (xs : List Int) (hl : xs.length ≤ 1000000) (res : Bool) (hres : nr 0 xs = true → Ev (fun k => spec_PbOurs.l1 k xs 3) res) (hnr : ∀ r : Bool, r = (if nr 0 xs = true then res else false) → True) :
    ∀ d i r, i + d = xs.length → r ≤ 8 → nr r (xs.drop i) = nr 0 xs → Ev (fun k => spec_PbOurs.l0 k xs 3 (r : Int) xs (xs.length : Int) (i : Int)) (if nr 0 xs = true then res else false)
  | 0, i, r, hd, h8, hn => by
    rw [List.drop_of_length_le (by omega)] at hn
    have hn' : nr 0 xs = true := by rw [← hn]; rfl
    rw [if_pos hn']
    refine Ev.step (f := fun k => spec_PbOurs.l1 k xs 3) (fun k => ?_) (hres hn')
    simp only [spec_PbOurs.l0]
    rw [if_neg (by omega)]
  | d + 1, i, r, hd, h8, hn => by
    have hi : i < xs.length := by omega
    have w1 : wrap64 ((i : Int) + 1) = ((i + 1 : Nat) : Int) := w64m _ _ (by omega) (by omega)
    have w2 : wrap64 ((r : Int) + 1) = ((r + 1 : Nat) : Int) := w64m _ _ (by omega) (by omega)
    have hrd : rd xs (i : Int) = xs[i] := by unfold rd; rw [Int.toNat_natCast, List.getD_eq_getElem?_getD, List.getElem?_eq_getElem hi]; rfl
    have p0 : (i : Int) < (xs.length : Int) := by omega
    have p1 : (0 : Int) ≤ (i : Int) := by omega
    rw [List.drop_eq_getElem_cons hi, nr_cons] at hn
    by_cases h1 : xs[i] < 128
    · rw [if_pos h1] at hn
      refine Ev.step (f := fun k => spec_PbOurs.l0 k xs 3 ((0 : Nat) : Int) xs (xs.length : Int) ((i + 1 : Nat) : Int)) (fun k => ?_) (ours_run xs hl res hres hnr d (i + 1) 0 (by omega) (by decide) hn)
      simp only [spec_PbOurs.l0]
      rw [if_pos p0, if_pos p1, if_pos p0, hrd, if_pos h1, if_neg (by decide), w1]
      rfl
    · rw [if_neg h1] at hn
      by_cases h2 : r + 1 = 9
      · rw [if_pos h2] at hn
        rw [if_neg (by rw [← hn]; decide)]
        refine Ev.step (f := fun _ => some false) (fun k => ?_) (Ev.now _)
        simp only [spec_PbOurs.l0]
        rw [if_pos p0, if_pos p1, if_pos p0, hrd, if_neg h1, w2, if_pos (by omega)]
      · rw [if_neg h2] at hn
        refine Ev.step (f := fun k => spec_PbOurs.l0 k xs 3 ((r + 1 : Nat) : Int) xs (xs.length : Int) ((i + 1 : Nat) : Int)) (fun k => ?_) (ours_run xs hl res hres hnr d (i + 1) (r + 1) (by omega) (by omega) hn)
        simp only [spec_PbOurs.l0]
        rw [if_pos p0, if_pos p1, if_pos p0, hrd, if_neg h1, w2, if_neg (by omega), w1]
theorem umL_none {k : Nat} {l : List Int} {s : Lnk} (h0 : l ≠ []) (h : rdv 10 l = some none) : umL (k + 1) l s = some none := by
  unfold umL; rw [if_neg h0, h]; rfl
theorem umL_len {k : Nat} {l l1 : List Int} {s : Lnk} {key : Nat} (h0 : l ≠ []) (h : rdv 10 l = some (some (key, l1))) (hk : key = 10 ∨ key = 18) : umL (k + 1) l s = lenR k l1 (fun x => if key = 10 then { s with hash := some x } else { s with name := some x }) := by
  unfold umL lenR; rw [if_neg h0, h]
  rcases hk with rfl | rfl <;> rfl
theorem umL_num {k : Nat} {l l1 : List Int} {s : Lnk} (h0 : l ≠ []) (h : rdv 10 l = some (some (24, l1))) : umL (k + 1) l s = numR k l1 (fun x => { s with ts := some x }) := by
  unfold umL numR; rw [if_neg h0, h]; rfl
theorem umL_wrong {k : Nat} {l l1 : List Int} {s : Lnk} {key : Nat} (h0 : l ≠ []) (h : rdv 10 l = some (some (key, l1))) (hk : key = 8 ∨ key = 16 ∨ key = 26) : umL (k + 1) l s = some none := by
  unfold umL; rw [if_neg h0, h]
  rcases hk with rfl | rfl | rfl <;> rfl
/-- What the bytes of a link are told as: by the code's reading, and by the reference. -/
def Told (xs : List Int) : Prop := ∀ s : Lnk, ∃ kf RT, umL kf xs s = some RT ∧ Ev (fun k => lkF k xs s) (LkR RT)
theorem fields_told : ∀ n (xs : List Int), xs.length ≤ n → n ≤ 1000000 → (∀ x ∈ xs, 0 ≤ x ∧ x ≤ 255) → nr 0 xs = true → ∃ r, Ev (fun k => spec_PbOurs.l1 k xs 3) r ∧ (r = true → Told xs)
  | n, [], hn, hN, hb, hr => ⟨true, ours_end [] rfl, fun _ s => ⟨1, some s, rfl, lk_end [] rfl s⟩⟩
  | 0, x :: xs, hn, hN, hb, hr => by simp at hn
  | n + 1, x :: xs, hn, hN, hb, hr => by
    obtain ⟨l, hl⟩ : ∃ l, l = x :: xs := ⟨_, rfl⟩
    rw [← hl] at hn hb hr ⊢
    have h0 : l ≠ [] := by rw [hl]; exact List.cons_ne_nil _ _
    have hp : 0 < l.length := List.length_pos_iff.2 h0
    clear hl
    obtain ⟨R, h9, h10, hv, hE⟩ := ru_eq l hb (by omega) hr
    cases R with
    | none => exact ⟨true, ours_none l hE, fun _ s => ⟨1, none, umL_none h0 h10, lk_torn l hp s (take_none l hE)⟩⟩
    | some p =>
      obtain ⟨key, l1⟩ := p
      obtain ⟨h63, j, hj, hjl, hjd⟩ := hv _ _ rfl
      have ej : l.length - l1.length = j := by rw [hjd, List.length_drop]; omega
      simp only [ruR, ej] at hE
      obtain ⟨y, hy⟩ : ∃ y, y = (decide (key / 8 < 1) || decide (3 < key / 8) || !(decide (key % 8 = 0) || decide (key % 8 = 2))) := ⟨_, rfl⟩
      cases y with
      | true => exact ⟨false, ours_go l key j hp hj h63 hE true hy (ours_bad l _), fun e => by cases e⟩
      | false =>
        have hk : key = 8 ∨ key = 16 ∨ key = 24 ∨ key = 10 ∨ key = 18 ∨ key = 26 := by
          have h := hy.symm
          simp only [Bool.or_eq_false_iff, decide_eq_false_iff_not, Bool.not_eq_false', Bool.or_eq_true, decide_eq_true_eq] at h
          omega
        clear hy
        have hb1 : ∀ x ∈ l1, 0 ≤ x ∧ x ≤ 255 := fun x hx => hb x (by rw [hjd] at hx; exact List.mem_of_mem_drop hx)
        have hr1 : nr 0 l1 = true := by rw [hjd]; exact nr_drop j l hr
        have hl1 : l1.length + j = l.length := by rw [hjd, List.length_drop]; omega
        obtain ⟨R2, h9', h10', hv', _⟩ := ru_eq l1 hb1 (by omega) hr1
        have TK := take_eq l hb (by omega) hr key l1 h9 R2 h9'
        cases R2 with
        | none =>
          refine ⟨true, ours_go l key j hp hj h63 hE false ?_ (ours_torn l _ (TK.torn rfl)), fun _ s => ⟨1, none, ?_, lk_torn l hp s (TK.torn rfl)⟩⟩
          · rcases hk with rfl | rfl | rfl | rfl | rfl | rfl <;> rfl
          · rcases hk with rfl | rfl | rfl | rfl | rfl | rfl
            · exact umL_wrong h0 h10 (by decide)
            · exact umL_wrong h0 h10 (by decide)
            · rw [umL_num h0 h10]; unfold numR; rw [h10']; rfl
            · rw [umL_len h0 h10 (by decide)]; unfold lenR; rw [h9']; rfl
            · rw [umL_len h0 h10 (by decide)]; unfold lenR; rw [h9']; rfl
            · exact umL_wrong h0 h10 (by decide)
        | some p2 =>
          obtain ⟨m, l2⟩ := p2
          obtain ⟨hm63, j2, hj2, hj2l, hj2d⟩ := hv' _ _ rfl
          have hl2 : l2.length + j2 = l1.length := by rw [hj2d, List.length_drop]; omega
          have e2 : l2 = l.drop (j + j2) := by rw [hj2d, hjd, List.drop_drop]
          have hb2 : ∀ x ∈ l2, 0 ≤ x ∧ x ≤ 255 := fun x hx => hb x (by rw [e2] at hx; exact List.mem_of_mem_drop hx)
          have hr2 : nr 0 l2 = true := by rw [e2]; exact nr_drop _ l hr
          have hd2 : l2 = l.drop (l.length - l2.length) := by rw [show l.length - l2.length = j + j2 by omega]; exact e2
          have hy8 : false = (decide (key / 8 < 1) || decide (3 < key / 8) || !(decide (key % 8 = 0) || decide (key % 8 = 2))) := by rcases hk with rfl | rfl | rfl | rfl | rfl | rfl <;> rfl
          by_cases hc : key % 8 = 0
          · have T := TK.num m l2 rfl hc
            obtain ⟨r, hO, hT⟩ := fields_told n l2 (by omega) (by omega) hb2 hr2
            refine ⟨r, ours_go l key j hp hj h63 hE false hy8 (ours_next l l2 _ _ _ _ _ T (by omega) hd2 hO), fun e s => ?_⟩
            have hk' : key = 8 ∨ key = 16 ∨ key = 24 := by omega
            rcases hk' with rfl | rfl | rfl
            · exact ⟨1, none, umL_wrong h0 h10 (by decide), lk_wrong l _ hp s _ _ _ _ (by omega) T (by decide)⟩
            · exact ⟨1, none, umL_wrong h0 h10 (by decide), lk_wrong l _ hp s _ _ _ _ (by omega) T (by decide)⟩
            · obtain ⟨kf, RT, hU, hL⟩ := hT e { s with ts := some m }
              refine ⟨kf + 1, RT, ?_, lk_good l _ l2 s _ _ _ _ T (by omega) hd2 (by simp) (.inr (.inr ⟨by decide, rfl, m, rfl, rfl⟩)) hL⟩
              rw [umL_num h0 h10]; unfold numR; rw [h10', Option.bind_some]
              dsimp only
              rw [if_pos (Nat.lt_trans hm63 (by decide)), hU]
          · have hc2 : key % 8 = 2 := by omega
            by_cases hle : m ≤ l2.length
            · have T := TK.row m l2 rfl hc2 hle
              have hd3 : l2.drop m = l.drop (l.length - (l2.drop m).length) := by rw [e2, List.drop_drop]; congr 1; rw [List.length_drop]; omega
              have hl3 : (l2.drop m).length = l2.length - m := List.length_drop ..
              obtain ⟨r, hO, hT⟩ := fields_told n (l2.drop m) (by omega) (by omega) (fun x hx => hb2 x (List.mem_of_mem_drop hx)) (nr_drop _ _ hr2)
              refine ⟨r, ours_go l key j hp hj h63 hE false hy8 (ours_next l _ _ _ _ _ _ T (by omega) hd3 hO), fun e s => ?_⟩
              have hk' : key = 10 ∨ key = 18 ∨ key = 26 := by omega
              have htl : (l2.take m).length ≤ 1000000 := by rw [List.length_take]; omega
              rcases hk' with rfl | rfl | rfl
              · obtain ⟨kf, RT, hU, hL⟩ := hT e { s with hash := some (l2.take m) }
                refine ⟨kf + 1, RT, ?_, lk_good l _ _ s _ _ _ _ T (by omega) hd3 htl (.inl ⟨by decide, rfl, rfl⟩) hL⟩
                rw [umL_len h0 h10 (by decide)]; unfold lenR; rw [h9', Option.bind_some]
                dsimp only
                rw [if_pos hle, if_pos rfl, hU]
              · obtain ⟨kf, RT, hU, hL⟩ := hT e { s with name := some (l2.take m) }
                refine ⟨kf + 1, RT, ?_, lk_good l _ _ s _ _ _ _ T (by omega) hd3 htl (.inr (.inl ⟨by decide, rfl, rfl⟩)) hL⟩
                rw [umL_len h0 h10 (by decide)]; unfold lenR; rw [h9', Option.bind_some]
                dsimp only
                rw [if_pos hle, if_neg (by decide), hU]
              · exact ⟨1, none, umL_wrong h0 h10 (by decide), lk_wrong l _ hp s _ _ _ _ (by omega) T (by decide)⟩
            · have T := TK.short m l2 rfl hc2 (by omega)
              refine ⟨true, ours_go l key j hp hj h63 hE false hy8 (ours_torn l _ T), fun _ s => ⟨1, none, ?_, lk_torn l hp s T⟩⟩
              have hk' : key = 10 ∨ key = 18 ∨ key = 26 := by omega
              rcases hk' with rfl | rfl | rfl
              · rw [umL_len h0 h10 (by decide)]; unfold lenR; rw [h9', Option.bind_some]; dsimp only; rw [if_neg hle]
              · rw [umL_len h0 h10 (by decide)]; unfold lenR; rw [h9', Option.bind_some]; dsimp only; rw [if_neg hle]
              · exact umL_wrong h0 h10 (by decide)
/-- The plain law: PbOurs tells, and where it says yes the code's reading and the reference tell the same. -/
theorem link_law (xs : List Int) (hl : xs.length ≤ 1000000) (hb : ∀ x ∈ xs, 0 ≤ x ∧ x ≤ 255) : ∃ k r, spec_PbOurs.f k xs 3 = some r ∧ (r = true → ∃ kf RT, umL kf xs ⟨none, none, none⟩ = some RT ∧ ∃ k', spec_PbLinkOf.f k' xs = some (LkR RT)) := by
  by_cases hn : nr 0 xs = true
  · obtain ⟨r, hO, hT⟩ := fields_told xs.length xs (Nat.le_refl _) hl hb hn
    have h := ours_run xs hl r (fun _ => hO) (fun _ _ => trivial) xs.length 0 0 (by omega) (by decide) rfl
    rw [if_pos hn] at h
    obtain ⟨k, hk⟩ := h.rounds
    refine ⟨k + 1, r, by simp only [spec_PbOurs.f]; exact hk, fun e => ?_⟩
    obtain ⟨kf, RT, hU, hL⟩ := hT e ⟨none, none, none⟩
    exact ⟨kf, RT, hU, hL.rounds⟩
  · have h := ours_run xs hl false (fun h => absurd h hn) (fun _ _ => trivial) xs.length 0 0 (by omega) (by decide) rfl
    rw [if_neg hn] at h
    obtain ⟨k, hk⟩ := h.rounds
    exact ⟨k + 1, false, by simp only [spec_PbOurs.f]; exact hk, fun e => by cases e⟩
theorem sameLink_refl (s : Lnk) : spec_PbSameLink.f s.hash.isSome s.name.isSome s.ts.isSome (s.hash.getD []) (strOfNums (s.name.getD [])) ((s.ts.getD 0 : Nat) : Int) s.hash.isSome s.name.isSome s.ts.isSome (s.hash.getD []) (strOfNums (s.name.getD [])) ((s.ts.getD 0 : Nat) : Int) = some true := by
  simp [spec_PbSameLink.f, spec_PbPlain.f, same_reflM]
end Go.Proofs.YtnhnlodmkbiiiaaDoor.HandPb
