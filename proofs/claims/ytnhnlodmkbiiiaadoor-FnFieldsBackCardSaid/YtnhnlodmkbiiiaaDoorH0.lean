/- Bytes that are those of a message have one message; the data and the size that a message tells. -/
import Derived.Test.YtnhnlodmkbiiiaaDoorU1
import Derived.Test.YtnhnlodmkbiiiaaDoorF3
namespace Go.Proofs.YtnhnlodmkbiiiaaDoor.HandFields
open Go Go.RowKit Go.Proofs.YtnhnlodmkbiiiaaDoorL Go.Proofs.YtnhnlodmkbiiiaaDoorW.PrintWords Go.Proofs.YtnhnlodmkbiiiaaDoorW.PrintLast Go.Proofs.YtnhnlodmkbiiiaaDoorW.PrintMore Go.Proofs.YtnhnlodmkbiiiaaDoor.PFieldsBase
attribute [local go_sem] max2_int min2_int max_two min_two max_three min_three max_four min_four
set_option linter.unusedVariables false
set_option linter.unusedSimpArgs false
/-- A number, off the head of some bytes. -/
def uvd : Nat → List Int → Option (Nat × List Int)
  | 0, _ => none
  | _ + 1, [] => none
  | k + 1, b :: l => if b < 128 then some (b.toNat, l) else (uvd k l).map (fun p => ((b - 128).toNat + 128 * p.1, p.2))
theorem uvd_uvF : ∀ (k v : Nat) (r : List Int), v < 128 ^ (k + 1) → uvd (k + 1) (uvF k v ++ r) = some (v, r)
  | 0, v, r, hv => by
    have : (v : Int) < 128 := by simp at hv; omega
    simp [uvF, uvd, this]
  | k + 1, v, r, hv => by
    unfold uvF
    by_cases h : v < 128
    · rw [if_pos h]
      have : (v : Int) < 128 := by omega
      simp [uvd, this]
    · rw [if_neg h, List.cons_append]
      unfold uvd
      rw [if_neg (by omega), uvd_uvF k (v / 128) r (by rw [Nat.div_lt_iff_lt_mul (by decide), ← Nat.pow_succ]; exact hv)]
      simp only [Option.map_some, Option.some.injEq, Prod.mk.injEq, and_true]
      omega
theorem uvd_uv (v : Nat) (r : List Int) (hv : v < 2 ^ 64) : uvd 11 (uv v ++ r) = some (v, r) := uvd_uvF 10 v r (Nat.lt_of_lt_of_le hv (by decide))
def dataD : List Int → Option (Option (List Int) × List Int)
  | 18 :: l => (uvd 11 l).map (fun p => (some (p.2.take p.1), p.2.drop p.1))
  | l => some (none, l)
def sizeD : List Int → Option (Option Nat × List Int)
  | 24 :: l => (uvd 11 l).map (fun p => (some p.1, p.2))
  | l => some (none, l)
def blkD : Nat → List Int → Option (List Int)
  | 0, _ => none
  | _ + 1, [] => some []
  | k + 1, 32 :: l => (uvd 11 l).bind (fun p => (blkD k p.2).map (fun bs => (p.1 : Int) :: bs))
  | _ + 1, _ => none
def datD : List Int → Option Dat
  | 8 :: l => (uvd 11 l).bind (fun p => (dataD p.2).bind (fun q => (sizeD q.2).bind (fun s => (blkD (s.2.length + 1) s.2).map (fun bs => ⟨p.1, q.1, s.1, bs⟩))))
  | _ => none
theorem blkD_32 (k : Nat) (l : List Int) : blkD (k + 1) (32 :: l) = (uvd 11 l).bind (fun p => (blkD k p.2).map (fun bs => (p.1 : Int) :: bs)) := by rw [blkD]
theorem datD_8 (l : List Int) : datD (8 :: l) = (uvd 11 l).bind (fun p => (dataD p.2).bind (fun q => (sizeD q.2).bind (fun s => (blkD (s.2.length + 1) s.2).map (fun bs => ⟨p.1, q.1, s.1, bs⟩)))) := by rw [datD]
theorem dataD_18 (l : List Int) : dataD (18 :: l) = (uvd 11 l).map (fun p => (some (p.2.take p.1), p.2.drop p.1)) := by rw [dataD]
theorem sizeD_24 (l : List Int) : sizeD (24 :: l) = (uvd 11 l).map (fun p => (some p.1, p.2)) := by rw [sizeD]
theorem dataD_no {l : List Int} (h : ∀ r, l ≠ 18 :: r) : dataD l = some (none, l) := by
  unfold dataD
  split
  · rename_i r; exact absurd rfl (h r)
  · rfl
theorem sizeD_no {l : List Int} (h : ∀ r, l ≠ 24 :: r) : sizeD l = some (none, l) := by
  unfold sizeD
  split
  · rename_i r; exact absurd rfl (h r)
  · rfl
theorem blkD_F : ∀ (bs : List Int) (k : Nat), (∀ x ∈ bs, 0 ≤ x ∧ x < 2 ^ 64) → (blkF bs).length < k → blkD k (blkF bs) = some bs
  | [], k, _, hk => by
    obtain ⟨k, rfl⟩ : ∃ m, k = m + 1 := ⟨k - 1, by omega⟩
    rfl
  | b :: bs, k, hb, hk => by
    obtain ⟨k, rfl⟩ : ∃ m, k = m + 1 := ⟨k - 1, by omega⟩
    have h0 := hb b (by simp)
    rw [blkF_cons] at hk ⊢
    simp only [List.length_cons, List.length_append] at hk
    rw [blkD_32, uvd_uv _ _ (by omega)]
    rw [Option.bind_some, blkD_F bs k (fun x hx => hb x (by simp [hx])) (by omega)]
    rw [Option.map_some, Int.toNat_of_nonneg h0.1]
theorem blkF_head (bs : List Int) (x : Int) (r : List Int) (h : blkF bs = x :: r) : x = 32 := by
  cases bs with
  | nil => cases h
  | cons b bs => rw [blkF_cons] at h; injection h with h1 _; exact h1.symm
theorem sizeF_head (s : Option Nat) (bs : List Int) (x : Int) (r : List Int) (h : sizeF s ++ blkF bs = x :: r) : x = 24 ∨ x = 32 := by
  cases s with
  | none => exact .inr (blkF_head bs x r h)
  | some n => injection h with h1 _; exact .inl h1.symm
theorem datD_marsh {d : Dat} (hf : Fit d) : datD (marsh d) = some d := by
  have e : marsh d = 8 :: (uv d.ty ++ (dataF d.data ++ (sizeF d.size ++ blkF d.blocks))) := rfl
  rw [e, datD_8, uvd_uv _ _ (by have := hf.ty; omega), Option.bind_some]
  have h1 : dataD (dataF d.data ++ (sizeF d.size ++ blkF d.blocks)) = some (d.data, sizeF d.size ++ blkF d.blocks) := by
    cases hd : d.data with
    | none => exact dataD_no (fun r h => by have := sizeF_head _ _ _ _ h; omega)
    | some xs =>
      show dataD (18 :: ((uv xs.length ++ xs) ++ (sizeF d.size ++ blkF d.blocks))) = _
      rw [dataD_18, List.append_assoc, uvd_uv _ _ (by have := hf.data xs hd; omega)]
      simp
  rw [h1, Option.bind_some]
  have h2 : sizeD (sizeF d.size ++ blkF d.blocks) = some (d.size, blkF d.blocks) := by
    cases hs : d.size with
    | none => exact sizeD_no (fun r h => by have := blkF_head _ _ _ h; omega)
    | some n =>
      show sizeD (24 :: (uv n ++ blkF d.blocks)) = _
      rw [sizeD_24, uvd_uv _ _ (hf.size n hs)]
      rfl
  rw [h2, Option.bind_some, blkD_F _ _ hf.blks (Nat.lt_succ_self _)]
  rfl
def fitB (d : Dat) : Bool := decide (d.ty < 1000) && (match d.data with | none => true | some xs => decide (xs.length ≤ 1000000)) && (match d.size with | none => true | some n => decide (n < 2 ^ 64)) && d.blocks.all (fun x => decide (0 ≤ x) && decide (x < 2 ^ 64)) && decide (d.blocks.length ≤ 1000000)
theorem fitB_iff (d : Dat) : fitB d = true ↔ Fit d := by
  unfold fitB
  simp only [Bool.and_eq_true, decide_eq_true_eq, List.all_eq_true]
  constructor
  · rintro ⟨⟨⟨⟨h1, h2⟩, h3⟩, h4⟩, h5⟩
    refine ⟨h1, fun xs hx => ?_, fun n hn => ?_, fun x hx => h4 x hx, h5⟩
    · rw [hx] at h2; simpa using h2
    · rw [hn] at h3; exact of_decide_eq_true h3
  · intro h
    refine ⟨⟨⟨⟨h.ty, ?_⟩, ?_⟩, fun x hx => h.blks x hx⟩, h.many⟩
    · cases hd : d.data with
      | none => rfl
      | some xs => simpa using h.data xs hd
    · cases hs : d.size with
      | none => rfl
      | some n => exact decide_eq_true (h.size n hs)
/-- The message of which these are the bytes. -/
def parse (l : List Int) : Option Dat := (datD l).bind (fun d => if marsh d = l ∧ fitB d = true then some d else none)
theorem parse_marsh {d : Dat} (hf : Fit d) : parse (marsh d) = some d := by
  unfold parse
  rw [datD_marsh hf, Option.bind_some, if_pos ⟨rfl, (fitB_iff d).2 hf⟩]
theorem parse_spec {l : List Int} {d : Dat} (h : parse l = some d) : marsh d = l ∧ Fit d := by
  unfold parse at h
  obtain ⟨d', _, h2⟩ := Option.bind_eq_some_iff.1 h
  split at h2
  · rename_i h3
    cases h2
    exact ⟨h3.1, (fitB_iff _).1 h3.2⟩
  · cases h2
section
variable {w : World} {g p1 : Nat} {d : Dat} {vD v3 vB : Value} {t : TypeId}
set_option maxHeartbeats 4000000 in
theorem GetData_calls (h : RdDat w g d p1 vD v3 vB t) : Calls Tryd.prog 103 #[.pointer (some ⟨g, 0, none⟩)] w fun e w' => e = .returned vD ∧ w' = w := by
  have hc1 := (blk_cell h.blk 1).trans rfl
  clear h
  go_enter Tryd.func103, Tryd.ntmps103
  go_wp2_with fail
  go_ret
  exact ⟨rfl, rfl⟩
set_option maxHeartbeats 4000000 in
theorem GetFilesize_some (h : RdDat w g d p1 vD v3 vB t) (m : Nat) (hm : d.size = some m) : Calls Tryd.prog 112 #[.pointer (some ⟨g, 0, none⟩)] w fun e w' => e = .returned (.int .u64 (m : Int)) ∧ w' = w := by
  obtain ⟨b, rfl, hb⟩ := h.size1 m hm
  have hc2 := (blk_cell h.blk 2).trans rfl
  clear h
  go_enter Tryd.func112, Tryd.ntmps112
  go_wp2_with fail
  go_ret
  exact ⟨rfl, rfl⟩
set_option maxHeartbeats 4000000 in
theorem GetType_calls (h : RdDat w g d p1 vD v3 vB t) : Calls Tryd.prog 123 #[.pointer (some ⟨g, 0, none⟩)] w fun e w' => e = .returned (.int .i32 (d.ty : Int)) ∧ w' = w := by
  have hc0 := (blk_cell h.blk 0).trans rfl
  have hct := h.ty
  clear h
  go_enter Tryd.func123, Tryd.ntmps123
  go_wp2_with fail
  go_ret
  exact ⟨rfl, rfl⟩
set_option maxHeartbeats 8000000 in
theorem Sized_02 (h : RdDat w g d p1 vD v3 vB t) (m : Nat) (hm : d.size = some m) (hk : d.ty = 0 ∨ d.ty = 2) : Calls Tryd.prog 104 #[.pointer (some ⟨g, 0, none⟩)] w fun e w' => e = .returned (.tuple #[.int .u64 (m : Int), .nilIface]) ∧ w' = w := by
  have RD := Aside0.mk h
  have HM := Aside0.mk hm
  obtain ⟨k, hkk⟩ : ∃ k, k = d.ty := ⟨_, rfl⟩
  have HK := Aside0.mk hkk
  rw [← hkk] at hk
  clear h hm hkk
  rcases hk with rfl | rfl
  all_goals
    go_enter Tryd.func104, Tryd.ntmps104
    go_wp2_with (first | (go_at_call 123; refine (GetType_calls RD.out).mono ?_; rintro e w1 ⟨rfl, hw⟩; rw [hw, ← HK.out]) | (go_at_call 112; refine (GetFilesize_some RD.out m HM.out).mono ?_; rintro e w1 ⟨rfl, hw⟩; rw [hw]))
    go_ret2
    exact ⟨rfl, rfl⟩
end
set_option maxHeartbeats 8000000 in
theorem DataSize_02 (w : World) (d : Dat) (hf : Fit d) (A : Option Addr) (n c : Nat) (hn : n = (marsh d).length) (hnc : n ≤ c) (hC : Kd.C (Kd.int .u8) w A n (marsh d)) (m : Nat) (hm : d.size = some m) (hk : d.ty = 0 ∨ d.ty = 2) :
    Calls Tryd.prog 66 #[.slice A n c] w fun e w' => e = .returned (.tuple #[.int .u64 (m : Int), .nilIface]) ∧ Below w.heap.size w w' := by
  have HM := Aside0.mk hm
  have HK := Aside0.mk hk
  have HN := Aside0.mk hn
  have HNC := Aside0.mk hnc
  have HC := Aside0.mk hC
  have FT := Aside0.mk hf
  clear hm hk hn hnc hC hf
  go_enter Tryd.func66, Tryd.ntmps66
  go_wp2_with (first | (go_at_call 102; with_reducible refine (Unm_calls w _ w.heap.size 163 d (blk_new w _) (Nat.le_refl _) (below_alloc (Below.refl _ _) _) FT.out A n c HN.out HNC.out (by rw [HN.out]; exact (marsh_len FT.out).2) HC.out).mono ?_; rintro e w1 ⟨rfl, hB, p1, c1, c2, c3, hR⟩; have HB := Aside0.mk hB; have HR := Aside0.mk hR; clear hB hR) | (go_at_call 104; refine (Sized_02 HR.out m HM.out HK.out).mono ?_; rintro e w2 ⟨rfl, hw⟩; rw [hw]))
  go_ret2
  exact ⟨rfl, HB.out⟩
set_option maxHeartbeats 8000000 in
theorem UnwrapData_calls (w : World) (d : Dat) (hf : Fit d) (A : Option Addr) (n c : Nat) (hn : n = (marsh d).length) (hnc : n ≤ c) (hC : Kd.C (Kd.int .u8) w A n (marsh d)) :
    Calls Tryd.prog 65 #[.slice A n c] w fun e w' => ∃ g p1 c1 c2 c3, e = .returned (.tuple #[c1, .nilIface]) ∧ Below w.heap.size w w' ∧ RdDat w' g d p1 c1 c2 c3 163 := by
  have HN := Aside0.mk hn
  have HNC := Aside0.mk hnc
  have HC := Aside0.mk hC
  have FT := Aside0.mk hf
  clear hn hnc hC hf
  go_enter Tryd.func65, Tryd.ntmps65
  go_wp2_with (first | (go_at_call 102; with_reducible refine (Unm_calls w _ w.heap.size 163 d (blk_new w _) (Nat.le_refl _) (below_alloc (Below.refl _ _) _) FT.out A n c HN.out HNC.out (by rw [HN.out]; exact (marsh_len FT.out).2) HC.out).mono ?_; rintro e w1 ⟨rfl, hB, p1, c1, c2, c3, hR⟩; have HB := Aside0.mk hB; have HR := Aside0.mk hR; clear hB hR) | (go_at_call 103; refine (GetData_calls HR.out).mono ?_; rintro e w2 ⟨rfl, hw⟩; rw [hw]))
  go_ret2
  exact ⟨_, _, _, _, _, rfl, HB.out, HR.out⟩
end Go.Proofs.YtnhnlodmkbiiiaaDoor.HandFields
