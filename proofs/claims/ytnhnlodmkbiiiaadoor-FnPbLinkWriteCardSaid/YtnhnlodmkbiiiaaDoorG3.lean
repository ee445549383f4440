/- What bytes tell as a link of merkledag: the function of the package impl, by what it hands back. -/
import Derived.Test.YtnhnlodmkbiiiaaDoorG2
namespace Go.Proofs.YtnhnlodmkbiiiaaDoor.HandFields
open Go Go.RowKit Go.Proofs.YtnhnlodmkbiiiaaDoorL Go.Proofs.YtnhnlodmkbiiiaaDoorW.PrintWords Go.Proofs.YtnhnlodmkbiiiaaDoorW.PrintLast Go.Proofs.YtnhnlodmkbiiiaaDoorW.PrintMore Go.Proofs.YtnhnlodmkbiiiaaDoor.PFieldsBase
attribute [local go_sem] max2_int min2_int max_two min_two max_three min_three max_four min_four
set_option linter.unusedVariables false
set_option linter.unusedSimpArgs false
/-- What a call to decode a link hands back. -/
def DecPost (w : World) : Option Lnk → Ending → World → Prop
  | none, e, w' => e = .returned (.tuple #[.agg #[.bool false, .bool false, .bool false, .slice none 0 0, .string ⟨#[]⟩, .int .u64 0], .bool false]) ∧ Below w.heap.size w w'
  | some s, e, w' => ∃ v3, e = .returned (.tuple #[.agg #[.bool s.hash.isSome, .bool s.name.isSome, .bool s.ts.isSome, v3, .string (strOfNums (s.name.getD [])), .int .u64 ((s.ts.getD 0 : Nat) : Int)], .bool true]) ∧ Kd.R (Kd.int .u8) 5 w' w.heap.size (fun _ => True) v3 (s.hash.getD []) ∧ Below w.heap.size w w'
theorem rdv_len : ∀ (k : Nat) (l : List Int) (v : Nat) (r : List Int), rdv k l = some (some (v, r)) → r.length ≤ l.length
  | 0, l, v, r, h => by simp [rdv] at h
  | k + 1, [], v, r, h => by simp [rdv] at h
  | k + 1, b :: l, v, r, h => by
    unfold rdv at h
    by_cases h1 : b < 128
    · rw [if_pos h1] at h
      have := Option.some.inj (Option.some.inj h)
      injection this with h2 h3
      subst h3
      simp
    · rw [if_neg h1] at h
      obtain ⟨q, hq, h2⟩ := Option.map_eq_some_iff.1 h
      obtain ⟨p, hp, h3⟩ := Option.map_eq_some_iff.1 h2
      subst hp
      obtain ⟨v', r'⟩ := p
      have ih := rdv_len k l v' r' hq
      injection h3 with h4 h5
      subst h5
      exact Nat.le_trans ih (by simp)
/-- The hash of a link is no longer than the bytes. -/
theorem umL_hash : ∀ (k : Nat) (l : List Int) (s t : Lnk), umL k l s = some (some t) → ∀ xs, t.hash = some xs → s.hash = some xs ∨ xs.length ≤ l.length
  | 0, l, s, t, h, xs, hx => by simp [umL] at h
  | k + 1, l, s, t, h, xs, hx => by
    rcases umL_step h with ⟨_, h1⟩ | ⟨_, R, hR, h1⟩
    · cases h1; exact .inl hx
    rcases h1 with ⟨_, h1⟩ | ⟨key, l1, rfl, h1⟩
    · cases h1
    have e1 := rdv_len _ _ _ _ hR
    rcases h1 with ⟨_, h1⟩ | ⟨_, h1⟩ | ⟨_, h1⟩ | ⟨_, h1⟩
    · obtain ⟨R2, hR2, h2⟩ := lenR_step h1
      rcases h2 with ⟨_, h2⟩ | ⟨n, l2, rfl, h2⟩
      · cases h2
      have e2 := rdv_len _ _ _ _ hR2
      rcases h2 with ⟨_, h2⟩ | ⟨_, h2⟩
      · rcases umL_hash k _ _ _ h2 xs hx with h3 | h3
        · cases h3; right; rw [List.length_take]; omega
        · right; rw [List.length_drop] at h3; omega
      · cases h2
    · obtain ⟨R2, hR2, h2⟩ := lenR_step h1
      rcases h2 with ⟨_, h2⟩ | ⟨n, l2, rfl, h2⟩
      · cases h2
      have e2 := rdv_len _ _ _ _ hR2
      rcases h2 with ⟨_, h2⟩ | ⟨_, h2⟩
      · rcases umL_hash k _ _ _ h2 xs hx with h3 | h3
        · exact .inl h3
        · right; rw [List.length_drop] at h3; omega
      · cases h2
    · obtain ⟨R2, hR2, h2⟩ := numR_step h1
      rcases h2 with ⟨_, h2⟩ | ⟨n, l2, rfl, _, h2⟩
      · cases h2
      have e2 := rdv_len _ _ _ _ hR2
      rcases umL_hash k _ _ _ h2 xs hx with h3 | h3
      · exact .inl h3
      · right; omega
    · cases h1
theorem R_far {W : World} {e base : Nat} {ok : Nat → Prop} {A : Option Addr} {n c : Nat} {xs : List Int} (h : Kd.R (Kd.int .u8) e W base ok (.slice A n c) xs) : ∀ ad, A = some ad → base ≤ ad.block := by
  intro ad he
  subst he
  obtain ⟨_, inner, hown, _⟩ := h
  rcases hown.2 with ⟨e, _⟩ | ⟨g', c', cur, e, hge, _⟩
  · cases e
  · injection e with e1 _ _
    injection e1 with e1
    subst e1
    exact hge
/-- A new link, beside bytes that lie in blocks of their own. -/
theorem Lm.new {A : Option Addr} {c : Nat} {l : List Int} {ok : Nat → Prop} {w0 W : World} (hB : Below (w0.alloc (.cells #[.slice none 0 0, .pointer none, .pointer none, .slice none 0 0, .int .i32 0] 96)).heap.size (w0.alloc (.cells #[.slice none 0 0, .pointer none, .pointer none, .slice none 0 0, .int .i32 0] 96)) W) (hR : Kd.R (Kd.int .u8) 5 W (w0.alloc (.cells #[.slice none 0 0, .pointer none, .pointer none, .slice none 0 0, .int .i32 0] 96)).heap.size ok (.slice A l.length c) l) : Lm A l.length l w0 W w0.heap.size ⟨none, none, none⟩ (.slice none 0 0) (.pointer none) (.pointer none) := by
  have h1 := R_far hR
  rw [size_alloc] at h1
  exact ⟨(Kd.R_reads' hR).2.2, fun ad e _ => by have := h1 ad e; omega, (hB.block _ (by rw [size_alloc]; omega)).trans (blk_new w0 _), Nat.le_refl _, below_then (below_alloc (Below.refl _ _) _) (by rw [size_alloc]; omega) hB, fun _ => rfl, fun _ h => (by cases h), fun _ => rfl, fun _ h => (by cases h), fun _ => rfl, fun _ h => (by cases h)⟩
set_option maxHeartbeats 8000000 in
theorem Decoded_calls (w : World) (hge : GE w) (A0 : Option Addr) (c0 : Nat) (l : List Int) (hbx : ∀ x ∈ l, 0 ≤ x ∧ x ≤ 255) (hl : l.length ≤ 1000000) (hr0 : Kd.C (Kd.int .u8) w A0 l.length l) (hc0 : l.length ≤ c0) (kf : Nat) (RT : Option Lnk) (hR : umL kf l ⟨none, none, none⟩ = some RT) :
    Calls Tryd.prog 13 #[.slice A0 l.length c0] w (DecPost w RT) := by
  have HGE := Aside0.mk (hge.below (below_alloc (Below.refl w.heap.size w) (.cells #[.bool false, .bool false, .bool false, .slice none 0 0, .string ⟨#[]⟩, .int .u64 0] 27)))
  have HR0 := Aside0.mk hr0
  have HC0 := Aside0.mk hc0
  have HL := Aside0.mk hl
  have HBX := Aside0.mk hbx
  have HRT := Aside0.mk hR
  have HF : Aside0 (∀ t, RT = some t → ∀ xs, t.hash = some xs → xs.length ≤ 1000000) := ⟨fun t ht xs hx => by subst ht; rcases umL_hash _ _ _ _ hR xs hx with h | h; (cases h); exact Nat.le_trans h hl⟩
  have hcl : bytes_Clone.f l = some l := by unfold bytes_Clone.f; rw [if_pos (by omega)]
  have HCL := Aside0.mk hcl
  have hb0 := below_alloc (Below.refl w.heap.size w) (.cells #[.bool false, .bool false, .bool false, .slice none 0 0, .string ⟨#[]⟩, .int .u64 0] 27)
  have hg0 := (blk_new w (.cells #[.bool false, .bool false, .bool false, .slice none 0 0, .string ⟨#[]⟩, .int .u64 0] 27))
  have HB0 := Aside0.mk hb0
  have HG0 := Aside0.mk hg0
  clear hge hr0 hc0 hl hbx hR hcl hb0 hg0
  cases RT with
  | none =>
    go_enter Tryd.func13, Tryd.ntmps13
    go_wp2_with (first
      | (go_at_call 51; refine (bytes_Clone.calls A0 c0 l l _ (Kd.C_alloc (Kd.C_alloc HR0.out _) _) HC0.out HCL.out).mono ?_; rintro e w1 ⟨v1, rfl, hR, hB⟩; obtain ⟨A1, c1, rfl⟩ := Kd.R_slice hR; have HLM := Aside0.mk (Lm.new hB hR); have HN1 := Aside0.mk (Kd.R_reads' hR).2.1; have hum := UmLink _ _ _ l HBX.out A1 l.length c1 HLM.out HGE.out rfl HN1.out (by have := HL.out; omega) kf _ HRT.out; rw [size_alloc] at hum; have HUM := Aside0.mk hum; clear hR hB hum)
      | (go_at_call 50; refine HUM.out.mono ?_; rintro e w2 ⟨⟨T2, X2, rfl⟩, hB⟩; have HB2 := Aside0.mk hB; have hg2 := (hB.block _ (blk_lt HG0.out)).trans HG0.out; have HG2 := Aside0.mk hg2; have hq0 := (blk_cell hg2 0).trans rfl; have hq1 := (blk_cell hg2 1).trans rfl; have hq2 := (blk_cell hg2 2).trans rfl; have hq3 := (blk_cell hg2 3).trans rfl; have hq4 := (blk_cell hg2 4).trans rfl; have hq5 := (blk_cell hg2 5).trans rfl; have hqf := blk_frozen hg2; clear hB hg2))
    have HB5 := below_step HB0.out HB2.out
    have hb5 := set6_blk HG2.out (.bool false) (.bool false) (.bool false) (.slice none 0 0) (.string ⟨#[]⟩) (.int .u64 0)
    refine bodyPost_ret (results_ct rfl _ _ w.heap.size 27 #[.bool false, .bool false, .bool false, .slice none 0 0, .string ⟨#[]⟩, .int .u64 0] (0, 0) _ rfl hb5 Tryd.underlying27 rfl (by kernel_rfl)) rfl ?_
    exact ⟨rfl, set6_below HB5 (Nat.le_refl _) _ _ _ _ _ _⟩
  | some t =>
    go_enter Tryd.func13, Tryd.ntmps13
    go_wp2_with (first
      | (go_at_call 51; refine (bytes_Clone.calls A0 c0 l l _ (Kd.C_alloc (Kd.C_alloc HR0.out _) _) HC0.out HCL.out).mono ?_; rintro e w1 ⟨v1, rfl, hR, hB⟩; obtain ⟨A1, c1, rfl⟩ := Kd.R_slice hR; have HLM := Aside0.mk (Lm.new hB hR); have HN1 := Aside0.mk (Kd.R_reads' hR).2.1; have hum := UmLink _ _ _ l HBX.out A1 l.length c1 HLM.out HGE.out rfl HN1.out (by have := HL.out; omega) kf _ HRT.out; rw [size_alloc] at hum; have HUM := Aside0.mk hum; clear hR hB hum)
      | (go_at_call 50; refine HUM.out.mono ?_; rintro e w2 ⟨rfl, hB, Ai, ni, xi, k0, k1, k2, hL⟩; have HL2 := Aside0.mk hL.rd; have HB2 := Aside0.mk hB; clear hB hL)
      | (go_at_call 52; refine (plainPb_calls HL2.out (HF.out t rfl)).mono ?_; rintro e w3 ⟨v3, rfl, hR, hB⟩; obtain ⟨A3, c3, rfl⟩ := Kd.R_slice hR; have HR3 := Aside0.mk hR; have HB3 := Aside0.mk (below_then HB2.out HB2.out.size hB); have hg2 := (HB3.out.block _ (blk_lt HG0.out)).trans HG0.out; have HG2 := Aside0.mk hg2; have hq0 := (blk_cell hg2 0).trans rfl; have hq1 := (blk_cell hg2 1).trans rfl; have hq2 := (blk_cell hg2 2).trans rfl; have hq3 := (blk_cell hg2 3).trans rfl; have hq4 := (blk_cell hg2 4).trans rfl; have hq5 := (blk_cell hg2 5).trans rfl; have hqf := blk_frozen hg2; clear hB hR hg2))
    have HB5 := below_step HB0.out HB3.out
    have hz := HB2.out.size
    rw [size_alloc] at hz
    have hb5 := set6_blk HG2.out (.bool t.hash.isSome) (.bool t.name.isSome) (.bool t.ts.isSome) (.slice A3 (t.hash.getD []).length c3) (.string (strOfNums (t.name.getD []))) (.int .u64 ((t.ts.getD 0 : Nat) : Int))
    refine bodyPost_ret (results_ct rfl _ _ w.heap.size 27 #[.bool t.hash.isSome, .bool t.name.isSome, .bool t.ts.isSome, .slice A3 (t.hash.getD []).length c3, .string (strOfNums (t.name.getD [])), .int .u64 ((t.ts.getD 0 : Nat) : Int)] (0, 0) _ rfl hb5 Tryd.underlying27 rfl (by kernel_rfl)) rfl ?_
    exact ⟨_, rfl, R_lowI (set6_row HR3.out (by omega) _ _ _ _ _ _) (by omega), set6_below HB5 (Nat.le_refl _) _ _ _ _ _ _⟩
end Go.Proofs.YtnhnlodmkbiiiaaDoor.HandFields
