/- The functions of the package impl over messages of unixfs, by what they hand back. -/
import Derived.Test.YtnhnlodmkbiiiaaDoorRH0
namespace Go.Proofs.YtnhnlodmkbiiiaaDoor.HandFields
open Go Go.RowKit Go.Proofs.YtnhnlodmkbiiiaaDoorL Go.Proofs.YtnhnlodmkbiiiaaDoorW.PrintWords Go.Proofs.YtnhnlodmkbiiiaaDoorW.PrintLast Go.Proofs.YtnhnlodmkbiiiaaDoorW.PrintMore Go.Proofs.YtnhnlodmkbiiiaaDoor.PFieldsBase
attribute [local go_sem] max2_int min2_int max_two min_two max_three min_three max_four min_four
set_option linter.unusedVariables false
set_option linter.unusedSimpArgs false
theorem R_any {W : World} {base base' : Nat} {ok : Nat → Prop} {v : Value} {xs : List Int} (h : Kd.R (Kd.int .u8) 5 W base ok v xs) (hb : base' ≤ base) : Kd.R (Kd.int .u8) 5 W base' (fun _ => True) v xs := Kd.R_mono (R_low h hb) (fun _ _ => trivial)
theorem made_some {W : World} {e base : Nat} {ok : Nat → Prop} {v v0 : Value} {l : List Int} (h : Kd.R (Kd.int .u8) e W base ok v l) (h0 : v0.ownBlock ≠ none) (hat : v.ownBlock = v0.ownBlock ∨ ∃ b, v.ownBlock = some b ∧ base ≤ b) : ∃ A c, v = .slice (some A) l.length c ∧ l.length ≤ c ∧ Kd.C (Kd.int .u8) W (some A) l.length l := by
 obtain ⟨A, c, rfl⟩ := Kd.R_slice h
 have hr := Kd.R_reads' h
 cases A with
 | some a => exact ⟨a, c, rfl, hr.2.1, hr.2.2⟩
 | none =>
  rcases hat with hat | ⟨b, hb, _⟩
  ·exact absurd hat.symm h0
  ·cases hb
theorem infoE5 : (Tryd.prog.info? 5).map (fun i => (i.zero, i.size, i.bytes)) = some (some (.int .u8 0), 1, 1) := by kernel_rfl
set_option maxHeartbeats 8000000 in
theorem impl_FolderData (w : World) : Calls Tryd.prog 63 #[] w fun e w' => ∃ v0_ : Value, e = .returned (v0_) ∧ Kd.R (Kd.int .u8) 5 w' w.heap.size (fun _ => True) v0_ [8, 1] ∧ Below w.heap.size w w' := by
 go_enter Tryd.func63, Tryd.ntmps63
 go_wp2_with (go_at_call 99; refine (Folder_calls w).mono ?_; rintro e w1 ⟨gb, cap, rfl, hR, hB⟩; have HR := Aside0.mk hR; have HB := Aside0.mk hB; clear hR hB)
 go_ret
 exact ⟨_, rfl, R_any HR.out (Nat.le_refl _), HB.out⟩
set_option maxHeartbeats 8000000 in
theorem impl_FileData (w : World) (A0 : Option Addr) (c0 : Nat) (l0 : List Int) (m : Nat) (hr0 : Kd.C (Kd.int .u8) w A0 l0.length l0) (hc0 : l0.length ≤ c0) (hl : l0.length ≤ 1000000) (hm : m < 2 ^ 64) :
  Calls Tryd.prog 62 #[.bool true, .slice A0 l0.length c0, .int .u64 (m : Int)] w fun e w' => ∃ v0_ : Value, e = .returned (v0_) ∧ Kd.R (Kd.int .u8) 5 w' w.heap.size (fun _ => True) v0_ (marsh ⟨2, some l0, some m, []⟩) ∧ Below w.heap.size w w' := by
 have HR0 := Aside0.mk hr0
 have HL := Aside0.mk hl
 have HM := Aside0.mk hm
 have HB := Aside0.mk (Below.refl w.heap.size w)
 clear hr0 hl hc0 hm
 go_enter Tryd.func62, Tryd.ntmps62
 go_wp2_with (first | (at_builtin; refine Kd.R_append_rows (Kd.int .u8) (Rr := fun x cs => cs = [Value.int .u8 x]) (w0 := w) w.heap.size rfl (.tmp 11) (.tmp 12) 22 5 (.int .u8 0) 1 rfl Tryd.underlying22 infoE5 rfl (by decide) (by decide) (.slice (some ⟨w.heap.size, 0, none⟩) ([] : List Int).length 0) [] l0 A0 l0.length c0 (fun _ => True) (fun _ => False) rfl rfl (Kd.R_of_own (xs := ([] : List Int)) (World.ownsRow_made w #[] 0 (Nat.le_refl _) (Nat.zero_le _) rfl) (fun _ _ => trivial)) (Kd.C_alloc HR0.out _) (fun x cs hx => hx) (fun _ hk => hk.elim) (fun _ _ => trivial) (below_alloc HB.out _) (below_size (below_alloc HB.out _)) (by have := HL.out; simp only [List.length_nil]; omega) ?_; intro v1 w1 hR hb hg hat; rw [List.nil_append] at hR; obtain ⟨A1, c1, rfl, hn1, hC1⟩ := made_some hR (by simp [Value.ownBlock]) (hat.imp_right (fun ⟨b, h1, h2⟩ => ⟨b, h1, Nat.le_trans (by simp) h2⟩)); have HN1 := Aside0.mk hn1; have HC1 := Aside0.mk hC1; have HB1 := Aside0.mk hb; clear hR hb hg hat hn1 hC1) | (go_at_call 98; refine (File_calls _ A1 l0.length c1 m l0 rfl HN1.out HC1.out HL.out HM.out).mono ?_; rintro e w2 ⟨gb, cap, rfl, hR, hB⟩; have HR := Aside0.mk hR; have HB2 := Aside0.mk hB; clear hR hB))
 go_ret
 exact ⟨_, rfl, R_any HR.out HB1.out.size, below_step HB1.out HB2.out⟩
set_option maxHeartbeats 8000000 in
theorem impl_DataSize (w : World) (A0 : Option Addr) (c0 : Nat) (d : Dat) (hf : Fit d) (m : Nat) (hm : d.size = some m) (hk : d.ty = 0 ∨ d.ty = 2) (hr0 : Kd.C (Kd.int .u8) w A0 (marsh d).length (marsh d)) (hc0 : (marsh d).length ≤ c0) :
  Calls Tryd.prog 28 #[.slice A0 (marsh d).length c0] w fun e w' => e = .returned (.tuple #[.int .u64 (m : Int), .bool true]) ∧ Below w.heap.size w w' := by
 have HR0 := Aside0.mk hr0
 have HC0 := Aside0.mk hc0
 have HM := Aside0.mk hm
 have HK := Aside0.mk hk
 have FT := Aside0.mk hf
 have hcl : bytes_Clone.f (marsh d) = some (marsh d) := by unfold bytes_Clone.f; rw [if_pos (by have := (marsh_len hf).2; omega)]
 have HCL := Aside0.mk hcl
 clear hr0 hc0 hm hk hf hcl
 go_enter Tryd.func28, Tryd.ntmps28
 go_wp2_with (first | (go_at_call 51; refine (bytes_Clone.calls A0 c0 (marsh d) (marsh d) w HR0.out HC0.out HCL.out).mono ?_; rintro e w1 ⟨v1, rfl, hR, hB⟩; obtain ⟨A1, c1, rfl⟩ := Kd.R_slice hR; have HR1 := Aside0.mk (Kd.R_reads' hR); have HB1 := Aside0.mk hB; clear hR hB) | (go_at_call 66; refine (DataSize_02 _ d FT.out A1 (marsh d).length c1 rfl HR1.out.2.1 HR1.out.2.2 m HM.out HK.out).mono ?_; rintro e w2 ⟨rfl, hB⟩; have HB2 := Aside0.mk hB; clear hB))
 go_quiet (fail)
 go_wp2
 go_ret2
 exact ⟨rfl, by first | exact below_step HB1.out HB2.out | exact pw_below_drewN (below_step HB1.out HB2.out) _⟩
end Go.Proofs.YtnhnlodmkbiiiaaDoor.HandFields
