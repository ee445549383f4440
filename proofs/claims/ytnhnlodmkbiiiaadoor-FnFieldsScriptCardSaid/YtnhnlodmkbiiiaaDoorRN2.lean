/- What a message of unixfs tells: its type, its data, the size of its contents, the sizes of its parts. -/
import Derived.Test.YtnhnlodmkbiiiaaDoorRN1
namespace Go.Proofs.YtnhnlodmkbiiiaaDoor.HandFields
open Go Go.RowKit Go.Proofs.YtnhnlodmkbiiiaaDoorL Go.Proofs.YtnhnlodmkbiiiaaDoorW.PrintWords Go.Proofs.YtnhnlodmkbiiiaaDoorW.PrintLast Go.Proofs.YtnhnlodmkbiiiaaDoorW.PrintMore Go.Proofs.YtnhnlodmkbiiiaaDoor.PFieldsBase
attribute [local go_sem] max2_int min2_int max_two min_two max_three min_three max_four min_four
set_option linter.unusedVariables false
set_option linter.unusedSimpArgs false
/-- The size of the contents that a message tells. -/
def fsz (d : Dat) : Int := if d.ty = 0 ∨ d.ty = 2 then ((d.size.getD 0 : Nat) : Int) else if d.ty = 4 then (((d.data.getD []).length : Nat) : Int) else 0
section
variable {w : World} {g p1 : Nat} {d : Dat} {vD v3 vB : Value} {t : TypeId}
theorem RdDat.dataC (h : RdDat w g d p1 vD v3 vB t) : ∃ A c, vD = .slice A (d.data.getD []).length c ∧ (d.data.getD []).length ≤ c ∧ Kd.C (Kd.int .u8) w A (d.data.getD []).length (d.data.getD []) := by
 cases hd : d.data with
 | none => exact ⟨none, 0, h.data0 hd, Nat.le_refl _, Kd.C_nil _ _⟩
 | some xs => obtain ⟨A, c, e, hl, hc⟩ := h.data1 xs hd; exact ⟨_, c, e, hl, hc⟩
set_option maxHeartbeats 8000000 in
theorem Size_any (h : RdDat w g d p1 vD v3 vB t) (hf : Fit d) : Calls Tryd.prog 104 #[.pointer (some ⟨g, 0, none⟩)] w fun e w' => ∃ E, e = .returned (.tuple #[.int .u64 (fsz d), E]) ∧ Below w.heap.size w w' := by
 have RD := Aside0.mk h
 obtain ⟨A, c, rfl, hl, hC⟩ := h.dataC
 obtain ⟨m, hm⟩ : ∃ m : Nat, m = d.size.getD 0 := ⟨_, rfl⟩
 have HM := Aside0.mk hm
 obtain ⟨n, hn⟩ : ∃ n : Nat, n = (d.data.getD []).length := ⟨_, rfl⟩
 have hnb : IntKind.u64.wrap (n : Int) = (n : Int) := by
  have : n ≤ 1000000 := by
   rw [hn]; cases hd : d.data with
   | none => exact Nat.zero_le _
   | some xs => exact hf.data xs hd
  exact words_u64 _ (by omega) (by omega)
 have HN := Aside0.mk hn
 obtain ⟨k, hk⟩ : ∃ k, k = d.ty := ⟨_, rfl⟩
 have HK := Aside0.mk hk
 have hz : fsz d = if k = 0 ∨ k = 2 then (m : Int) else if k = 4 then (n : Int) else 0 := by unfold fsz; rw [← hk, ← hm, ← hn]
 have HZ := Aside0.mk hz
 rw [← hn]  at RD
 clear h hl hC hm hn hk hz
 by_cases h0 : k = 0 ∨ k = 2
 ·rcases h0 with rfl | rfl
  all_goals
   go_enter Tryd.func104, Tryd.ntmps104
   go_wp2_with (first | (go_at_call 123; refine (GetType_calls RD.out).mono ?_; rintro e w1 ⟨rfl, hw⟩; rw [hw, ← HK.out]) | (go_at_call 112; refine (GetFilesize_calls RD.out).mono ?_; rintro e w1 ⟨rfl, hw⟩; rw [hw, ← HM.out]))
   go_ret2
   exact ⟨_, by rw [HZ.out]; rfl, Below.refl _ _⟩
 by_cases h4 : k = 4
 ·subst h4
  clear h0
  go_enter Tryd.func104, Tryd.ntmps104
  go_wp2_with (first | (go_at_call 123; refine (GetType_calls RD.out).mono ?_; rintro e w1 ⟨rfl, hw⟩; rw [hw, ← HK.out]) | (go_at_call 103; refine (GetData_calls RD.out).mono ?_; rintro e w1 ⟨rfl, hw⟩; rw [hw]))
  go_ret2
  exact ⟨_, by rw [HZ.out]; rfl, Below.refl _ _⟩
 have HZ0 : Aside0 (fsz d = 0) := ⟨by rw [HZ.out, if_neg h0, if_neg h4]⟩
 have b0 : ((k : Int) == 0) = false := by simpa using fun h => h0 (.inl (by omega))
 have b2 : ((k : Int) == 2) = false := by simpa using fun h => h0 (.inr (by omega))
 have b4 : ((k : Int) == 4) = false := by simpa using fun h => h4 (by omega)
 clear h0 h4
 by_cases h1 : k = 1
 ·subst h1
  go_enter Tryd.func104, Tryd.ntmps104
  go_wp2_with (first | (go_at_call 123; refine (GetType_calls RD.out).mono ?_; rintro e w1 ⟨rfl, hw⟩; rw [hw, ← HK.out]) | (go_at_call 91; refine (errors_New.calls _ _ _ rfl).mono ?_; rintro e w2 ⟨T, X, rfl, hb⟩; have HB := Aside0.mk hb; clear hb))
  go_ret2
  exact ⟨_, by rw [HZ0.out]; rfl, HB.out⟩
 have b1 : ((k : Int) == 1) = false := by simpa using fun h => h1 (by omega)
 clear h1
 by_cases h5 : k = 5
 ·subst h5
  go_enter Tryd.func104, Tryd.ntmps104
  go_wp2_with (first | (go_at_call 123; refine (GetType_calls RD.out).mono ?_; rintro e w1 ⟨rfl, hw⟩; rw [hw, ← HK.out]) | (go_at_call 91; refine (errors_New.calls _ _ _ rfl).mono ?_; rintro e w2 ⟨T, X, rfl, hb⟩; have HB := Aside0.mk hb; clear hb))
  go_ret2
  exact ⟨_, by rw [HZ0.out]; rfl, HB.out⟩
 have b5 : ((k : Int) == 5) = false := by simpa using fun h => h5 (by omega)
 clear h5
 go_enter Tryd.func104, Tryd.ntmps104
 go_wp2_with (first | (go_at_call 123; refine (GetType_calls RD.out).mono ?_; rintro e w1 ⟨rfl, hw⟩; rw [hw, ← HK.out]) | (go_at_call 91; refine (errors_New.calls _ _ _ rfl).mono ?_; rintro e w2 ⟨T, X, rfl, hb⟩; have HB := Aside0.mk hb; clear hb))
 go_ret2
 exact ⟨_, by rw [HZ0.out]; rfl, HB.out⟩
set_option maxHeartbeats 4000000 in
theorem GetBlk_calls (h : RdDat w g d p1 vD v3 vB t) : Calls Tryd.prog 124 #[.pointer (some ⟨g, 0, none⟩)] w fun e w' => e = .returned vB ∧ w' = w := by
 have hc3 := (blk_cell h.blk 3).trans rfl
 clear h
 go_enter Tryd.func124, Tryd.ntmps124
 go_wp2_with fail
 go_ret
 exact ⟨rfl, rfl⟩
set_option maxHeartbeats 4000000 in
theorem GetHash_calls (h : RdDat w g d p1 vD v3 vB t) : Calls Tryd.prog 125 #[.pointer (some ⟨g, 0, none⟩)] w fun e w' => e = .returned (.int .u64 0) ∧ w' = w := by
 have hc4 := (blk_cell h.blk 4).trans rfl
 clear h
 go_enter Tryd.func125, Tryd.ntmps125
 go_wp2_with fail
 go_ret
 exact ⟨rfl, rfl⟩
set_option maxHeartbeats 4000000 in
theorem GetFan_calls (h : RdDat w g d p1 vD v3 vB t) : Calls Tryd.prog 126 #[.pointer (some ⟨g, 0, none⟩)] w fun e w' => e = .returned (.int .u64 0) ∧ w' = w := by
 have hc5 := (blk_cell h.blk 5).trans rfl
 clear h
 go_enter Tryd.func126, Tryd.ntmps126
 go_wp2_with fail
 go_ret
 exact ⟨rfl, rfl⟩
set_option maxHeartbeats 4000000 in
theorem Fs106_calls (h : RdDat w g d p1 vD v3 vB t) : Calls Tryd.prog 106 #[.pointer (some ⟨g, 0, none⟩)] w fun e w' => e = .returned (.int .i32 (d.ty : Int)) ∧ w' = w := by
 have RD := Aside0.mk h
 clear h
 go_enter Tryd.func106, Tryd.ntmps106
 go_wp2_with (go_at_call 123; refine (GetType_calls RD.out).mono ?_; rintro e w1 ⟨rfl, hw⟩; rw [hw]; clear hw)
 go_ret
 exact ⟨rfl, rfl⟩
set_option maxHeartbeats 4000000 in
theorem Fs109_calls (h : RdDat w g d p1 vD v3 vB t) : Calls Tryd.prog 109 #[.pointer (some ⟨g, 0, none⟩)] w fun e w' => e = .returned vB ∧ w' = w := by
 have RD := Aside0.mk h
 clear h
 go_enter Tryd.func109, Tryd.ntmps109
 go_wp2_with (go_at_call 124; refine (GetBlk_calls RD.out).mono ?_; rintro e w1 ⟨rfl, hw⟩; rw [hw]; clear hw)
 go_ret
 exact ⟨rfl, rfl⟩
set_option maxHeartbeats 4000000 in
theorem Fs110_calls (h : RdDat w g d p1 vD v3 vB t) : Calls Tryd.prog 110 #[.pointer (some ⟨g, 0, none⟩)] w fun e w' => e = .returned (.int .u64 0) ∧ w' = w := by
 have RD := Aside0.mk h
 clear h
 go_enter Tryd.func110, Tryd.ntmps110
 go_wp2_with (go_at_call 125; refine (GetHash_calls RD.out).mono ?_; rintro e w1 ⟨rfl, hw⟩; rw [hw]; clear hw)
 go_ret
 exact ⟨rfl, rfl⟩
set_option maxHeartbeats 4000000 in
theorem Fs111_calls (h : RdDat w g d p1 vD v3 vB t) : Calls Tryd.prog 111 #[.pointer (some ⟨g, 0, none⟩)] w fun e w' => e = .returned (.int .u64 0) ∧ w' = w := by
 have RD := Aside0.mk h
 clear h
 go_enter Tryd.func111, Tryd.ntmps111
 go_wp2_with (go_at_call 126; refine (GetFan_calls RD.out).mono ?_; rintro e w1 ⟨rfl, hw⟩; rw [hw]; clear hw)
 go_ret
 exact ⟨rfl, rfl⟩
set_option maxHeartbeats 4000000 in
theorem Fs105_calls (h : RdDat w g d p1 vD v3 vB t) : Calls Tryd.prog 105 #[.pointer (some ⟨g, 0, none⟩)] w fun e w' => e = .returned vD ∧ w' = w := by
 have RD := Aside0.mk h
 clear h
 go_enter Tryd.func105, Tryd.ntmps105
 go_wp2_with (go_at_call 103; refine (GetData_calls RD.out).mono ?_; rintro e w1 ⟨rfl, hw⟩; rw [hw]; clear hw)
 go_ret
 exact ⟨rfl, rfl⟩
set_option maxHeartbeats 4000000 in
theorem Fs107_calls (h : RdDat w g d p1 vD v3 vB t) (hf : Fit d) : Calls Tryd.prog 107 #[.pointer (some ⟨g, 0, none⟩)] w fun e w' => e = .returned (.int .u64 (fsz d)) ∧ Below w.heap.size w w' := by
 have RD := Aside0.mk h
 have FT := Aside0.mk hf
 clear h hf
 go_enter Tryd.func107, Tryd.ntmps107
 go_wp2_with (go_at_call 104; refine (Size_any RD.out FT.out).mono ?_; rintro e w1 ⟨E, rfl, hB⟩; have HB := Aside0.mk hB; clear hB)
 go_ret
 exact ⟨rfl, HB.out⟩
end
/-- A copy of a slice, nil or not. -/
def Clone64.f (l0 : List Int) : Option (List Int) := if l0.length * 8 ≤ 140737488351232 then some l0 else none
theorem Clone64.infoE : (Tryd.prog.info? 24).map (fun i => (i.zero, i.size, i.bytes)) = some (some (.int .u64 0), 1, 8) := by kernel_rfl
set_option maxHeartbeats 2000000 in
set_option maxRecDepth 100000 in
theorem Clone64.calls (A0 : Option Addr) (c0 : Nat) (l0 : List Int) (r : List Int) (w : World) (hr0 : Kd.C (Kd.int .u64) w A0 l0.length l0) (hc0 : l0.length ≤ c0) (h : Clone64.f l0 = some r) :
  Calls Tryd.prog 108 #[.slice A0 l0.length c0] w fun e w' => ∃ v0_ : Value, e = .returned (v0_) ∧ Kd.R (Kd.int .u64) 24 w' w.heap.size (fun _ => True) v0_ r ∧ Below w.heap.size w w' := by
 unfold Clone64.f at h
 by_cases hl : l0.length * 8 ≤ 140737488351232
 case neg => rw [if_neg hl] at h; exact absurd h (by simp)
 rw [if_pos hl] at h
 obtain rfl := Option.some.inj h
 clear h
 have qs : ∀ (w : World) (a : Option Addr) (n c n' c' : Nat), (binOp .eql 50 (.slice a n c) (.slice none n' c')).run Tryd.prog w = .ok (.bool a.isNone) w := fun w a n c n' c' => Lib.run_eql_slice_nil w _ _ a n c n' c' Tryd.underlying50
 have HB := Aside0.mk (Below.refl w.heap.size w)
 have HR0 := Aside0.mk hr0
 have HL := Aside0.mk hl
 clear hr0 hl hc0
 cases A0 with
 | none =>
  have e0 : l0 = [] := by
   have h1 := HR0.out
   rcases Nat.eq_zero_or_pos l0.length with h0 | h0
   ·exact List.eq_nil_of_length_eq_zero h0
   ·obtain ⟨ad, e, _⟩ := h1.2.2 h0
    exact absurd e (by simp)
  subst e0
  clear HR0 HL
  go_enter Tryd.func108, Tryd.ntmps108
  go_wp2
  go_ret
  exact ⟨_, rfl, Kd.R_nil _ _ _ _ _, HB.out⟩
 | some a =>
  have e5 : 0 ≤ 5 := by decide
  obtain ⟨i0, hi, hz0, hz1, hz2⟩ := info_parts Clone64.infoE
  have z5 : ∀ w, Sem.run Tryd.prog (Go.sizeOf 24) w = .ok 1 w := fun w => by simp [Go.sizeOf, typeInfo, hi, hz1]
  clear e5 hi hz0 hz1 hz2
  go_enter Tryd.func108, Tryd.ntmps108
  go_wp2_with (at_builtin; refine Kd.R_append_rows (Kd.int .u64) (Rr := fun x cs => cs = [Value.int .u64 x]) (w0 := w) w.heap.size rfl (.tmp 5) (.tmp 6) 50 24 (.int .u64 0) 8 rfl Tryd.underlying50 Clone64.infoE rfl (by decide) (by decide) _ [] l0 (some a) l0.length c0 (fun _ => True) (fun _ => False) rfl rfl ?aO ?aR ?aM (fun _ hk => hk.elim) (fun _ _ => trivial) ?aB ?aS ?aL ?_)
  case aO => exact Kd.R_of_own (xs := ([] : List Int)) (World.ownsRow_made w #[] 0 (Nat.le_refl _) (Nat.zero_le _) rfl) (fun _ _ => trivial)
  case aR => exact Kd.C_alloc HR0.out _
  case aM => exact fun x cs hx => hx
  case aB => exact below_alloc HB.out _
  case aS => exact below_size (below_alloc HB.out _)
  case aL => have := HL.out; simp only [List.length_nil]; omega
  intro v1 w1 hR hb hg hat
  have HR1 := Aside0.mk hR
  have HB1 := Aside0.mk hb
  clear hR hb hg hat
  go_wp2
  go_ret
  exact ⟨_, rfl, HR1.out, HB1.out⟩
end Go.Proofs.YtnhnlodmkbiiiaaDoor.HandFields
