/- impl.DiffsMerged. -/
import Derived.Test.YtnhnlodmkbiiiaaDoorD10
namespace Go.Proofs.YtnhnlodmkbiiiaaDoor.HandDif
open Go Go.RowKit Go.Proofs.YtnhnlodmkbiiiaaDoorL Go.Proofs.YtnhnlodmkbiiiaaDoorW.PrintWords Go.Proofs.YtnhnlodmkbiiiaaDoorW.PrintLast Go.Proofs.YtnhnlodmkbiiiaaDoorW.PrintMore Go.Proofs.YtnhnlodmkbiiiaaDoor.PDif
attribute [local go_sem] max2_int min2_int max_two min_two max_three min_three max_four min_four
set_option linter.unusedVariables false
set_option linter.unusedSimpArgs false
theorem kpt_heap : Kd.Heap kpt := Kd.heap_scalar
abbrev k79 : Kd (S78 × S78) := Kd.pair k78 k78
def pfO (al : List Nat) (ds : List S78) (g : Nat) : ByteArray := (pd al ds g).f1
theorem mst_mem (pf : Nat → ByteArray) (l : List Nat) : ∀ (s : MS), ∀ g ∈ (l.foldl (mstep pf) s).ds, g ∈ s.ds ∨ g ∈ l := by
  induction l with
  | nil => intro s g hg; exact .inl hg
  | cons x l ih =>
    intro s g hg
    rw [List.foldl_cons] at hg
    rcases ih _ g hg with h | h
    · have : g ∈ s.ds ∨ g = x := by
        unfold mstep at h
        split at h
        · exact .inl h
        · simpa using h
      rcases this with h | rfl
      · exact .inl h
      · exact .inr (List.mem_cons_self ..)
    · exact .inr (List.mem_cons_of_mem _ h)
theorem mlast_mem (pf : Nat → ByteArray) (f : PM) (l : List Nat) : ∀ (ds : List Nat), ∀ g ∈ l.foldl (mlast pf f) ds, g ∈ ds ∨ g ∈ l := by
  induction l with
  | nil => intro s g hg; exact .inl hg
  | cons x l ih =>
    intro s g hg
    rw [List.foldl_cons] at hg
    rcases ih _ g hg with h | h
    · have : g ∈ s ∨ g = x := by
        unfold mlast at h
        split at h
        · simpa using h
        · exact .inl h
      rcases this with h | rfl
      · exact .inl h
      · exact .inr (List.mem_cons_self ..)
    · exact .inr (List.mem_cons_of_mem _ h)
theorem mds_mem (pf : Nat → ByteArray) (gs hs : List Nat) : ∀ g ∈ mds pf gs hs, g ∈ gs ++ hs := by
  intro g hg
  rcases mlast_mem pf _ hs _ g hg with h | h
  · rcases mst_mem pf gs _ g h with h | h
    · cases h
    · exact List.mem_append_left _ h
  · exact List.mem_append_right _ h
theorem mds_len (pf : Nat → ByteArray) (gs hs : List Nat) : (mds pf gs hs).length ≤ gs.length + hs.length := by
  have h1 := mlast_len pf (mst pf gs hs).f hs (mst pf gs hs).ds
  have h2 := (mst_len pf hs gs).1
  unfold mds
  unfold mst at *
  omega
theorem mput_mem (pf : Nat → ByteArray) (hs : List Nat) : ∀ (f : PM) (k : ByteArray) (g : Nat), hs.foldl (mput pf) f k = some g → g ∈ hs ∨ f k = some g := by
  induction hs with
  | nil => intro f k g h; exact .inr h
  | cons x hs ih =>
    intro f k g h
    rw [List.foldl_cons] at h
    rcases ih _ _ _ h with h | h
    · exact .inl (List.mem_cons_of_mem _ h)
    · unfold mput at h
      by_cases hk : k = pf x
      · rw [if_pos hk] at h
        injection h with h
        subst h
        exact .inl (List.mem_cons_self ..)
      · rw [if_neg hk] at h
        exact .inr h
theorem mst_cs_mem (pf : Nat → ByteArray) (gs hs : List Nat) : ∀ p ∈ (mst pf gs hs).cs, p.1 ∈ gs ++ hs ∧ p.2 ∈ gs ++ hs := by
  have : ∀ (l : List Nat) (s : MS), (∀ g ∈ l, g ∈ gs ++ hs) → (∀ k g, s.f k = some g → g ∈ gs ++ hs) → (∀ p ∈ s.cs, p.1 ∈ gs ++ hs ∧ p.2 ∈ gs ++ hs) → ∀ p ∈ (l.foldl (mstep pf) s).cs, p.1 ∈ gs ++ hs ∧ p.2 ∈ gs ++ hs := by
    intro l
    induction l with
    | nil => intro s _ _ h; exact h
    | cons x l ih =>
      intro s hl hf hc
      rw [List.foldl_cons]
      have hd : ∀ k g, mdel pf s.f x k = some g → g ∈ gs ++ hs := by
        intro k g h
        unfold mdel at h
        by_cases hk : k = pf x
        · rw [if_pos hk] at h; cases h
        · rw [if_neg hk] at h; exact hf k g h
      refine ih _ (fun g hg => hl g (List.mem_cons_of_mem _ hg)) ?_ ?_
      · unfold mstep
        split <;> exact hd
      · unfold mstep
        cases he : s.f (pf x) with
        | none => exact hc
        | some h =>
          intro p hp
          rcases List.mem_append.1 hp with hp | hp
          · exact hc p hp
          · rw [List.mem_singleton.1 hp]
            exact ⟨hl x (List.mem_cons_self ..), hf _ _ he⟩
  refine this gs _ (fun g hg => List.mem_append_left _ hg) (fun k g h => ?_) (fun p hp => by cases hp)
  rcases mput_mem pf hs _ k g h with h | h
  · exact List.mem_append_right _ h
  · cases h
theorem goesF_ {P : Program} {ops : Array Oper} {Q : Exit → Act → World → Prop} {oi : Oper} {N : Option Tmp} {a : Act} {w : World} {K : Act → World → Prop} {t : Tmp} {f : FuncId} {fn : Func} {az : Array Operand} {ts : Array TypeId} (hf : P.funcs[f]? = some fn) (hname : (fn.name == "runtime.NumGoroutine") = false) (hb : fn.body.isSome = true) (caps args : Array Value)
    (hw : Region.wanted oi (yielded ops a.tmps) = true) (hN : oi.dst = N) (hop : oi.op = .call { callee := .value (.tmp t), args := az, argTypes := ts }) (hfv : a.eval (.tmp t) = .func (.func f) #[] caps) (hargs : az.map a.eval = args)
    (h : Calls P f (args ++ caps) w fun e w' => ∃ v, e = .returned v ∧ K (a.put N v) w') : if Region.wanted oi (yielded ops a.tmps) = true then Oper.wp P oi a w K Q else K (a.put N undef) w := by
  refine call_ f (args ++ caps) hw hN ?_ h
  have he := enters_ hf hname hb (args ++ caps) w
  unfold execOp
  simp [hop, resolve, hfv, Deferred.ofValue, invoke, hargs, he]
theorem at_cf {w : World} {A : Option Addr} {cs : List (Nat × Nat)} (h : Kd.C kcf w A cs.length cs) (i : Int) (h0 : 0 ≤ i) (h1 : i < (cs.length : Int)) : ∃ ad, A = some ad ∧ w.cell? (ad.add (i.toNat * 2)) = some (.pointer (some ⟨(cs[i.toNat]'(by omega)).1, 0, none⟩)) ∧ w.cell? ⟨(ad.add (i.toNat * 2)).block, (ad.add (i.toNat * 2)).off + 1, none⟩ = some (.pointer (some ⟨(cs[i.toNat]'(by omega)).2, 0, none⟩)) := by
  obtain ⟨ad, c, e, _, hK, hc⟩ := Kd.C_get h (0, 0) i h0 (by omega)
  obtain ⟨d0, d1, hcc, hk0, hk1⟩ := hK
  have e0 : d0 = [Value.pointer (some ⟨(cs.getD i.toNat (0, 0)).1, 0, none⟩)] := hk0
  have e1 : d1 = [Value.pointer (some ⟨(cs.getD i.toNat (0, 0)).2, 0, none⟩)] := hk1
  have e3 : cs.getD i.toNat (0, 0) = cs[i.toNat]'(by omega) := by rw [List.getD_eq_getElem?_getD, List.getElem?_eq_getElem (show i.toNat < cs.length by omega)]; rfl
  rw [e3] at e0 e1
  rw [e0, e1] at hcc
  have h2 : ∀ j u, c[j]? = some u → w.cell? (ad.add (i.toNat * 2 + j)) = some u := hc
  refine ⟨ad, e, h2 0 _ (by rw [hcc]; rfl), ?_⟩
  have h3 := h2 1 _ (show c[1]? = some (Value.pointer (some ⟨(cs[i.toNat]'(by omega)).2, 0, none⟩)) by rw [hcc]; rfl)
  rw [← add_field _ _ 1 (by omega)]; exact h3
theorem info79 : (Tryd.prog.info? 79).map (fun i => (i.zero, i.size, i.bytes)) = some (some (.agg #[.int .i64 0, .string ⟨#[]⟩, .slice none 0 0, .slice none 0 0, .int .i64 0, .string ⟨#[]⟩, .slice none 0 0, .slice none 0 0]), 8, 144) := by kernel_rfl
set_option maxHeartbeats 32000000 in
set_option maxRecDepth 100000 in
theorem merged_calls (w : World) (A0 A1 : Option Addr) (c0 c1 : Nat) (l0 l1 : List S78) (h0 : Kd.C k78 w A0 l0.length l0) (h1 : Kd.C k78 w A1 l1.length l1) (hl0 : l0.length ≤ 5000) (hl1 : l1.length ≤ 5000) (hx0 : ∀ x ∈ l0, OkD x) (hx1 : ∀ x ∈ l1, OkD x) (hp : ∀ x ∈ l0 ++ l1, x.f1.size ≤ maxLen) :
    Calls Tryd.prog 40 #[.slice A0 l0.length c0, .slice A1 l1.length c1] w fun e w' => ∃ v1 v2 gs hs, e = .returned (.tuple #[v1, v2]) ∧ gs.length = l0.length ∧ hs.length = l1.length ∧ (gs ++ hs).Pairwise (· < ·) ∧ Kd.R k78 78 w' w.heap.size (fun _ => True) v1 ((mds (pfO (gs ++ hs) (l0 ++ l1)) gs hs).map (pd (gs ++ hs) (l0 ++ l1))) ∧ Kd.R k79 79 w' w.heap.size (fun _ => True) v2 ((mst (pfO (gs ++ hs) (l0 ++ l1)) gs hs).cs.map (fun p => (pd (gs ++ hs) (l0 ++ l1) p.1, pd (gs ++ hs) (l0 ++ l1) p.2))) ∧ Below w.heap.size w w' := by
  have HC0 := Aside0.mk h0
  have HC1 := Aside0.mk h1
  have HL0 := Aside0.mk hl0
  have HL1 := Aside0.mk hl1
  have HX0 := Aside0.mk hx0
  have HX1 := Aside0.mk hx1
  have HP := Aside0.mk hp
  have I78 := Aside0.mk info78
  clear h0 h1 hl0 hl1 hx0 hx1 hp
  have hmf : ∀ fn first cap wq, Sem.run Tryd.prog (Instr.makeFunc fn first cap) wq = .ok (.func fn first cap) wq := fun _ _ _ _ => rfl
  go_enter Tryd.func40, Tryd.ntmps40
  go_upto_region 2 with (first
    | (go_at_call 80; refine (concatD_calls _ w.heap.size A0 A1 c0 c1 l0 l1 (blk_new w _) (Kd.C_F k78_heap (Kd.C_alloc HC0.out _)) (Kd.C_F k78_heap (Kd.C_alloc HC1.out _)) (by have := HL0.out; omega) (by have := HL1.out; omega)).mono ?_; rintro e w1 ⟨Ag, cg, rfl, hN, hb⟩; have HG1 := Aside0.mk (Kd.N_reads' hN).2.2; have HB1 := Aside0.mk (below_step (below_alloc (Below.refl _ _) _) hb); clear hN hb)
    | ((with_reducible refine gate_dst (N := 6) rfl ?_); refine box_event ?hg (N := 6) ?hd (cs := #[.slice none 0 0]) (t := 71) ?hr ?_; (case hd => rfl); (case hg => rfl); (case hr => first | (go_simp; done) | (go_simp; rfl)); intro bg hgb w2 hbox hb; have BKbg := Aside0.mk hbox; have GEbg : Aside0 (w1.heap.size ≤ bg) := ⟨by rw [hgb]; exact Nat.le_refl _⟩; have HBxbg := Aside0.mk hb; have hcbg0 : w2.cell? ⟨bg, 0, none⟩ = some (.slice none 0 0) := (blk_cell BKbg.out 0).trans rfl; have hfbg0 := blk_frozen BKbg.out 0; clear hb hbox hgb))
  obtain ⟨W2, hW2⟩ : ∃ W_, W_ = w2.setCell ⟨bg, 0, none⟩ (.slice Ag (l0.length + l1.length) cg) := ⟨_, rfl⟩
  rw [← hW2]
  have HBG : Aside0 (W2.heap[bg]? = some (.cells #[.slice Ag (l0 ++ l1).length cg] 71 (0, 0))) := ⟨by rw [hW2, List.length_append]; exact blk_put BKbg.out 0 _ rfl⟩
  have HB2' : Aside0 (Below w1.heap.size w1 W2) := ⟨by rw [hW2]; exact below_set HBxbg.out GEbg.out⟩
  have HB2 := Aside0.mk (below_step HB1.out HB2'.out)
  have HG2 := Aside0.mk (Kd.C_below HG1.out HB2'.out)
  clear hW2 hcbg0 hfbg0
  go_upto_region 3 with (first
    | (go_at_call 81; refine (ichanges_calls _ A1 c1 l1 (Kd.C_below HC1.out (below_step HB2.out HB3.out)) (by have := HL1.out; omega) HX1.out).mono ?_; rintro e w4 ⟨vy, hs, rfl, hR, hG, hb⟩; obtain ⟨Ay, cy, rfl⟩ := Kd.R_slice hR; have HR4 := Aside0.mk hR; have HC4 := Aside0.mk hG; have HB4 := Aside0.mk hb; clear hR hG hb)
    | (go_at_call 81; refine (ichanges_calls _ A0 c0 l0 (Kd.C_below HC0.out HB2.out) (by have := HL0.out; omega) HX0.out).mono ?_; rintro e w3 ⟨vx, gs, rfl, hR, hG, hb⟩; obtain ⟨Ax, cx, rfl⟩ := Kd.R_slice hR; have HR3 := Aside0.mk hR; have HC3 := Aside0.mk hG; have HB3 := Aside0.mk hb; clear hR hG hb))
  have HB24 : Aside0 (Below W2.heap.size W2 w4) := ⟨below_step HB3.out HB4.out⟩
  have HBOTH := Aside0.mk (chgs_both HC3.out HC4.out HB4.out)
  have HK3 := Aside0.mk (Kd.C_below (Kd.R_reads' HR3.out).2.2 HB4.out)
  have HK4 := Aside0.mk (Kd.R_reads' HR4.out).2.2
  have HLG : Aside0 (gs.length = l0.length ∧ hs.length = l1.length) := ⟨HC3.out.len, HC4.out.len⟩
  go_upto_region 4 with (first
    | (go_at_call 82; refine (concatP_calls _ w4.heap.size Ax Ay cx cy gs hs (blk_new w4 _) (Kd.C_F kpt_heap (Kd.C_alloc HK3.out _)) (Kd.C_F kpt_heap (Kd.C_alloc HK4.out _)) (by have := HL0.out; have := HLG.out; omega) (by have := HL1.out; have := HLG.out; omega)).mono ?_; rintro e w5 ⟨Aa, ca, rfl, hN, hb⟩; have HA5 := Aside0.mk (Kd.N_reads' hN).2.2; have HB5 := Aside0.mk (below_step (below_alloc (Below.refl _ _) _) hb); clear hN hb)
    | ((with_reducible refine gate_dst (N := 9) rfl ?_); refine box_event ?hg (N := 9) ?hd (cs := #[.slice none 0 0]) (t := 134) ?hr ?_; (case hd => rfl); (case hg => rfl); (case hr => first | (go_simp; done) | (go_simp; rfl)); intro ba hgb w6 hbox hb; have BKba := Aside0.mk hbox; have GEba : Aside0 (w5.heap.size ≤ ba) := ⟨by rw [hgb]; exact Nat.le_refl _⟩; have HBxba := Aside0.mk hb; have hcba0 : w6.cell? ⟨ba, 0, none⟩ = some (.slice none 0 0) := (blk_cell BKba.out 0).trans rfl; have hfba0 := blk_frozen BKba.out 0; clear hb hbox hgb))
  obtain ⟨W6, hW6⟩ : ∃ W_, W_ = w6.setCell ⟨ba, 0, none⟩ (.slice Aa (gs.length + hs.length) ca) := ⟨_, rfl⟩
  rw [← hW6]
  have HBA : Aside0 (W6.heap[ba]? = some (.cells #[.slice Aa (gs ++ hs).length ca] 134 (0, 0))) := ⟨by rw [hW6, List.length_append]; exact blk_put BKba.out 0 _ rfl⟩
  have HB6' : Aside0 (Below w5.heap.size w5 W6) := ⟨by rw [hW6]; exact below_set HBxba.out GEba.out⟩
  have HB46 : Aside0 (Below w4.heap.size w4 W6) := ⟨below_step HB5.out HB6'.out⟩
  have HB26 : Aside0 (Below W2.heap.size W2 W6) := ⟨below_step HB24.out HB46.out⟩
  have HE : Aside0 (Env W6 (gs ++ hs) (l0 ++ l1) ba bg Aa ca Ag cg) := ⟨⟨HBOTH.out.2.2, HBOTH.out.1, HBA.out, (HB26.out.block _ (blk_lt HBG.out)).trans HBG.out, Kd.C_below HA5.out HB6'.out, Kd.C_below HG2.out HB26.out, fun j g x h1 h2 => (HB46.out.block g (blk_lt (HBOTH.out.2.1 j g x h1 h2))).trans (HBOTH.out.2.1 j g x h1 h2)⟩⟩
  have HB6 := Aside0.mk (below_step HB2.out HB26.out)
  have HK3' := Aside0.mk (Kd.C_below HK3.out HB46.out)
  have HK4' := Aside0.mk (Kd.C_below HK4.out HB46.out)
  clear hW6 hcba0 hfba0 HBA HB6' HB46 HBG HB24 HA5 HG2 HG1 HB5 HB1 HB2' HBxbg HBxba BKbg BKba GEbg GEba
  go_wp2_with (go_at_call 84; refine (merge_calls _ (pfO (gs ++ hs) (l0 ++ l1)) gs hs Ax Ay cx cy HK3'.out HK4'.out (by have := HL0.out; have := HLG.out; omega) (by have := HL1.out; have := HLG.out; omega) (HE.out.paths HP.out gs (fun g hg => List.mem_append_left _ hg)) (HE.out.paths HP.out hs (fun g hg => List.mem_append_right _ hg))).mono ?_; rintro e w7 ⟨v7, v8, rfl, hR7, hR8, hb⟩; obtain ⟨A7, c7, rfl⟩ := Kd.R_slice hR7; obtain ⟨A8, c8, rfl⟩ := Kd.R_slice hR8; have HR7 := Aside0.mk (Kd.R_reads' hR7).2.2; have HR8 := Aside0.mk (Kd.R_reads' hR8).2.2; have HB7 := Aside0.mk (below_step HB6.out hb); have HE7 := Aside0.mk (HE.out.more hb); clear hR7 hR8 hb)
  obtain ⟨ms, hms⟩ : ∃ ms, ms = mds (pfO (gs ++ hs) (l0 ++ l1)) gs hs := ⟨_, rfl⟩
  rw [← hms] at HR7 ⊢
  have HMS := Aside0.mk hms
  have HMM : Aside0 (∀ g ∈ ms, g ∈ gs ++ hs) := ⟨by rw [hms]; exact mds_mem _ gs hs⟩
  have HML : Aside0 (ms.length ≤ 10000) := ⟨by rw [hms]; have := mds_len (pfO (gs ++ hs) (l0 ++ l1)) gs hs; have := HL0.out; have := HL1.out; have := HLG.out; omega⟩
  have HOK : Aside0 (∀ x ∈ l0 ++ l1, OkD x) := ⟨fun x hx => (List.mem_append.1 hx).elim (HX0.out x) (HX1.out x)⟩
  have HAL : Aside0 ((gs ++ hs).length ≤ 1000000) := ⟨by rw [List.length_append]; have := HL0.out; have := HL1.out; have := HLG.out; omega⟩
  clear hms
  go_loopg [40, 13] ms.length (fun kq v40 v13 w' => ∃ i : Int, v40 = .int .i64 i ∧ Aside0 (∃ j : Nat, i = (j : Int) ∧ j + kq = ms.length ∧ Below w7.heap.size w7 w' ∧ Kd.R k78 78 w' w7.heap.size (fun _ => True) v13 ((ms.take j).map (pd (gs ++ hs) (l0 ++ l1)))))
  case atStart => exact ⟨0, rfl, ⟨0, rfl, by omega, Below.refl _ _, Kd.R_nil _ _ _ _ _⟩⟩
  case round =>
    obtain ⟨i, rfl, HJ⟩ := hrel
    by_cases hi : i < (ms.length : Int)
    · have q0 : decide (i < (ms.length : Int)) = true := decide_eq_true hi
      obtain ⟨j, hij, hjk, hB, hR⟩ := HJ.out
      have hjl : j < ms.length := by omega
      have hi0 : ((0 : Int) ≤ i) = True := eq_true (by omega)
      have hi1 : (i < (ms.length : Int)) = True := eq_true (by omega)
      obtain ⟨ab, eAb, hpt⟩ := at_pt (Kd.C_below HR7.out hB) i (by omega) (by omega)
      subst eAb
      obtain ⟨g, hh⟩ : ∃ h, h = ms[i.toNat]'(by omega) := ⟨_, rfl⟩
      rw [← hh] at hpt
      have hhj : g = ms[j] := by rw [hh]; congr 1; omega
      have HGM := Aside0.mk (HMM.out g (by rw [hhj]; exact List.getElem_mem hjl))
      obtain ⟨ls, hls⟩ : ∃ ls, ls = (ms.take j).map (pd (gs ++ hs) (l0 ++ l1)) := ⟨_, rfl⟩
      obtain ⟨x, hx⟩ : ∃ x, x = pd (gs ++ hs) (l0 ++ l1) g := ⟨_, rfl⟩
      have HNX := Aside0.mk (show (ms.take (j + 1)).map (pd (gs ++ hs) (l0 ++ l1)) = ls ++ [x] by rw [List.take_succ_eq_append_getElem hjl, List.map_append, ← hls, hx, hhj]; rfl)
      have HLS := Aside0.mk (show ls.length ≤ 1000000 by rw [hls, List.length_map, List.length_take]; have := HML.out; omega)
      rw [← hls] at hR
      obtain ⟨A3, c3, e3⟩ := Kd.R_slice hR
      subst e3
      have HE := Aside0.mk (HE7.out.more hB)
      have HCL := Aside0.mk (HE.out.call HOK.out HAL.out g HGM.out)
      rw [← hx] at HCL
      have HB := Aside0.mk hB
      have HR := Aside0.mk hR
      obtain ⟨i1, hi1e⟩ : ∃ y : Int, wrap64 (i + 1) = y := ⟨_, rfl⟩
      have hi1w : IntKind.i64.wrap (i + 1) = i1 := (i64_w _).trans hi1e
      have HI1 := Aside0.mk (show i1 = ((j + 1 : Nat) : Int) by have := HML.out; rw [← hi1e]; unfold wrap64; omega)
      have HJ2 := Aside0.mk (show j + gk = ms.length ∧ j < ms.length from ⟨hjk, hjl⟩)
      clear hij hjk hjl hi HJ hB hR hh hhj hls hx
      go_wp2_with (first
        | (go_at_call 83; refine HCL.out.mono ?_; rintro e w2 ⟨v2, v3, rfl, h2, h3, hb⟩; obtain ⟨A2, k2, rfl⟩ := Kd.R_slice h2; obtain ⟨A9, k9, rfl⟩ := Kd.R_slice h3; have HRa := Aside0.mk h2; have HRb := Aside0.mk h3; have HBn := Aside0.mk (below_step HB.out hb); have HRS := Aside0.mk (Kd.R_below HR.out hb); have HWR := Aside0.mk HB.out.size; have HLT := Aside0.mk (Kd.R_lt HR.out); clear h2 h3 hb)
        | (at_builtin; refine Kd.R_append k78 (w0 := w7) w7.heap.size rfl (.tmp 44) (.tmp 48) 71 78 (.agg #[.int .i64 0, .string ⟨#[]⟩, .slice none 0 0, .slice none 0 0]) 72 rfl Tryd.underlying71 I78.out rfl (by decide) (by decide) (.slice A3 ls.length c3) ls x [.int .i64 x.f0, .string x.f1, .slice A2 x.f2.length k2, .slice A9 x.f3.length k9] (fun _ => True) (fun k => wr.heap.size ≤ k) rfl rfl (chg_elem HRa.out HRb.out HWR.out) (fun k hk => ⟨trivial, fun e => by have := HLT.out k e.symm; omega⟩) (fun _ _ => trivial) HRS.out HBn.out HBn.out.size (by have := HLS.out; omega) ?_; intro v1 wz hR hb hg hat; have HFR := Aside0.mk hR; have HFB := Aside0.mk hb; clear hR hb hg hat))
      go_roundg (gk - 1)
      case measure => have := HJ2.out; omega
      case rel =>
        refine ⟨i1, rfl, ⟨j + 1, HI1.out, by have := HJ2.out; omega, HFB.out, ?_⟩⟩
        rw [HNX.out]
        exact HFR.out
    · have q0 : decide (i < (ms.length : Int)) = false := decide_eq_false hi
      obtain ⟨j, hij, hjk, hB, hR⟩ := HJ.out
      have hje : j = ms.length := by omega
      rw [hje, List.take_length] at hR
      obtain ⟨w8, hw8⟩ : ∃ w8, w8 = wr := ⟨_, rfl⟩
      rw [← hw8] at hR hB ⊢
      obtain ⟨ls, hls⟩ : ∃ ls, ls = ms.map (pd (gs ++ hs) (l0 ++ l1)) := ⟨_, rfl⟩
      rw [← hls] at hR
      have HLS := Aside0.mk hls
      obtain ⟨A13, c13, e13⟩ := Kd.R_slice hR
      subst e13
      have HO8 := Aside0.mk (Kd.R_lower hR HB7.out.size)
      have HB8 := Aside0.mk (below_step HB7.out hB)
      have HE8 := Aside0.mk (HE7.out.more hB)
      have HR8' := Aside0.mk (Kd.C_below HR8.out hB)
      obtain ⟨cs, hcs⟩ : ∃ cs, cs = (mst (pfO (gs ++ hs) (l0 ++ l1)) gs hs).cs := ⟨_, rfl⟩
      rw [← hcs] at HR8' ⊢
      have HCS := Aside0.mk hcs
      have HCM : Aside0 (∀ p ∈ cs, p.1 ∈ gs ++ hs ∧ p.2 ∈ gs ++ hs) := ⟨by rw [hcs]; exact mst_cs_mem _ gs hs⟩
      have HCL2 : Aside0 (cs.length ≤ 10000) := ⟨by rw [hcs]; have := (mst_len (pfO (gs ++ hs) (l0 ++ l1)) hs gs).2; have := HL0.out; have := HLG.out; unfold mst; omega⟩
      clear hij hjk hje hB hR HJ hi hw8 hls hcs HR8 HE7 HB7 HR7
      go_wp2_with fail
      go_loopg [53, 16] cs.length (fun kq v53 v16 w' => ∃ i : Int, v53 = .int .i64 i ∧ Aside0 (∃ j : Nat, i = (j : Int) ∧ j + kq = cs.length ∧ Below w8.heap.size w8 w' ∧ Kd.R k79 79 w' w8.heap.size (fun _ => True) v16 ((cs.take j).map (fun p => (pd (gs ++ hs) (l0 ++ l1) p.1, pd (gs ++ hs) (l0 ++ l1) p.2)))))
      case atStart => exact ⟨0, rfl, ⟨0, rfl, by omega, Below.refl _ _, Kd.R_nil _ _ _ _ _⟩⟩
      case round =>
        clear q0
        obtain ⟨i, rfl, HJ⟩ := hrel
        by_cases hi : i < (cs.length : Int)
        · have q0 : decide (i < (cs.length : Int)) = true := decide_eq_true hi
          obtain ⟨j, hij, hjk, hB, hR⟩ := HJ.out
          have hjl : j < cs.length := by omega
          have hi0 : ((0 : Int) ≤ i) = True := eq_true (by omega)
          have hi1 : (i < (cs.length : Int)) = True := eq_true (by omega)
          obtain ⟨ab, eAb, hp0, hp1⟩ := at_cf (Kd.C_below HR8'.out hB) i (by omega) (by omega)
          subst eAb
          obtain ⟨p, hpe⟩ : ∃ p, p = cs[i.toNat]'(by omega) := ⟨_, rfl⟩
          rw [← hpe] at hp0 hp1
          have hpj : p = cs[j] := by rw [hpe]; congr 1; omega
          have HPM := Aside0.mk (HCM.out p (by rw [hpj]; exact List.getElem_mem hjl))
          have HG1 := Aside0.mk HPM.out.1
          have HG2 := Aside0.mk HPM.out.2
          obtain ⟨ls, hls⟩ : ∃ ls, ls = (cs.take j).map (fun p => (pd (gs ++ hs) (l0 ++ l1) p.1, pd (gs ++ hs) (l0 ++ l1) p.2)) := ⟨_, rfl⟩
          obtain ⟨x1, hx1⟩ : ∃ x, x = pd (gs ++ hs) (l0 ++ l1) p.1 := ⟨_, rfl⟩
          obtain ⟨x2, hx2⟩ : ∃ x, x = pd (gs ++ hs) (l0 ++ l1) p.2 := ⟨_, rfl⟩
          have HNX := Aside0.mk (show (cs.take (j + 1)).map (fun p => (pd (gs ++ hs) (l0 ++ l1) p.1, pd (gs ++ hs) (l0 ++ l1) p.2)) = ls ++ [(x1, x2)] by rw [List.take_succ_eq_append_getElem hjl, List.map_append, ← hls, hx1, hx2, hpj]; rfl)
          have HLS := Aside0.mk (show ls.length ≤ 100000 by rw [hls, List.length_map, List.length_take]; have := HCL2.out; omega)
          rw [← hls] at hR
          obtain ⟨A16, c16, e16⟩ := Kd.R_slice hR
          subst e16
          have HE := Aside0.mk (HE8.out.more hB)
          have HX2 := Aside0.mk hx2
          have HB := Aside0.mk hB
          have HR := Aside0.mk hR
          have HWR := Aside0.mk hB.size
          have HLT := Aside0.mk (Kd.R_lt hR)
          obtain ⟨i1, hi1e⟩ : ∃ y : Int, wrap64 (i + 1) = y := ⟨_, rfl⟩
          have hi1w : IntKind.i64.wrap (i + 1) = i1 := (i64_w _).trans hi1e
          have HI1 := Aside0.mk (show i1 = ((j + 1 : Nat) : Int) by have := HCL2.out; rw [← hi1e]; unfold wrap64; omega)
          have HJ2 := Aside0.mk (show j + gk = cs.length ∧ j < cs.length from ⟨hjk, hjl⟩)
          clear hij hjk hjl hi HJ hB hR hpe hpj hls HPM
          go_upto_region 16 with fail
          obtain ⟨wx, hwx⟩ : ∃ wx, wx = wr.alloc (.cells #[.pointer (some ⟨p.1, 0, none⟩), .pointer (some ⟨p.2, 0, none⟩)] 148) := ⟨_, rfl⟩
          rw [← hwx]
          obtain ⟨wd, hwd⟩ : ∃ wd, wd = wx.drew := ⟨_, rfl⟩
          have HS0 : Aside0 (Below wr.heap.size wr wd) := ⟨by rw [hwd, hwx]; exact below_drew (below_alloc (Below.refl _ _) _)⟩
          have hbk : wd.heap[wr.heap.size]? = some (.cells #[.pointer (some ⟨p.1, 0, none⟩), .pointer (some ⟨p.2, 0, none⟩)] 148 (0, 0)) := by rw [hwd, hwx]; exact blk_drew (blk_new wr _)
          have hz0 := (blk_cell hbk 0).trans rfl
          have hz1 := (blk_cell hbk 1).trans rfl
          have HSz := Aside0.mk HS0.out.size
          have HEd := Aside0.mk (HE.out.more HS0.out)
          have HC1 := Aside0.mk (HEd.out.call HOK.out HAL.out p.1 HG1.out)
          rw [← hx1] at HC1
          rw [hwd] at hz0 hz1 HC1 HS0 HSz HEd
          clear hbk hx1 hx2 hp0 hp1
          refine start_ (n := 13) (S := fun w' => w'.cell? ⟨wr.heap.size, 0, none⟩ = some (.pointer (some ⟨p.1, 0, none⟩)) ∧ w'.cell? ⟨wr.heap.size, 1, none⟩ = some (.pointer (some ⟨p.2, 0, none⟩))) (ds := [10, 11]) #[false, false, false, false, false, false, false, false, false, false, false, false, false] (by kernel_rfl) rfl rfl ⟨hz0, hz1⟩ (fun hHeld => ?_)
          refine pure_ (i := 0) (N := some 57) (v := ?_) (a' := ?_) #[true, false, false, false, false, false, false, false, false, false, false, false, false] rfl rfl (by kernel_rfl) (fun _ _ _ h => h) (Or.inl ⟨by rfl, ?_⟩) ?_ ?_
          rotate_left
          · intro w'
            go_simp
            with_reducible rfl
          rotate_left
          · simp only [Act.put, List.setIfInBounds_toArray, List.set_cons_zero, List.set_cons_succ, i64_w, i32_w]
            rfl
          refine pure_ (i := 1) (N := some 58) (v := ?_) (a' := ?_) #[true, true, false, false, false, false, false, false, false, false, false, false, false] rfl rfl (by kernel_rfl) (fun _ _ _ h => h) (Or.inl ⟨by rfl, ?_⟩) ?_ ?_
          rotate_left
          · intro w'
            go_simp
            with_reducible rfl
          rotate_left
          · simp only [Act.put, List.setIfInBounds_toArray, List.set_cons_zero, List.set_cons_succ, i64_w, i32_w]
            rfl
          refine pure_ (i := 2) (N := some 59) (v := ?_) (a' := ?_) #[true, true, true, false, false, false, false, false, false, false, false, false, false] rfl rfl (by kernel_rfl) (fun _ _ _ h => h) (Or.inl ⟨by rfl, ?_⟩) ?_ ?_
          rotate_left
          · intro w'
            go_simp
            with_reducible rfl
          rotate_left
          · simp only [Act.put, List.setIfInBounds_toArray, List.set_cons_zero, List.set_cons_succ, i64_w, i32_w]
            rfl
          refine pure_ (i := 5) (N := some 62) (v := ?_) (a' := ?_) #[true, true, true, false, false, true, false, false, false, false, false, false, false] rfl rfl (by kernel_rfl) (fun _ _ _ h => h) (Or.inl ⟨by rfl, ?_⟩) ?_ ?_
          rotate_left
          · intro w'
            go_simp
            with_reducible rfl
          rotate_left
          · simp only [Act.put, List.setIfInBounds_toArray, List.set_cons_zero, List.set_cons_succ, i64_w, i32_w]
            rfl
          refine pure_ (i := 6) (N := some 63) (v := ?_) (a' := ?_) #[true, true, true, false, false, true, true, false, false, false, false, false, false] rfl rfl (by kernel_rfl) (fun _ _ _ h => h) (Or.inl ⟨by rfl, ?_⟩) ?_ ?_
          rotate_left
          · intro w'
            go_simp
            with_reducible rfl
          rotate_left
          · simp only [Act.put, List.setIfInBounds_toArray, List.set_cons_zero, List.set_cons_succ, i64_w, i32_w]
            rfl
          refine take_ (i := 3) (N := some 60) (v := ?_) (a' := ?_) #[true, true, true, true, false, true, true, false, false, false, false, false, false] rfl rfl (by kernel_rfl) (fun _ _ _ h => h) (Or.inl ⟨by rfl, ?_⟩) hHeld ?_ ?_
          rotate_left
          · rintro w' ⟨s0, s1⟩
            go_simp
            with_reducible rfl
          rotate_left
          · simp only [Act.put, List.setIfInBounds_toArray, List.set_cons_zero, List.set_cons_succ, i64_w, i32_w]
            rfl
          refine take_ (i := 7) (N := some 64) (v := ?_) (a' := ?_) #[true, true, true, true, false, true, true, true, false, false, false, false, false] rfl rfl (by kernel_rfl) (fun _ _ _ h => h) (Or.inl ⟨by rfl, ?_⟩) hHeld ?_ ?_
          rotate_left
          · rintro w' ⟨s0, s1⟩
            go_simp
            with_reducible rfl
          rotate_left
          · simp only [Act.put, List.setIfInBounds_toArray, List.set_cons_zero, List.set_cons_succ, i64_w, i32_w]
            rfl
          refine one_ (i := 4) (N := some 61) #[true, true, true, true, true, true, true, true, false, false, false, false, false] rfl rfl (by kernel_rfl) (by decide) (fun K hK => ?_)
          refine goesF_ Tryd.func83 (by kernel_rfl) rfl #[.pointer (some ⟨ba, 0, none⟩), .pointer (some ⟨bg, 0, none⟩)] #[.pointer (some ⟨p.1, 0, none⟩)] (by rfl) rfl rfl (by rfl) (by simp only [List.map_toArray, List.map_cons, List.map_nil]; rfl) ?_
          show Calls Tryd.prog 83 #[.pointer (some ⟨p.1, 0, none⟩), .pointer (some ⟨ba, 0, none⟩), .pointer (some ⟨bg, 0, none⟩)] _ _
          with_reducible refine (HC1.out).mono ?_
          rintro e wp ⟨v2, v3, rfl, h2, h3, hb⟩
          obtain ⟨A2, k2, rfl⟩ := Kd.R_slice h2
          obtain ⟨A3, k3, rfl⟩ := Kd.R_slice h3
          have HV2 := Aside0.mk h2
          have HV3 := Aside0.mk h3
          have HSwp := Aside0.mk (below_step HS0.out hb)
          have HDwp := Aside0.mk hb
          have wp0 := ((hb).cell (World.block_lt_of_cell? wx.drew _ hz0)).trans hz0
          have wp1 := ((hb).cell (World.block_lt_of_cell? wx.drew _ hz1)).trans hz1
          clear h2 h3 hb
          refine ⟨_, rfl, ?_⟩
          refine hK.out _ _ ⟨wp0, wp1⟩ (fun hHeld => ?_)
          clear hK K
          refine norm_ (a' := ?_) ?_ ?_
          rotate_left
          · show Act.put _ (some 61) _ = _
            simp only [Act.put, List.setIfInBounds_toArray, List.set_cons_zero, List.set_cons_succ, i64_w, i32_w]
            rfl
          refine one_ (i := 8) (N := some 65) #[true, true, true, true, true, true, true, true, true, false, false, false, false] rfl rfl (by kernel_rfl) (by decide) (fun K hK => ?_)
          refine goesF_ Tryd.func83 (by kernel_rfl) rfl #[.pointer (some ⟨ba, 0, none⟩), .pointer (some ⟨bg, 0, none⟩)] #[.pointer (some ⟨p.2, 0, none⟩)] (by rfl) rfl rfl (by rfl) (by simp only [List.map_toArray, List.map_cons, List.map_nil]; rfl) ?_
          show Calls Tryd.prog 83 #[.pointer (some ⟨p.2, 0, none⟩), .pointer (some ⟨ba, 0, none⟩), .pointer (some ⟨bg, 0, none⟩)] _ _
          have HC2 := (HEd.out.more HDwp.out).call HOK.out HAL.out p.2 HG2.out
          rw [← HX2.out] at HC2
          have HSp := Aside0.mk HSwp.out.size
          with_reducible refine HC2.mono ?_
          clear HC2
          rintro e wq ⟨v2, v3, rfl, h2, h3, hb⟩
          obtain ⟨A4, k4, rfl⟩ := Kd.R_slice h2
          obtain ⟨A5, k5, rfl⟩ := Kd.R_slice h3
          have HV4 := Aside0.mk h2
          have HV5 := Aside0.mk h3
          have HSwq := Aside0.mk (below_step HSwp.out hb)
          have HDwq := Aside0.mk hb
          have wq0 := ((hb).cell (World.block_lt_of_cell? wp _ wp0)).trans wp0
          have wq1 := ((hb).cell (World.block_lt_of_cell? wp _ wp1)).trans wp1
          clear h2 h3 hb
          refine ⟨_, rfl, ?_⟩
          refine hK.out _ _ ⟨wq0, wq1⟩ (fun hHeld => ?_)
          clear hK K
          refine norm_ (a' := ?_) ?_ ?_
          rotate_left
          · show Act.put _ (some 65) _ = _
            simp only [Act.put, List.setIfInBounds_toArray, List.set_cons_zero, List.set_cons_succ, i64_w, i32_w]
            rfl
          refine pure_ (i := 9) (N := some 66) (v := ?_) (a' := ?_) #[true, true, true, true, true, true, true, true, true, true, false, false, false] rfl rfl (by kernel_rfl) (fun _ _ _ h => h) (Or.inl ⟨by rfl, ?_⟩) ?_ ?_
          rotate_left
          · intro w'
            go_simp
            with_reducible rfl
          rotate_left
          · simp only [Act.put, List.setIfInBounds_toArray, List.set_cons_zero, List.set_cons_succ, i64_w, i32_w]
            rfl
          refine last_ (i := 10) (N := some 67) #[true, true, true, true, true, true, true, true, true, true, true, false, false] rfl rfl (by kernel_rfl) (by decide) (fun K hK => ?_)
          refine value_ (w1 := ?_) (v := ?_) (by rfl) rfl ?_ ?_
          rotate_left 2
          · go_simp
            constructor
            · rfl
            · rfl
          refine hK.out _ _ ?_
          clear hK K
          refine norm_ (a' := ?_) ?_ ?_
          rotate_left
          · show Act.put _ (some 67) _ = _
            simp only [Act.put, List.setIfInBounds_toArray, List.set_cons_zero, List.set_cons_succ, i64_w, i32_w]
            rfl
          refine last_ (i := 11) (N := some 68) #[true, true, true, true, true, true, true, true, true, true, true, true, false] rfl rfl (by kernel_rfl) (by decide) (fun K hK => ?_)
          refine Kd.R_append_step k79 (w0 := w8) w8.heap.size (by rfl) (.tmp 57) (.tmp 67) 73 79 (.agg #[.int .i64 0, .string ⟨#[]⟩, .slice none 0 0, .slice none 0 0, .int .i64 0, .string ⟨#[]⟩, .slice none 0 0, .slice none 0 0]) 144 rfl Tryd.underlying73 info79 rfl (by decide) (by decide) (.slice A16 ls.length c16) ls (x1, x2) [.int .i64 x1.f0, .string x1.f1, .slice A2 x1.f2.length k2, .slice A3 x1.f3.length k3, .int .i64 x2.f0, .string x2.f1, .slice A4 x2.f2.length k4, .slice A5 x2.f3.length k5] (fun _ => True) (fun k => wr.heap.size ≤ k) rfl rfl ⟨_, _, rfl, chg_elem (Kd.R_lower (Kd.R_below HV2.out HDwq.out) HSz.out) (Kd.R_lower (Kd.R_below HV3.out HDwq.out) HSz.out) HWR.out, chg_elem (Kd.R_lower HV4.out HSp.out) (Kd.R_lower HV5.out HSp.out) HWR.out⟩ (fun k hk => ⟨trivial, fun e => by have := HLT.out k e.symm; omega⟩) (fun _ _ => trivial) (Kd.R_below HR.out HSwq.out) (below_step HB.out HSwq.out) (below_step HB.out HSwq.out).size (by have := HLS.out; omega) ?_
          intro v1 wz hR hb hg hat
          have HFR := Aside0.mk hR
          have HFB := Aside0.mk hb
          clear hR hb hg hat
          refine hK.out _ _ ?_
          clear hK K
          refine norm_ (a' := ?_) ?_ ?_
          rotate_left
          · show Act.put _ (some 68) _ = _
            simp only [Act.put, List.setIfInBounds_toArray, List.set_cons_zero, List.set_cons_succ, i64_w, i32_w]
            rfl
          refine pure_ (i := 12) (N := some 16) (v := ?_) (a' := ?_) #[true, true, true, true, true, true, true, true, true, true, true, true, true] rfl rfl (by kernel_rfl) (fun _ _ _ h => h) (Or.inl ⟨by rfl, ?_⟩) ?_ ?_
          rotate_left
          · intro w'
            go_simp
            with_reducible rfl
          rotate_left
          · simp only [Act.put, List.setIfInBounds_toArray, List.set_cons_zero, List.set_cons_succ, i64_w, i32_w]
            rfl
          refine done_ (by kernel_rfl) ?_
          go_wp2_with fail
          go_roundg (gk - 1)
          case measure => have := HJ2.out; omega
          case rel =>
            refine ⟨i1, rfl, ⟨j + 1, HI1.out, by have := HJ2.out; omega, HFB.out, ?_⟩⟩
            rw [HNX.out]
            exact HFR.out
        · have q0 : decide (i < (cs.length : Int)) = false := decide_eq_false hi
          obtain ⟨j, hij, hjk, hB, hR⟩ := HJ.out
          have hje : j = cs.length := by omega
          rw [hje, List.take_length] at hR
          obtain ⟨A16, c16, e16⟩ := Kd.R_slice hR
          subst e16
          have HBn := Aside0.mk (below_step HB8.out hB)
          have HR1 := Aside0.mk (Kd.R_below HO8.out hB)
          have HR2 := Aside0.mk (Kd.R_lower hR HB8.out.size)
          clear hij hjk hje hB hR HJ hi
          go_wp2_with fail
          refine bodyPost_ret (results_tmp2 rfl _ _ _) rfl ?_
          refine ⟨_, _, gs, hs, rfl, HLG.out.1, HLG.out.2, HBOTH.out.1, ?_, ?_, HBn.out⟩
          · rw [← HMS.out, ← HLS.out]
            exact HR1.out
          · rw [← HCS.out]
            exact HR2.out
end Go.Proofs.YtnhnlodmkbiiiaaDoor.HandDif
