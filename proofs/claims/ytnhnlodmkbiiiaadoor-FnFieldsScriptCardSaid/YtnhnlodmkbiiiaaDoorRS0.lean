/- Rows of sizes; a node's sizes are taken out. -/
import Derived.Test.YtnhnlodmkbiiiaaDoorRN2
namespace Go.Proofs.YtnhnlodmkbiiiaaDoor.HandFields
open Go Go.RowKit Go.Proofs.YtnhnlodmkbiiiaaDoorL Go.Proofs.YtnhnlodmkbiiiaaDoorW.PrintWords Go.Proofs.YtnhnlodmkbiiiaaDoorW.PrintLast Go.Proofs.YtnhnlodmkbiiiaaDoorW.PrintMore Go.Proofs.YtnhnlodmkbiiiaaDoor.PFieldsBase
attribute [local go_sem] max2_int min2_int max_two min_two max_three min_three max_four min_four
set_option linter.unusedVariables false
set_option linter.unusedSimpArgs false
/-- A cut x[:j:j]. -/
theorem cut_cap {P : Program} (t e : TypeId) (kh km : IntKind) {i : TypeInfo} (ht : P.underlying t = some (.slice e)) (hi : P.info? e = some i) (A : Option Addr) (n c : Nat) (j : Int) (h0 : 0 ≤ j) (hm : j ≤ n) (hc : n ≤ c) :
  ∀ W : World, (Instr.slice t (.slice A n c) none (some (.int kh j)) (some (.int km j))).run P W = .ok (.slice A j.toNat j.toNat) W := by
 intro W
 have hj : j.toNat ≤ c := by omega
 have hj2 : (j.toNat : Int) = j := by omega
 have hb : ∀ (k : IntKind) (cap : Nat), j.toNat ≤ cap → ∀ code, (Instr.sliceBound (.int k j) cap code).run P W = .ok j.toNat W := fun k cap hcap code => by
  have : j ≤ (cap : Int) := by omega
  simp [Instr.sliceBound, asIntOf, h0, this, go_sem]
 have ha : (A.map fun x => x.add 0) = A := by cases A <;> simp [Addr.add]
 simp [Instr.slice, Instr.sliceBounds, run_underlying ht, sizeOf, typeInfo, hi, hb km c hj, hb kh j.toNat (Nat.le_refl _), ha, go_sem]
 intro h; exact absurd (h h0) (by omega)
/-- A row of sizes, of one's own; or one that is full, of which the first numbers alone are read. -/
def Sz (W : World) (base : Nat) (v : Value) (l : List Int) : Prop :=
 Kd.R (Kd.int .u64) 24 W base (fun _ => True) v l ∨ ∃ g cs, v = .slice (some ⟨g, 0, none⟩) l.length l.length ∧ base ≤ g ∧ W.heap[g]? = some (.cells cs 24 (0, 0)) ∧ Kd.C (Kd.int .u64) W (some ⟨g, 0, none⟩) l.length l
section
variable {W W1 : World} {base : Nat} {v : Value} {l : List Int}
theorem Sz.slice (h : Sz W base v l) : ∃ A c, v = .slice A l.length c ∧ l.length ≤ c ∧ Kd.C (Kd.int .u64) W A l.length l := by
 rcases h with h | ⟨g, cs, rfl, _, _, hC⟩
 ·obtain ⟨A, c, rfl⟩ := Kd.R_slice h
  exact ⟨A, c, rfl, (Kd.R_reads' h).2.1, (Kd.R_reads' h).2.2⟩
 ·exact ⟨_, _, rfl, Nat.le_refl _, hC⟩
theorem Sz.typed (h : Sz W base v l) : ∀ k, v.ownBlock = some k → base ≤ k ∧ ∃ cells, W.heap[k]? = some (.cells cells 24 (0, 0)) := by
 rcases h with h | ⟨g, cs, rfl, hb, hh, _⟩
 ·exact fun k hk => ⟨Kd.R_base h k hk, Kd.R_typed h k hk⟩
 ·intro k hk
  obtain rfl : g = k := by simpa [Value.ownBlock] using hk
  exact ⟨hb, cs, hh⟩
theorem Sz.nil (W : World) (base : Nat) : Sz W base (.slice none 0 0) [] := .inl (Kd.R_nil _ _ _ _ _)
/-- What lies in its block lies there still. -/
theorem Sz.step (h : Sz W base v l) (hk : ∀ k, v.ownBlock = some k → W1.heap[k]? = W.heap[k]?) : Sz W1 base v l := by
 rcases h with h | ⟨g, cs, rfl, hb, hh, hC⟩
 ·refine .inl (Kd.R_mono (Kd.R_move (ok := fun k => v.ownBlock = some k) ?_ hk) (fun _ _ => trivial))
  obtain ⟨_, inner, hown, hr⟩ := h
  refine ⟨fun k hk => hk, inner, hown, hr.imp_ (fun x c hp => ?_)⟩
  have : c = [Value.int .u64 x] := hp
  exact this
 ·have hg := hk g (by simp [Value.ownBlock])
  refine .inr ⟨g, cs, rfl, hb, hg.trans hh, hC.1, hC.2.1, fun hp => ?_⟩
  obtain ⟨ad, e, h3⟩ := hC.2.2 hp
  injection e with e
  subst e
  refine ⟨_, rfl, fun j p hj => ?_⟩
  obtain ⟨c, h4, h5, h6⟩ := h3 j p hj
  refine ⟨c, h4, h5, fun i u hu => ?_⟩
  have h7 := h6 i u hu
  have e : ∀ x : Nat, (Addr.add ⟨g, 0, none⟩ x).block = g := fun x => by unfold Addr.add; split <;> rfl
  unfold World.cell? at h7 ⊢
  rw [e] at h7 ⊢
  rw [hg]
  exact h7
theorem info24z : (Tryd.prog.info? 24).map (fun i => (i.zero, i.size, i.bytes)) = some (some (.int .u64 0), 1, 8) := by kernel_rfl
theorem u64_one {w : World} {l : List Int} {inner : List Value} (h : Reps ((Kd.int .u64).K w) (Kd.int .u64).sz l inner) : ∀ u ∈ inner, u.oneCell' = true := by
 intro u hu
 obtain ⟨q, hq, rfl⟩ := List.mem_iff_getElem.1 hu
 have hs : (Kd.int .u64).sz = 1 := rfl
 have hl := h.1
 rw [hs, Nat.mul_one] at hl
 have hc := h.2 q _ (List.getElem?_eq_getElem (by omega))
 rw [hs, Nat.mul_one] at hc
 refine (Kd.int .u64).K_one hc _ ?_
 rw [List.mem_iff_getElem?]
 refine ⟨0, ?_⟩
 rw [List.getElem?_take, if_pos (by decide), List.getElem?_drop, Nat.add_zero, List.getElem?_eq_getElem hq]
/-- Numbers are put behind a row of sizes. -/
theorem Sz.append (h : Sz W base v l) (hbase : base ≤ W.heap.size) (ty : TypeId) {A : Option Addr} {m c : Nat} {ys : List Int} (hC : Kd.C (Kd.int .u64) W A m ys) (hl : (l.length + m) * 8 ≤ 140737488355328) :
  ∃ v1 w1, (Builtin.append_ #[50, 50] ty #[v, .slice A m c]).run Tryd.prog W = .ok v1 w1 ∧ Sz w1 base v1 (l ++ ys) ∧ W.grownBy w1 v.ownBlock ∧ (v1.ownBlock = v.ownBlock ∨ ∃ b, v1.ownBlock = some b ∧ W.heap.size ≤ b) := by
 obtain ⟨i0, hi, hzz⟩ := Option.map_eq_some_iff.1 info24z
 simp only [Prod.mk.injEq] at hzz
 obtain ⟨hz0, hz1, hz2⟩ := hzz
 have hm : ys.length = m := hC.1
 have hmax : l.length + m ≤ maxLen := by simp only [maxLen]; omega
 have hz : (Value.int .u64 0).cells.size = 1 := rfl
 have stay : m = 0 → ∀ A1 c1, v = .slice A1 l.length c1 → l.length ≤ c1 → ∃ v1 w1, (Builtin.append_ #[50, 50] ty #[v, .slice A m c]).run Tryd.prog W = .ok v1 w1 ∧ Sz w1 base v1 (l ++ ys) ∧ W.grownBy w1 v.ownBlock ∧ (v1.ownBlock = v.ownBlock ∨ ∃ b, v1.ownBlock = some b ∧ W.heap.size ≤ b) := by
  intro h0 A1 c1 e hlc
  subst h0
  obtain rfl : ys = [] := List.eq_nil_of_length_eq_zero hm
  refine ⟨v, W, ?_, by rw [List.append_nil]; exact h, World.grownBy.refl W _, .inl rfl⟩
  subst e
  cases A <;> cases A1 <;> simp [Builtin.append_, run_underlying Tryd.underlying50, sizeOf, typeInfo, hi, hz1, Builtin.lenOf, Builtin.firstCells, hlc, storeCells, loadCells, loadCellsFrom]
 by_cases h0 : m = 0
 ·obtain ⟨A1, c1, e, hlc, _⟩ := h.slice
  exact stay h0 A1 c1 e hlc
 rcases A with _ | ad
 ·obtain ⟨ad, h, _⟩ := hC.2.2 (by omega)
  cases h
 obtain ⟨news, hnr, hnc⟩ := ReadsRow.inner_ hC
 have hnl : news.length = m * 1 := by rw [hnr.1, hm]; rfl
 rcases h with h | ⟨g, cs, rfl, hb, hh, hCl⟩
 ·obtain ⟨_, inner, hown, hr⟩ := h
  obtain ⟨v1, w1, hrun, h2, hg, _, hat⟩ := run_append_own_at (P := Tryd.prog) W base 50 ty 24 i0 (.int .u64 0) 1 8 Tryd.underlying50 hi hz0 hz1 hz2 hz (by decide) v l.length inner hown ad m c news hnl hnc (u64_one hnr) hmax hl hbase
  refine ⟨v1, w1, hrun, .inl ⟨fun _ _ => trivial, inner ++ news, by rw [List.length_append, hm]; exact h2, Kd.reps_append (hr.imp_ fun x c hp => ?_) (hnr.imp_ fun x c hp => ?_)⟩, hg, hat.imp_right fun hat => ⟨_, hat, Nat.le_refl _⟩⟩
  ·have : c = [Value.int .u64 x] := hp
   exact this
  ·have : c = [Value.int .u64 x] := hp
   exact this
 ·obtain ⟨olds, hor, hoc⟩ := ReadsRow.inner_ hCl
  have hol : olds.length = l.length * 1 := hor.1
  obtain ⟨v1, w1, hrun, h2, hg⟩ := run_append_arg_grows (P := Tryd.prog) W 50 ty 24 i0 (.int .u64 0) 1 8 Tryd.underlying50 hi hz0 hz1 hz2 hz (by decide) ⟨g, 0, none⟩ l.length l.length olds hol hoc ad m c news hnl hnc (by omega) hmax hl
  have hob : ∀ k, v1.ownBlock = some k → W.heap.size ≤ k := by
   intro k hk
   rcases h2.2 with ⟨rfl, _⟩ | ⟨g', cap, cur, rfl, hge, _⟩
   ·cases hk
   ·have : g' = k := by simpa [Value.ownBlock] using hk
    omega
  refine ⟨v1, w1, hrun, .inl ⟨fun _ _ => trivial, olds ++ news, ?_, Kd.reps_append (hor.imp_ fun x c hp => ?_) (hnr.imp_ fun x c hp => ?_)⟩, ⟨hg.os, hg.tape, hg.output, hg.size, fun k hk _ => hg.block k hk (by simp)⟩, ?_⟩
  ·rw [List.length_append, hm]
   refine ⟨h2.1, ?_⟩
   rcases h2.2 with h3 | ⟨g', cap, cur, e, hge, h3⟩
   ·exact .inl h3
   ·exact .inr ⟨g', cap, cur, e, by omega, h3⟩
  ·have : c = [Value.int .u64 x] := hp
   exact this
  ·have : c = [Value.int .u64 x] := hp
   exact this
  ·refine .inr ?_
   rcases h2.2 with ⟨_, h3⟩ | ⟨g', cap, cur, rfl, hge, _⟩
   ·omega
   ·exact ⟨g', rfl, hge⟩
end
section
variable {P : Program} {ops : Array Oper} {rest : List Oper} {o : Oper} {a : Act} {Q : Exit → Act → World → Prop} {Kc : Act → World → Prop} {W w1 : World} {v u v1 : Value} {t : TypeId}
/-- append, by what it comes to. -/
theorem append_wp (hgd : o.guard = none) (s x : Operand) (ho : o.op = .call { callee := .builtin .append, args := #[s, x], argTypes := #[t, t] }) (hs : a.eval s = v) (hx : a.eval x = u)
  (hr : (Builtin.append_ #[t, t] o.type #[v, u]).run P W = .ok v1 w1) (h : wpList P ops Q rest (a.put o.dst v1) w1) : wpList P ops Q (o :: rest) a W := by
 refine wpList_plain hgd fun K hK => ?_
 unfold Oper.wp execOp
 simp only [ho, resolve, invoke, builtin, Sem.run_bind, Sem.run_pure, Result.andThen_ok, List.map_toArray, List.map_cons, List.map_nil, hs, hx, hr]
 exact hK _ _ h
theorem append_step (hw : Region.wanted o (yielded ops a.tmps) = true) (s x : Operand) (ho : o.op = .call { callee := .builtin .append, args := #[s, x], argTypes := #[t, t] }) (hs : a.eval s = v) (hx : a.eval x = u)
  (hr : (Builtin.append_ #[t, t] o.type #[v, u]).run P W = .ok v1 w1) (h : Kc (a.put o.dst v1) w1) : if Region.wanted o (yielded ops a.tmps) = true then Oper.wp P o a W Kc Q else Kc (a.put o.dst undef) W := by
 rw [if_pos hw]
 unfold Oper.wp execOp
 simp only [ho, resolve, invoke, builtin, Sem.run_bind, Sem.run_pure, Result.andThen_ok, List.map_toArray, List.map_cons, List.map_nil, hs, hx, hr]
 exact h
end
section
variable {w0 W : World} {g p : Nat} {d : Dat} {c1 c2 c3 : Value}
theorem add0 (gb i : Nat) : (⟨gb, 0, none⟩ : Addr).add i = ⟨gb, i, none⟩ := by
 unfold Addr.add
 split
 ·next h => rw [h]
 ·rw [Nat.zero_add]
set_option maxHeartbeats 8000000 in
set_option maxRecDepth 100000 in
theorem RmBlk_calls (h : Nd w0 W g d p c1 c2 c3) (i : Nat) (hi : i < d.blocks.length) (hm : d.blocks.length ≤ 1000000) : Calls Tryd.prog 76 #[.pointer (some ⟨g, 0, none⟩), .int .i64 (i : Int)] W fun e w' => e = .returned (.tuple #[]) ∧ ∃ c2' c3', Nd w0 w' g { d with size := some (newSz d.size (wrap64 (-(wrap64 (rd d.blocks (i : Int)))))), blocks := d.blocks.eraseIdx i } p c1 c2' c3' := by
 have HN := Aside0.mk h
 have HM := Aside0.mk hm
 obtain ⟨n, hn⟩ : ∃ n, n = d.blocks.length := ⟨_, rfl⟩
 obtain ⟨gb, cap, rfl, hgb, hlt, _⟩ := Kd.R_form h.blks (by omega)
 have hgne : gb ≠ g ∧ gb ≠ p := h.blks.1 gb (by simp [Value.ownBlock])
 rw [← hn] at hi hm HN
 obtain ⟨hn0, hncap, hC⟩ := Kd.R_reads' h.blks
 obtain ⟨ad, eA, hx⟩ := Kd.at_int hC (i : Int) (by omega) (by omega)
 cases eA
 obtain ⟨x, hxx⟩ : ∃ x, x = rd d.blocks (i : Int) := ⟨_, rfl⟩
 rw [← hxx, Int.toNat_natCast, add0] at hx
 have HXX := Aside0.mk hxx
 obtain ⟨y, hy⟩ : ∃ y : Int, wrap64 x = y := ⟨_, rfl⟩
 have hyw : IntKind.i64.wrap x = y := (i64_w _).trans hy
 obtain ⟨z, hz⟩ : ∃ z : Int, wrap64 (-y) = z := ⟨_, rfl⟩
 have hzw : IntKind.i64.wrap (-y) = z := (i64_w _).trans hz
 have HZ := Aside0.mk (show z = wrap64 (-(wrap64 (rd d.blocks (i : Int)))) by rw [← hz, ← hy, hxx])
 have I24 : Aside0 ((Tryd.prog.info? 24).map (·.size) = some 1) := ⟨by kernel_rfl⟩
 have hg3 := (blk_cell h.blk 3).trans rfl
 rw [← hn] at hg3
 have hi0 : ((0 : Int) ≤ (i : Int)) = True := eq_true (by omega)
 have hi1 : ((i : Int) < (n : Int)) = True := eq_true (by omega)
 have hi1' : (i < n) = True := eq_true hi
 have HIN := Aside0.mk hi
 have HGB := Aside0.mk hgne.1
 obtain ⟨i1, hi1e⟩ : ∃ y : Int, wrap64 ((i : Int) + 1) = y := ⟨_, rfl⟩
 have hi1w : IntKind.i64.wrap ((i : Int) + 1) = i1 := (i64_w _).trans hi1e
 have hi1v : i1 = ((i + 1 : Nat) : Int) := by rw [← hi1e]; unfold wrap64; omega
 obtain ⟨i24, hi24, hs24⟩ := Option.map_eq_some_iff.1 I24.out
 have hcutA : ∀ W : World, (Instr.slice 50 (.slice (some ⟨gb, 0, none⟩) n cap) none (some (.int .i64 (i : Int))) none).run Tryd.prog W = .ok (.slice (some ⟨gb, 0, none⟩) i cap) W := fun W => by
  have := cut_to (P := Tryd.prog) 50 24 .i64 Tryd.underlying50 hi24 (some ⟨gb, 0, none⟩) n cap (i : Int) (by omega) (by omega) (by omega) W
  rwa [Int.toNat_natCast] at this
 have hcutB := cut_from (P := Tryd.prog) 50 24 .i64 Tryd.underlying50 hi24 1 hs24 (some ⟨gb, 0, none⟩) n cap i1 (by omega) (by omega)
 obtain ⟨DD, hDD⟩ : ∃ D_, D_ = (if cap = i1.toNat then some (⟨gb, 0, none⟩ : Addr) else Option.map (fun x : Addr => x.add (i1.toNat * 1)) (some ⟨gb, 0, none⟩)) := ⟨_, rfl⟩
 rw [← hDD] at hcutB
 obtain ⟨m2, hm2⟩ : ∃ m, m = n - i1.toNat := ⟨_, rfl⟩
 obtain ⟨k2, hk2⟩ : ∃ m, m = cap - i1.toNat := ⟨_, rfl⟩
 rw [← hm2, ← hk2] at hcutB
 have ei1 : i1.toNat = i + 1 := by omega
 rw [ei1] at hDD hm2
 have HDD := Aside0.mk hDD
 have HM2 := Aside0.mk hm2
 have HNN := Aside0.mk hn
 clear h hm hn hi hgne hgb hlt hn0 hncap hC hxx hy hz hi1e hi1v hi24 hs24 hDD hm2 hk2 ei1 I24
 have I24 : Aside0 ((Tryd.prog.info? 24).map (·.size) = some 1) := ⟨by kernel_rfl⟩
 go_enter Tryd.func76, Tryd.ntmps76
 go_wp2_with (first | (go_at_call 78; refine (UpdSize_calls HN.out z).mono ?_; rintro e w1 ⟨rfl, ⟨c2', hN⟩, hKp⟩; have HN1 := Aside0.mk hN; have HR1 := Aside0.mk (Kd.R_drew hN.blks); have hk3 := (blk_cell hN.blk 3).trans rfl; clear hN hg3 hx))
 refine start_ (n := 21) (S := fun w' => w'.cell? ⟨g, 3, none⟩ = some (.slice (some ⟨gb, 0, none⟩) n cap)) (ds := [20]) #[false, false, false, false, false, false, false, false, false, false, false, false, false, false, false, false, false, false, false, false, false] (by kernel_rfl) rfl rfl (hk3) (fun hHeld => ?_)
 refine pure_ (i := 0) (N := some 16) (v := ?_) (a' := ?_) #[true, false, false, false, false, false, false, false, false, false, false, false, false, false, false, false, false, false, false, false, false] rfl rfl (by kernel_rfl) (fun _ _ _ h => h) (Or.inl ⟨by rfl, ?_⟩) ?_ ?_
 rotate_left
 ·intro w'
  go_simp
  with_reducible rfl
 rotate_left
 ·simp only [Act.put, List.setIfInBounds_toArray, List.set_cons_zero, List.set_cons_succ, i64_w, i32_w]
  rfl
 refine pure_ (i := 1) (N := some 17) (v := ?_) (a' := ?_) #[true, true, false, false, false, false, false, false, false, false, false, false, false, false, false, false, false, false, false, false, false] rfl rfl (by kernel_rfl) (fun _ _ _ h => h) (Or.inl ⟨by rfl, ?_⟩) ?_ ?_
 rotate_left
 ·intro w'
  go_simp
  with_reducible rfl
 rotate_left
 ·simp only [Act.put, List.setIfInBounds_toArray, List.set_cons_zero, List.set_cons_succ, i64_w, i32_w]
  rfl
 refine pure_ (i := 2) (N := some 18) (v := ?_) (a' := ?_) #[true, true, true, false, false, false, false, false, false, false, false, false, false, false, false, false, false, false, false, false, false] rfl rfl (by kernel_rfl) (fun _ _ _ h => h) (Or.inl ⟨by rfl, ?_⟩) ?_ ?_
 rotate_left
 ·intro w'
  go_simp
  with_reducible rfl
 rotate_left
 ·simp only [Act.put, List.setIfInBounds_toArray, List.set_cons_zero, List.set_cons_succ, i64_w, i32_w]
  rfl
 refine pure_ (i := 3) (N := some 19) (v := ?_) (a' := ?_) #[true, true, true, true, false, false, false, false, false, false, false, false, false, false, false, false, false, false, false, false, false] rfl rfl (by kernel_rfl) (fun _ _ _ h => h) (Or.inl ⟨by rfl, ?_⟩) ?_ ?_
 rotate_left
 ·intro w'
  go_simp
  with_reducible rfl
 rotate_left
 ·simp only [Act.put, List.setIfInBounds_toArray, List.set_cons_zero, List.set_cons_succ, i64_w, i32_w]
  rfl
 refine pure_ (i := 4) (N := some 20) (v := ?_) (a' := ?_) #[true, true, true, true, true, false, false, false, false, false, false, false, false, false, false, false, false, false, false, false, false] rfl rfl (by kernel_rfl) (fun _ _ _ h => h) (Or.inl ⟨by rfl, ?_⟩) ?_ ?_
 rotate_left
 ·intro w'
  go_simp
  with_reducible rfl
 rotate_left
 ·simp only [Act.put, List.setIfInBounds_toArray, List.set_cons_zero, List.set_cons_succ, i64_w, i32_w]
  rfl
 refine pure_ (i := 6) (N := some 22) (v := ?_) (a' := ?_) #[true, true, true, true, true, false, true, false, false, false, false, false, false, false, false, false, false, false, false, false, false] rfl rfl (by kernel_rfl) (fun _ _ _ h => h) (Or.inl ⟨by rfl, ?_⟩) ?_ ?_
 rotate_left
 ·intro w'
  go_simp
  with_reducible rfl
 rotate_left
 ·simp only [Act.put, List.setIfInBounds_toArray, List.set_cons_zero, List.set_cons_succ, i64_w, i32_w]
  rfl
 refine pure_ (i := 8) (N := some 24) (v := ?_) (a' := ?_) #[true, true, true, true, true, false, true, false, true, false, false, false, false, false, false, false, false, false, false, false, false] rfl rfl (by kernel_rfl) (fun _ _ _ h => h) (Or.inl ⟨by rfl, ?_⟩) ?_ ?_
 rotate_left
 ·intro w'
  go_simp
  with_reducible rfl
 rotate_left
 ·simp only [Act.put, List.setIfInBounds_toArray, List.set_cons_zero, List.set_cons_succ, i64_w, i32_w]
  rfl
 refine pure_ (i := 9) (N := some 25) (v := ?_) (a' := ?_) #[true, true, true, true, true, false, true, false, true, true, false, false, false, false, false, false, false, false, false, false, false] rfl rfl (by kernel_rfl) (fun _ _ _ h => h) (Or.inl ⟨by rfl, ?_⟩) ?_ ?_
 rotate_left
 ·intro w'
  go_simp
  with_reducible rfl
 rotate_left
 ·simp only [Act.put, List.setIfInBounds_toArray, List.set_cons_zero, List.set_cons_succ, i64_w, i32_w]
  rfl
 refine pure_ (i := 10) (N := some 26) (v := ?_) (a' := ?_) #[true, true, true, true, true, false, true, false, true, true, true, false, false, false, false, false, false, false, false, false, false] rfl rfl (by kernel_rfl) (fun _ _ _ h => h) (Or.inl ⟨by rfl, ?_⟩) ?_ ?_
 rotate_left
 ·intro w'
  go_simp
  with_reducible rfl
 rotate_left
 ·simp only [Act.put, List.setIfInBounds_toArray, List.set_cons_zero, List.set_cons_succ, i64_w, i32_w]
  rfl
 refine pure_ (i := 11) (N := some 27) (v := ?_) (a' := ?_) #[true, true, true, true, true, false, true, false, true, true, true, true, false, false, false, false, false, false, false, false, false] rfl rfl (by kernel_rfl) (fun _ _ _ h => h) (Or.inl ⟨by rfl, ?_⟩) ?_ ?_
 rotate_left
 ·intro w'
  go_simp
  with_reducible rfl
 rotate_left
 ·simp only [Act.put, List.setIfInBounds_toArray, List.set_cons_zero, List.set_cons_succ, i64_w, i32_w]
  rfl
 refine pure_ (i := 13) (N := some 29) (v := ?_) (a' := ?_) #[true, true, true, true, true, false, true, false, true, true, true, true, false, true, false, false, false, false, false, false, false] rfl rfl (by kernel_rfl) (fun _ _ _ h => h) (Or.inl ⟨by rfl, ?_⟩) ?_ ?_
 rotate_left
 ·intro w'
  go_simp
  with_reducible rfl
 rotate_left
 ·simp only [Act.put, List.setIfInBounds_toArray, List.set_cons_zero, List.set_cons_succ, i64_w, i32_w]
  rfl
 refine pure_ (i := 14) (N := some 30) (v := ?_) (a' := ?_) #[true, true, true, true, true, false, true, false, true, true, true, true, false, true, true, false, false, false, false, false, false] rfl rfl (by kernel_rfl) (fun _ _ _ h => h) (Or.inl ⟨by rfl, ?_⟩) ?_ ?_
 rotate_left
 ·intro w'
  go_simp
  with_reducible rfl
 rotate_left
 ·simp only [Act.put, List.setIfInBounds_toArray, List.set_cons_zero, List.set_cons_succ, i64_w, i32_w]
  rfl
 refine take_ (i := 5) (N := some 21) (v := ?_) (a' := ?_) #[true, true, true, true, true, true, true, false, true, true, true, true, false, true, true, false, false, false, false, false, false] rfl rfl (by kernel_rfl) (fun _ _ _ h => h) (Or.inl ⟨by rfl, ?_⟩) hHeld ?_ ?_
 rotate_left
 ·intro w' s0
  go_simp
  with_reducible rfl
 rotate_left
 ·simp only [Act.put, List.setIfInBounds_toArray, List.set_cons_zero, List.set_cons_succ, i64_w, i32_w]
  rfl
 refine pure_ (i := 7) (N := some 23) (v := ?_) (a' := ?_) #[true, true, true, true, true, true, true, true, true, true, true, true, false, true, true, false, false, false, false, false, false] rfl rfl (by kernel_rfl) (fun _ _ _ h => h) (Or.inl ⟨by rfl, ?_⟩) ?_ ?_
 rotate_left
 ·intro w'
  go_simp
  with_reducible rfl
 rotate_left
 ·simp only [Act.put, List.setIfInBounds_toArray, List.set_cons_zero, List.set_cons_succ, i64_w, i32_w]
  rfl
 refine take_ (i := 12) (N := some 28) (v := ?_) (a' := ?_) #[true, true, true, true, true, true, true, true, true, true, true, true, true, true, true, false, false, false, false, false, false] rfl rfl (by kernel_rfl) (fun _ _ _ h => h) (Or.inl ⟨by rfl, ?_⟩) hHeld ?_ ?_
 rotate_left
 ·intro w' s0
  go_simp
  with_reducible rfl
 rotate_left
 ·simp only [Act.put, List.setIfInBounds_toArray, List.set_cons_zero, List.set_cons_succ, i64_w, i32_w]
  rfl
 refine pure_ (i := 15) (N := some 31) (v := ?_) (a' := ?_) #[true, true, true, true, true, true, true, true, true, true, true, true, true, true, true, true, false, false, false, false, false] rfl rfl (by kernel_rfl) (fun _ _ _ h => h) (Or.inl ⟨by rfl, ?_⟩) ?_ ?_
 rotate_left
 ·intro w'
  go_simp
  with_reducible rfl
 rotate_left
 ·simp only [Act.put, List.setIfInBounds_toArray, List.set_cons_zero, List.set_cons_succ, i64_w, i32_w]
  rfl
 refine one_ (i := 16) (N := some 32) #[true, true, true, true, true, true, true, true, true, true, true, true, true, true, true, true, true, false, false, false, false] rfl rfl (by kernel_rfl) (by decide) (fun K hK => ?_)
 refine Kd.R_delete_step (Kd.int .u64) (w0 := w0) w0.heap.size (by rfl) (.tmp 23) (.tmp 31) 50 24 rfl Tryd.underlying50 I24.out rfl rfl HDD.out HM2.out HR1.out HIN.out (below_drew HN1.out.below) (below_size (below_drew HN1.out.below)) ?_
 intro wa hR hB hg
 have HRa := Aside0.mk hR
 have HBa := Aside0.mk hB
 have HGa := Aside0.mk hg
 have hga_ := (hg.block g (blk_lt HN1.out.blk) (fun e => HGB.out (by injection e with e; exact e.symm))).trans HN1.out.blk
 have hga := (blk_cell hga_ 3).trans rfl
 have hgaf := blk_frozen hga_ 3
 clear hR hB hg hga_ hk3
 refine hK.out _ _ (hga) (fun hHeld => ?_)
 clear hK K
 refine norm_ (a' := ?_) ?_ ?_
 rotate_left
 ·show Act.put _ (some 32) _ = _
  simp only [Act.put, List.setIfInBounds_toArray, List.set_cons_zero, List.set_cons_succ, i64_w, i32_w]
  rfl
 refine pure_ (i := 17) (N := some 33) (v := ?_) (a' := ?_) #[true, true, true, true, true, true, true, true, true, true, true, true, true, true, true, true, true, true, false, false, false] rfl rfl (by kernel_rfl) (fun _ _ _ h => h) (Or.inl ⟨by rfl, ?_⟩) ?_ ?_
 rotate_left
 ·intro w'
  go_simp
  with_reducible rfl
 rotate_left
 ·simp only [Act.put, List.setIfInBounds_toArray, List.set_cons_zero, List.set_cons_succ, i64_w, i32_w]
  rfl
 refine pure_ (i := 18) (N := some 34) (v := ?_) (a' := ?_) #[true, true, true, true, true, true, true, true, true, true, true, true, true, true, true, true, true, true, true, false, false] rfl rfl (by kernel_rfl) (fun _ _ _ h => h) (Or.inl ⟨by rfl, ?_⟩) ?_ ?_
 rotate_left
 ·intro w'
  go_simp
  with_reducible rfl
 rotate_left
 ·simp only [Act.put, List.setIfInBounds_toArray, List.set_cons_zero, List.set_cons_succ, i64_w, i32_w]
  rfl
 refine pure_ (i := 19) (N := some 35) (v := ?_) (a' := ?_) #[true, true, true, true, true, true, true, true, true, true, true, true, true, true, true, true, true, true, true, true, false] rfl rfl (by kernel_rfl) (fun _ _ _ h => h) (Or.inl ⟨by rfl, ?_⟩) ?_ ?_
 rotate_left
 ·intro w'
  go_simp
  with_reducible rfl
 rotate_left
 ·simp only [Act.put, List.setIfInBounds_toArray, List.set_cons_zero, List.set_cons_succ, i64_w, i32_w]
  rfl
 refine last_ (i := 20) (N := none) #[true, true, true, true, true, true, true, true, true, true, true, true, true, true, true, true, true, true, true, true, true] rfl rfl (by kernel_rfl) (by decide) (fun K hK => ?_)
 refine skip_ (w1 := ?_) (by rfl) rfl ?_ ?_
 rotate_left
 ·go_simp
  rfl
 refine hK.out _ _ ?_
 clear hK K
 refine done_ (by kernel_rfl) ?_

 refine bodyPost_end (results_none rfl _ _ _) rfl ?_
 have hn1 := HN1.out.more (below_drew (Below.refl _ w1))
 have hfin := hn1.setBlks (d.blocks.eraseIdx i) (w1 := wa) (v1 := .slice (some ⟨gb, 0, none⟩) (n - 1) cap) HGa.out HBa.out HRa.out (.inl rfl)
 rw [HZ.out] at hfin
 exact ⟨rfl, c2', _, hfin⟩
end
section
variable {w0 W : World} {g p : Nat} {d : Dat} {c1 c2 c3 : Value}
set_option maxHeartbeats 8000000 in
theorem NumCh_calls (h : Nd w0 W g d p c1 c2 c3) : Calls Tryd.prog 75 #[.pointer (some ⟨g, 0, none⟩)] W fun e w' => e = .returned (.int .i64 (d.blocks.length : Int)) ∧ w' = W := by
 obtain ⟨A3, k3, rfl⟩ := Kd.R_slice h.blks
 have hg3 := (blk_cell h.blk 3).trans rfl
 clear h
 go_enter Tryd.func75, Tryd.ntmps75
 go_wp2_with fail
 go_ret
 exact ⟨rfl, rfl⟩
set_option maxHeartbeats 8000000 in
theorem RmAll_calls (h : Nd w0 W g d p c1 c2 c3) (hf : Fit d) : Calls Tryd.prog 77 #[.pointer (some ⟨g, 0, none⟩)] W fun e w' => e = .returned (.tuple #[]) ∧ ∃ c2' c3', Nd w0 w' g { d with size := some (d.data.getD []).length, blocks := [] } p c1 c2' c3' := by
 obtain ⟨A1, k1, ec1, hl1, _⟩ := h.rd.dataC
 obtain ⟨m, hm⟩ : ∃ m : Nat, m = (d.data.getD []).length := ⟨_, rfl⟩
 rw [← hm] at ec1
 have HM := Aside0.mk hm
 have hmb : IntKind.u64.wrap (m : Int) = (m : Int) := by
  have : m ≤ 1000000 := by
   rw [hm]; cases hd : d.data with
   | none => exact Nat.zero_le _
   | some xs => exact hf.data xs hd
  exact words_u64 _ (by omega) (by omega)
 have h1 := h.setBlks [] (w1 := W.alloc (.cells #[] 24)) (v1 := .slice (some ⟨W.heap.size, 0, none⟩) 0 0) (World.grownBy_alloc W _ _) (below_alloc h.below _) (Kd.R_of_own (xs := ([] : List Int)) (World.ownsRow_made W #[] 0 h.below.size (Nat.zero_le _) rfl) (fun k hk => by have h1 : W.heap.size = k := (by simpa [Value.ownBlock] using hk); have := blk_lt h.blk; have := blk_lt h.ty; omega)) (.inr (.inr ⟨_, rfl, Nat.le_refl _⟩))
 have HN := Aside0.mk h
 have HN1 := Aside0.mk h1
 have hg3 := (blk_cell ((Below.heap_alloc W (.cells #[] 24) g (blk_lt h.blk)).trans h.blk) 3).trans rfl
 have hg3f := blk_frozen ((Below.heap_alloc W (.cells #[] 24) g (blk_lt h.blk)).trans h.blk) 3
 subst ec1
 clear h h1 hl1 hm
 go_enter Tryd.func77, Tryd.ntmps77
 go_wp2_with (first
  | (go_at_call 105; refine (FsData_calls HN1.out).mono ?_; rintro e w1 ⟨rfl, hw⟩; rw [hw]; clear hw)
  | (go_at_call 100; refine (Uint64_calls _ _).mono ?_; rintro e w1 ⟨rfl, hw⟩; have HW1 := Aside0.mk hw; have hn1 := HN1.out.more (below_alloc (Below.refl _ _) (.cells #[.int .u64 (m : Int)] 24)); rw [← hw] at hn1; have hk2 := (blk_cell hn1.blk 2).trans rfl; have hk2f := blk_frozen hn1.blk 2; have HN2 := Aside0.mk hn1; clear hw hn1))
 refine bodyPost_end (results_none rfl _ _ _) rfl ?_
 have hsz : ((W.alloc (.cells #[] 24)).setCell ⟨g, 3, none⟩ (.slice (some ⟨W.heap.size, 0, none⟩) 0 0)).heap.size = W.heap.size + 1 := by simp [World.setCell]
 have hs : w1.heap[W.heap.size + 1]? = some (.cells #[.int .u64 (m : Int)] 24 (0, 0)) := by
  rw [HW1.out]
  have := blk_new ((W.alloc (.cells #[] 24)).setCell ⟨g, 3, none⟩ (.slice (some ⟨W.heap.size, 0, none⟩) 0 0)) (.cells #[.int .u64 (m : Int)] 24)
  rwa [hsz] at this
 have hlt := blk_lt HN.out.blk
 have hfin := HN2.out.setSize m hs (by omega) (by simp [Value.ownBlock])
 have ee : some m = some (d.data.getD []).length := by rw [HM.out]
 rw [← ee]
 exact ⟨rfl, _, _, hfin⟩
end
end Go.Proofs.YtnhnlodmkbiiiaaDoor.HandFields
