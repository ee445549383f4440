/- A link is written: pbLink, Size, Marshal, by what they hand back, for any of its fields there or not. -/
import Derived.Test.YtnhnlodmkbiiiaaDoorG5
import Derived.Lib.BufferWrite
import Derived.Lib.SlBuf
namespace Go.Proofs.YtnhnlodmkbiiiaaDoor.HandPb
open Go Go.RowKit Go.Proofs.YtnhnlodmkbiiiaaDoorL Go.Proofs.YtnhnlodmkbiiiaaDoorW.PrintWords Go.Proofs.YtnhnlodmkbiiiaaDoorW.PrintLast Go.Proofs.YtnhnlodmkbiiiaaDoorW.PrintMore Go.Proofs.YtnhnlodmkbiiiaaDoor.HandFields Go.Proofs.YtnhnlodmkbiiiaaDoor.PPbShare
attribute [local go_sem] max2_int min2_int max_two min_two max_three min_three max_four min_four
set_option linter.unusedVariables false
set_option linter.unusedSimpArgs false
section
variable {ops : Array Oper} {rest : List Oper} {o : Oper} {a : Act} {Q : Exit → Act → World → Prop}
open Go.Proofs.YtnhnlodmkbiiiaaDoorW.PrintWords.Kd (scalar own_of_R)
theorem byteCells_nums (s : ByteArray) : Lib.byteCells s.data.toList = encs (Value.int .u8) (bytesOf s) := by
  unfold Lib.byteCells encs bytesOf
  rw [List.map_map]; rfl
/-- 'copy(row[lo:..], s)', s a string, into a row of the call's own. -/
theorem R_copy_str {w0 W : World} (base : Nat) (hgd : o.guard = none) (x y : Operand) (ho : o.op = .call { callee := .builtin .copy, args := #[x, y], argTypes := #[22, 9] })
    (g n cap : Nat) (xs : List Int) (st : ByteArray) (D : Option Addr) (dn dc lo : Nat) (ok : Nat → Prop) (hx : a.eval x = .slice D dn dc) (hy : a.eval y = .string st)
    (hD : 0 < st.size → D = some ⟨g, lo, none⟩) (hdn : st.size ≤ dn) (HO : Kd.R (Kd.int .u8) 5 W base ok (.slice (some ⟨g, 0, none⟩) n cap) xs) (hlo : lo + st.size ≤ n) (HB : Below base w0 W) (hbase : base ≤ W.heap.size)
    (h : ∀ w1, Kd.R (Kd.int .u8) 5 w1 base ok (.slice (some ⟨g, 0, none⟩) n cap) (xs.take lo ++ bytesOf st ++ xs.drop (lo + st.size)) → Below base w0 w1 → W.grownBy w1 (some g) → wpList Tryd.prog ops Q rest (a.put o.dst (.int .i64 (st.size : Int))) w1) :
    wpList Tryd.prog ops Q (o :: rest) a W := by
  have hm : (bytesOf st).length = st.size := bytesOf_length st
  have hinfo : (Tryd.prog.info? 5).map (·.size) = some 1 := by kernel_rfl
  rcases Nat.eq_zero_or_pos st.size with h0 | hp
  · have h1 : bytesOf st = [] := List.eq_nil_of_length_eq_zero (by omega)
    refine Lib.wpList_copy_run W hgd x y 22 9 ho _ _ hx hy (Lib.run_copy_empty_string W 22 9 o.type 5 D dn dc st Tryd.underlying22 (by rw [hinfo]; rfl) h0) ?_
    have h2 := h W (by rw [h1, h0]; simpa using HO) HB (World.grownBy.refl W _)
    rw [h0] at h2
    exact h2
  · have hD' := hD hp
    subst hD'
    have hown := own_of_R (h1 := fun _ => rfl) HO
    obtain ⟨hl, hcase⟩ := hown
    rcases hcase with ⟨hv, _⟩ | ⟨g', cap', cur, hv, hb, hh, hnc, hcm, hcs, htake⟩
    · simp at hv
    injection hv with q1 q2 q3
    injection q1 with q1
    injection q1 with q1
    subst q1 q2 q3
    rw [Nat.mul_one] at hcs htake
    refine Lib.wpList_copy_run W hgd x y 22 9 ho _ _ hx hy (Lib.run_copy_row_string W 22 9 o.type 5 g lo dn dc st cur 5 Tryd.underlying22 hinfo hh hdn (by omega)) ?_
    rw [byteCells_nums]
    have hlen2 : (xs.take lo ++ bytesOf st ++ xs.drop (lo + st.size)).length = xs.length := by simp [hm]; omega
    refine h _ ?_ ?_ (grown_setRow W g _)
    · have hown2 : (W.setRow g (cur.toList.take lo ++ (encs (Value.int .u8) (bytesOf st) ++ cur.toList.drop (lo + st.size))).toArray).ownsRow base 5 1 (.slice (some ⟨g, 0, none⟩) xs.length cap) (xs.take lo ++ bytesOf st ++ xs.drop (lo + st.size)).length (encs (Value.int .u8) (xs.take lo ++ bytesOf st ++ xs.drop (lo + st.size))) := by
        refine ⟨by rw [encs_length, Nat.mul_one], .inr ⟨g, cap, _, by rw [hlen2], hb, setRow_heap W g cur _ 5 (0, 0) hh, by omega, hcm, ?_, ?_⟩⟩
        · simp [encs_length, hm]; omega
        · rw [Nat.mul_one, hlen2]
          have := splice_encs (enc := Value.int .u8) xs (bytesOf st) lo cur.toList xs.length htake rfl (by omega) (by simp; omega)
          rw [encs_length, hm] at this
          simpa using this
      have := Kd.R_of_own (h1 := fun _ => rfl) (ok := ok) hown2 (fun k hk => HO.1 k hk)
      rw [List.append_assoc]
      exact this
    · exact below_setRow HB hb _
theorem St_copyS {w0 W : World} {gb n cap : Nat} {hh : Array Obj} {i : Nat} {s : List Int} (h : St w0 W gb n cap hh i s) (hgd : o.guard = none) (x y : Operand) (ho : o.op = .call { callee := .builtin .copy, args := #[x, y], argTypes := #[22, 9] })
    (st : ByteArray) (D : Option Addr) (dn dc : Nat) (hx : a.eval x = .slice D dn dc) (hy : a.eval y = .string st) (hD : 0 < st.size → D = some ⟨gb, i - st.size, none⟩) (hdn : st.size ≤ dn) (hmi : st.size ≤ i)
    (k : ∀ w1, St w0 w1 gb n cap hh (i - st.size) (bytesOf st ++ s) → wpList Tryd.prog ops Q rest (a.put o.dst (.int .i64 (st.size : Int))) w1) : wpList Tryd.prog ops Q (o :: rest) a W := by
  have hle := h.le
  have hm : (bytesOf st).length = st.size := bytesOf_length st
  obtain ⟨xs, hb, rfl, hs⟩ := h
  refine R_copy_str (w0 := w0) w0.heap.size hgd x y ho gb xs.length cap xs st D dn dc (i - st.size) (fun k => k = gb) hx hy hD hdn hb.row (by omega) hb.below (below_size hb.below) ?_
  intro w1 hR hB hg
  refine k w1 ⟨putL xs (i - st.size) (bytesOf st), ⟨?_, hB, fun k o hk hne => (hg.block k (blk_lt (hb.oth k o hk hne)) (fun e => hne (by injection e))).trans (hb.oth k o hk hne)⟩, putL_len _ _ _ (by omega), ?_⟩
  · rw [putL_len _ _ _ (by omega)]
    unfold putL
    rw [hm]
    exact hR
  · have := hs.put (bytesOf st) (by omega)
    rw [hm] at this
    exact this
end
def hsF : Option (List Int) → List Int
  | none => []
  | some xs => 10 :: (uv xs.length ++ xs)
def nmF : Option (List Int) → List Int
  | none => []
  | some xs => 18 :: (uv xs.length ++ xs)
def tsF : Option Nat → List Int
  | none => []
  | some m => 24 :: uv m
/-- The bytes of a link. -/
def mlink (s : Lnk) : List Int := hsF s.hash ++ (nmF s.name ++ tsF s.ts)
structure LFit (s : Lnk) : Prop where
  hash : ∀ xs, s.hash = some xs → xs.length ≤ 1000000
  name : ∀ xs, s.name = some xs → xs.length ≤ 1000000
  byte : ∀ xs, s.name = some xs → ∀ x ∈ xs, 0 ≤ x ∧ x ≤ 255
  ts : ∀ m, s.ts = some m → m < 2 ^ 64
section
variable {w : World} {g : Nat} {s : Lnk} {c0 c1 c2 : Value}
theorem RdL_ways (h : RdL w g s c0 c1 c2) (hf : LFit s) :
    ((Aside0 (s.hash = none) ∧ c0 = .slice none 0 0) ∨ (∃ xs A c L, Aside0 (s.hash = some xs) ∧ c0 = .slice (some A) xs.length c ∧ xs.length ≤ 1000000 ∧ L ≤ 10 ∧ Aside0 (L = (uv xs.length).length) ∧ Aside0 (Kd.C (Kd.int .u8) w (some A) xs.length xs))) ∧
    ((Aside0 (s.name = none) ∧ c1 = .pointer none) ∨ (∃ (ys : List Int) (p L : Nat), Aside0 (s.name = some ys) ∧ c1 = .pointer (some ⟨p, 0, none⟩) ∧ ys.length ≤ 1000000 ∧ L ≤ 10 ∧ Aside0 (L = (uv ys.length).length) ∧ Aside0 (w.heap[p]? = some (.cells #[.string (strOfNums ys)] 9 (0, 0))))) ∧
    ((Aside0 (s.ts = none) ∧ c2 = .pointer none) ∨ (∃ m p L : Nat, Aside0 (s.ts = some m) ∧ c2 = .pointer (some ⟨p, 0, none⟩) ∧ Aside0 (m < 2 ^ 64) ∧ L ≤ 10 ∧ Aside0 (L = (uv m).length) ∧ Aside0 (w.heap[p]? = some (.cells #[.int .u64 (m : Int)] 24 (0, 0))))) := by
  refine ⟨?_, ?_, ?_⟩
  · cases h0 : s.hash with
    | none => exact .inl ⟨⟨rfl⟩, h.hash0 h0⟩
    | some xs =>
      obtain ⟨A, c, e, hn, hC⟩ := h.hash1 xs h0
      have hl := hf.hash xs h0
      exact .inr ⟨xs, A, c, _, ⟨rfl⟩, e, hl, uv_len xs.length (by omega), ⟨rfl⟩, ⟨hC⟩⟩
  · cases h0 : s.name with
    | none => exact .inl ⟨⟨rfl⟩, h.name0 h0⟩
    | some xs =>
      obtain ⟨p, e, hp⟩ := h.name1 xs h0
      have hl := hf.name xs h0
      exact .inr ⟨xs, p, _, ⟨rfl⟩, e, hl, uv_len xs.length (by omega), ⟨rfl⟩, ⟨hp⟩⟩
  · cases h0 : s.ts with
    | none => exact .inl ⟨⟨rfl⟩, h.ts0 h0⟩
    | some m =>
      obtain ⟨p, e, hp⟩ := h.ts1 m h0
      exact .inr ⟨m, p, _, ⟨rfl⟩, e, ⟨hf.ts m h0⟩, uv_len m (hf.ts m h0), ⟨rfl⟩, ⟨hp⟩⟩
end
theorem ret_int' {k : IntKind} {a b : Int} (h : a = b) : Ending.returned (.int k a) = .returned (.int k b) := by rw [h]
set_option maxHeartbeats 16000000 in
set_option maxRecDepth 100000 in
theorem Size_link (w : World) (g : Nat) (s : Lnk) (c0 c1 c2 : Value) (h : RdL w g s c0 c1 c2) (hf : LFit s) :
    Calls Tryd.prog 56 #[.pointer (some ⟨g, 0, none⟩)] w fun e w' => e = .returned (.int .i64 ((mlink s).length : Int)) ∧ w' = w := by
  have hc0 := (blk_cell h.blk 0).trans rfl
  have hc1 := (blk_cell h.blk 1).trans rfl
  have hc2 := (blk_cell h.blk 2).trans rfl
  have hc3 := (blk_cell h.blk 3).trans rfl
  have n1 : ∀ W : World, (binOp .neq 22 (.slice none 0 0) (.slice none 0 0)).run Tryd.prog W = .ok (.bool false) W := fun W => run_neq_slice_nil' W 22 5 none 0 0 0 0 Tryd.underlying22
  obtain ⟨k0, k1, k2⟩ := RdL_ways h hf
  clear h hf
  rcases k0 with ⟨S0, rfl⟩ | ⟨xs, A, c, L0, S0, rfl, hl0, hL0, HL0, HC⟩ <;> rcases k1 with ⟨S1, rfl⟩ | ⟨ys, p1, L1, S1, rfl, hl1, hL1, HL1, HP1⟩ <;> rcases k2 with ⟨S2, rfl⟩ | ⟨m, p2, L2, S2, rfl, HM, hL2, HL2, HP2⟩
  all_goals
    try have n0 : ∀ W : World, (binOp .neq 22 (.slice (some A) xs.length c) (.slice none 0 0)).run Tryd.prog W = .ok (.bool true) W := fun W => run_neq_slice_nil' W 22 5 (some A) xs.length c 0 0 Tryd.underlying22
    try have HX0 := Aside0.mk hl0
    try have HX1 := Aside0.mk hl1
    try have hp1 : w.cell? ⟨p1, 0, none⟩ = some (.string (strOfNums ys)) := (blk_cell HP1.out 0).trans rfl
    try have hz1 : (strOfNums ys).size = ys.length := strOfNums_size ys
    try have hp2 : w.cell? ⟨p2, 0, none⟩ = some (.int .u64 (m : Int)) := (blk_cell HP2.out 0).trans rfl
    go_enter Tryd.func56, Tryd.ntmps56
    go_wp2_with (first | (go_at_call 96; (with_reducible refine (sov_callsM xs.length (by have := HX0.out; omega) w).mono ?_); rintro e w1 ⟨rfl, hw⟩; rw [hw]; clear hw; rw [← HL0.out]) | (go_at_call 96; (with_reducible refine (sov_callsM ys.length (by have := HX1.out; omega) w).mono ?_); rintro e w1 ⟨rfl, hw⟩; rw [hw]; clear hw; rw [← HL1.out]) | (go_at_call 96; (with_reducible refine (sov_callsM m HM.out w).mono ?_); rintro e w1 ⟨rfl, hw⟩; rw [hw]; clear hw; rw [← HL2.out]))
    go_ret
    refine ⟨ret_int' ?_, rfl⟩
    unfold mlink
    rw [S0.out, S1.out, S2.out]
    (try have h0 := HL0.out)
    (try have h1 := HL1.out)
    (try have h2 := HL2.out)
    simp only [hsF, nmF, tsF, List.length_append, List.length_cons, List.length_nil]
    omega
theorem bytesOf_str {ys : List Int} (h : ∀ x ∈ ys, 0 ≤ x ∧ x ≤ 255) : bytesOf (strOfNums ys) = ys := by
  unfold bytesOf
  rw [strOfNums_data, List.map_map]
  conv => { rhs; rw [← List.map_id ys] }
  refine List.map_congr_left (fun x hx => ?_)
  have := h x hx
  simp only [Function.comp, id, UInt8.toNat_ofNat']
  omega
theorem mlink_len {w : World} {g : Nat} {s : Lnk} {c0 c1 c2 : Value} (h : RdL w g s c0 c1 c2) (hf : LFit s) : (mlink s).length ≤ 40000000 := by
  unfold mlink; obtain ⟨k0, k1, k2⟩ := RdL_ways h hf
  rcases k0 with ⟨S0, _⟩ | ⟨xs, A, c, L0, S0, _, hl0, hL0, HL0, _⟩ <;> rcases k1 with ⟨S1, _⟩ | ⟨ys, p1, L1, S1, _, hl1, hL1, HL1, _⟩ <;> rcases k2 with ⟨S2, _⟩ | ⟨m, p2, L2, S2, _, _, hL2, HL2, _⟩
  all_goals
    rw [S0.out, S1.out, S2.out]
    (try have h0 := HL0.out)
    (try have h1 := HL1.out)
    (try have h2 := HL2.out)
    simp only [hsF, nmF, tsF, List.length_append, List.length_cons, List.length_nil]
    omega
section
variable {w0 W : World} {gb n cap : Nat} {hh : Array Obj} {P : Nat} {s : List Int}
/-- A number is encoded ahead of what stands, and a tag ahead of it: how far that goes. -/
theorem St_room (h : St w0 W gb n cap hh P s) (v : Nat) (L : Nat) (hL : L = (uv v).length) (hP : L + 1 ≤ P) : ∃ J : Nat, P - (uv v).length = J + 1 ∧ J + 1 + L = P := ⟨P - L - 1, by omega, by omega⟩
end
set_option maxHeartbeats 16000000 in
set_option maxRecDepth 100000 in
theorem Mts_link (w0 w : World) (g : Nat) (s : Lnk) (c0 c1 c2 : Value) (h : RdL w0 g s c0 c1 c2) (hf : LFit s) (gb n cap : Nat) (hh : Array Obj) (hst : St w0 w gb n cap hh n []) (hn : n = (mlink s).length) (hnc : n ≤ cap) :
    Calls Tryd.prog 95 #[.pointer (some ⟨g, 0, none⟩), .slice (some ⟨gb, 0, none⟩) n cap] w fun e w' => e = .returned (.tuple #[.int .i64 (n : Int), .nilIface]) ∧ St w0 w' gb n cap hh 0 (mlink s) := by
  have RD := Aside0.mk h
  have FT := Aside0.mk hf
  have HS0 := Aside0.mk hst
  have HN := Aside0.mk hn
  have HNC := Aside0.mk hnc
  have hn2 : n ≤ 40000000 := by rw [hn]; exact mlink_len h hf
  have HN2 := Aside0.mk hn2
  obtain ⟨i05, hi05, hsz5⟩ : ∃ i, Tryd.prog.info? 5 = some i ∧ i.size = 1 := Option.map_eq_some_iff.1 info5s
  have HI5 := Aside0.mk hi05
  have HZ5 := Aside0.mk hsz5
  have n1 : ∀ W : World, (binOp .neq 22 (.slice none 0 0) (.slice none 0 0)).run Tryd.prog W = .ok (.bool false) W := fun W => run_neq_slice_nil' W 22 5 none 0 0 0 0 Tryd.underlying22
  have WY := Aside0.mk (RdL_ways h hf)
  obtain ⟨A0, z0, cc0, e0⟩ : ∃ A z c, c0 = .slice A z c := by rcases WY.out.1 with ⟨_, e⟩ | ⟨_, _, _, _, _, e, _⟩ <;> exact ⟨_, _, _, e⟩
  obtain ⟨q1, e1⟩ : ∃ q, c1 = .pointer q := by rcases WY.out.2.1 with ⟨_, e⟩ | ⟨_, _, _, _, e, _⟩ <;> exact ⟨_, e⟩
  obtain ⟨q2, e2⟩ : ∃ q, c2 = .pointer q := by rcases WY.out.2.2 with ⟨_, e⟩ | ⟨_, _, _, _, e, _⟩ <;> exact ⟨_, e⟩
  subst e0 e1 e2
  have m0 : ∀ W : World, (binOp .neq 22 (.slice A0 z0 cc0) (.slice none 0 0)).run Tryd.prog W = .ok (.bool A0.isSome) W := fun W => run_neq_slice_nil' W 22 5 A0 z0 cc0 0 0 Tryd.underlying22
  have m1 : ∀ W : World, (binOp .neq 92 (.pointer q1) (.pointer none)).run Tryd.prog W = .ok (.bool q1.isSome) W := fun W => by cases q1 <;> kernel_rfl
  have m2 : ∀ W : World, (binOp .neq 93 (.pointer q2) (.pointer none)).run Tryd.prog W = .ok (.bool q2.isSome) W := fun W => by cases q2 <;> kernel_rfl
  have hg := (RD.out.below HS0.out.below)
  have hc2 := (blk_cell hg.blk 2).trans rfl
  have hc3 := (blk_cell hg.blk 3).trans rfl
  clear h hf hst hn hnc hi05 hsz5 hg
  go_enter Tryd.func95, Tryd.ntmps95
  have hlen : n = (hsF s.hash).length + ((nmF s.name).length + (tsF s.ts).length) := by rw [HN.out]; unfold mlink; simp only [List.length_append]
  have HLE := Aside0.mk hlen
  clear hlen
  go_upto_if 36 with (fail)
  go_cut [6] (fun v6 wc => ∃ P : Nat, v6 = .int .i64 (P : Int) ∧ Aside0 (St w0 wc gb n cap hh P (tsF s.ts)))
  case first =>
    rcases WY.out.2.2 with ⟨S2, e⟩ | ⟨m, p2, L2, S2, e, HM, hL2, HL2, HP2⟩
    · injection e with e
      subst e
      go_wp2
      go_meet
      case rel => exact ⟨n, rfl, ⟨by rw [S2.out]; exact HS0.out⟩⟩
    · injection e with e
      subst e
      have hp2 : w.cell? ⟨p2, 0, none⟩ = some (.int .u64 (m : Int)) := (blk_cell ((HS0.out.below.block _ (blk_lt HP2.out)).trans HP2.out) 0).trans rfl
      go_wp2_with (first | (go_at_call 118; with_reducible refine (St_encM HS0.out m HM.out (by have r1 := HLE.out; rw [S2.out] at r1; simp only [tsF, List.length_cons] at r1; have r2 := HS0.out.le; omega) (by have := HN2.out; omega)).mono ?_; rintro e wat ⟨rfl, hS⟩; obtain ⟨Jt, hJ⟩ : ∃ J : Nat, J = n - (uv m).length := ⟨_, rfl⟩; rw [← hJ] at hS ⊢; have HSat := Aside0.mk hS; have HJt := Aside0.mk (show 1 ≤ Jt by have r1 := HLE.out; rw [S2.out] at r1; simp only [tsF, List.length_cons] at r1; have r2 := HS0.out.le; omega); obtain ⟨Kt, hK⟩ : ∃ K : Nat, K = Jt - 1 := ⟨_, rfl⟩; have HKt := Aside0.mk hK; have hkt : wrap64 ((Jt : Int) - 1) = (Kt : Int) := (by have h1 := HJt.out; have h2 := HSat.out.le; have h3 := HN2.out; unfold wrap64; omega); have hktw : IntKind.i64.wrap ((Jt : Int) - 1) = (Kt : Int) := (i64_w _).trans hkt; have kqt : ((Kt : Int) < (n : Int)) = True := eq_true (by have h1 := HJt.out; have h2 := HSat.out.le; omega); have krt : (Kt < n) = True := eq_true (by have h1 := HJt.out; have h2 := HSat.out.le; omega); obtain ⟨_, hxt, hft⟩ := HSat.out.cell Kt (by have h1 := HJt.out; have h2 := HSat.out.le; omega); clear hJ hK hS) | ((with_reducible refine gate_store (t := 5) (p := 50) rfl ?_); refine store_event (t := 5) (p := 50) (v := ?vo_t) (w1 := (wat.setCell ⟨gb, Kt, none⟩ (.int .u8 24))) ?hg ?ho ?hn ?hr ?_; (case ho => rfl); (case hg => rfl); (case hn => rfl); (case hr => first | (go_simp; done) | (go_simp; rfl)); intro wbt hw; have HTt : Aside0 (St w0 wbt gb n cap hh Kt (24 :: (uv m ++ []))) := ⟨by rw [hw, HKt.out]; exact HSat.out.put HJt.out 24⟩; clear hw hxt hft kqt krt))
      go_meet
      case rel => exact ⟨Kt, rfl, ⟨by rw [S2.out]; have := HTt.out; rw [List.append_nil] at this; exact this⟩⟩
  case rest =>
    obtain ⟨P, rfl, HS1⟩ := hcut
    clear hc2 hc3 HS0
    have hg := (RD.out.below HS1.out.below)
    have hc1 := (blk_cell hg.blk 1).trans rfl
    clear hg
    go_upto_if 55 with (fail)
    go_cut [6] (fun v6 wd => ∃ P : Nat, v6 = .int .i64 (P : Int) ∧ Aside0 (St w0 wd gb n cap hh P (nmF s.name ++ tsF s.ts)))
    case first =>
      rcases WY.out.2.1 with ⟨S1, e⟩ | ⟨ys, p1, L1, S1, e, hl1, hL1, HL1, HP1⟩
      · injection e with e
        subst e
        go_wp2
        go_meet
        case rel => exact ⟨P, rfl, ⟨by rw [S1.out]; exact HS1.out⟩⟩
      · injection e with e
        subst e
        have hg1 := (HS1.out.below.block _ (blk_lt HP1.out)).trans HP1.out
        have hp1 : wc.cell? ⟨p1, 0, none⟩ = some (.string (strOfNums ys)) := (blk_cell hg1 0).trans rfl
        have hz1 : (strOfNums ys).size = ys.length := strOfNums_size ys
        have HZ1 := Aside0.mk hz1
        have HX1 := Aside0.mk hl1
        obtain ⟨C, hC⟩ : ∃ C : Nat, C = P - ys.length := ⟨_, rfl⟩
        have hCP : C + ys.length = P := by have r1 := HLE.out; rw [S1.out] at r1; simp only [nmF, List.length_cons, List.length_append] at r1; have r2 := HS1.out.le; omega
        have HCP := Aside0.mk hCP
        have hcw : wrap64 ((P : Int) - (ys.length : Int)) = (C : Int) := by have h2 := HS1.out.le; have h3 := HN2.out; unfold wrap64; omega
        have hcv : IntKind.i64.wrap ((P : Int) - (ys.length : Int)) = (C : Int) := (i64_w _).trans hcw
        have hcut1 := cut_from (P := Tryd.prog) 22 5 .i64 Tryd.underlying22 HI5.out 1 HZ5.out (some ⟨gb, 0, none⟩) n cap (C : Int) (by omega) (by have h2 := HS1.out.le; omega)
        obtain ⟨DD, hDD⟩ : ∃ D_, D_ = (if cap = (C : Int).toNat then some (⟨gb, 0, none⟩ : Addr) else Option.map (fun x : Addr => x.add ((C : Int).toNat * 1)) (some ⟨gb, 0, none⟩)) := ⟨_, rfl⟩
        rw [← hDD] at hcut1
        have HDD := Aside0.mk hDD
        have hcl : (C : Int) ≤ (n : Int) := by have h2 := HS1.out.le; omega
        clear hDD hC hCP hg1
        go_wp2_with fail
        go_still_tail 9, (by kernel_rfl)
        change wpList _ _ _ _ _ wc.drew
        go_wp2_with (first | ((with_reducible refine gate_builtin (b := .copy) (xs := #[.tmp 67, .tmp 73]) rfl ?_); refine St_copyS (HS1.out.drew) rfl (.tmp 67) (.tmp 73) rfl (strOfNums ys) DD (n - C) (cap - C) rfl rfl (fun hp => by rw [HDD.out, show (C : Int) = ((P - (strOfNums ys).size : Nat) : Int) by have h1 := HCP.out; have h2 := HZ1.out; omega]; exact cut_at (by have h1 := HCP.out; have h2 := HZ1.out; omega) hp (by have h2 := HS1.out.le; omega) HNC.out) (by have h1 := HCP.out; have h2 := HZ1.out; have h3 := HS1.out.le; omega) (by have h1 := HCP.out; have h2 := HZ1.out; omega) ?_; intro wd hS; rw [show P - (strOfNums ys).size = C by have h1 := HCP.out; have h2 := HZ1.out; omega, bytesOf_str (FT.out.byte ys S1.out)] at hS; have HS2 := Aside0.mk hS; have hg2 := (hS.below.block _ (blk_lt HP1.out)).trans HP1.out; have hp1 : wd.cell? ⟨p1, 0, none⟩ = some (.string (strOfNums ys)) := (blk_cell hg2 0).trans rfl; have hc1 := (blk_cell (RD.out.below hS.below).blk 1).trans rfl; clear hS hg2) | (go_at_call 118; with_reducible refine (St_encM HS2.out ys.length (by have := HX1.out; omega) (by have r1 := HLE.out; rw [S1.out] at r1; simp only [nmF, List.length_cons, List.length_append] at r1; have r2 := HS2.out.le; simp only [List.length_append] at r2; have r3 := HCP.out; have r4 := HS1.out.le; omega) (by have := HN2.out; omega)).mono ?_; rintro e wan ⟨rfl, hS⟩; obtain ⟨Jn, hJ⟩ : ∃ J : Nat, J = C - (uv ys.length).length := ⟨_, rfl⟩; rw [← hJ] at hS ⊢; have HSan := Aside0.mk hS; have HJn := Aside0.mk (show 1 ≤ Jn by have r1 := HLE.out; rw [S1.out] at r1; simp only [nmF, List.length_cons, List.length_append] at r1; have r2 := HS2.out.le; simp only [List.length_append] at r2; have r3 := HCP.out; have r4 := HS1.out.le; omega); obtain ⟨Kn, hK⟩ : ∃ K : Nat, K = Jn - 1 := ⟨_, rfl⟩; have HKn := Aside0.mk hK; have hkn : wrap64 ((Jn : Int) - 1) = (Kn : Int) := (by have h1 := HJn.out; have h2 := HSan.out.le; have h3 := HN2.out; unfold wrap64; omega); have hknw : IntKind.i64.wrap ((Jn : Int) - 1) = (Kn : Int) := (i64_w _).trans hkn; have kqn : ((Kn : Int) < (n : Int)) = True := eq_true (by have h1 := HJn.out; have h2 := HSan.out.le; omega); have krn : (Kn < n) = True := eq_true (by have h1 := HJn.out; have h2 := HSan.out.le; omega); obtain ⟨_, hxn, hfn⟩ := HSan.out.cell Kn (by have h1 := HJn.out; have h2 := HSan.out.le; omega); clear hJ hK hS) | ((with_reducible refine gate_store (t := 5) (p := 90) rfl ?_); refine store_event (t := 5) (p := 90) (v := ?vo_n) (w1 := (wan.setCell ⟨gb, Kn, none⟩ (.int .u8 18))) ?hg ?ho ?hn ?hr ?_; (case ho => rfl); (case hg => rfl); (case hn => rfl); (case hr => first | (go_simp; done) | (go_simp; rfl)); intro wbn hw; have HTn : Aside0 (St w0 wbn gb n cap hh Kn (18 :: (uv ys.length ++ (ys ++ tsF s.ts)))) := ⟨by rw [hw, HKn.out]; exact HSan.out.put HJn.out 18⟩; clear hw hxn hfn kqn krn))
        go_meet
        case rel => exact ⟨Kn, rfl, ⟨by rw [S1.out]; have := HTn.out; simp only [nmF, List.cons_append, List.append_assoc]; exact this⟩⟩
    case rest =>
      obtain ⟨P2, rfl, HS3⟩ := hcut
      clear hc1 HS1
      have hg := (RD.out.below HS3.out.below)
      have hc0 := (blk_cell hg.blk 0).trans rfl
      clear hg
      go_upto_if 95 with (fail)
      go_cut [6] (fun v6 we => v6 = .int .i64 0 ∧ Aside0 (St w0 we gb n cap hh 0 (hsF s.hash ++ (nmF s.name ++ tsF s.ts))))
      case first =>
        rcases WY.out.1 with ⟨S0, e⟩ | ⟨xs, A, c, L0, S0, e, hl0, hL0, HL0, HC⟩
        · injection e with e
          subst e
          go_wp2
          go_meet
          case rel =>
            have h0 : P2 = 0 := by have r1 := HLE.out; rw [S0.out] at r1; simp only [hsF, List.length_nil] at r1; have r2 := HS3.out.le; simp only [List.length_append] at r2; omega
            subst h0
            exact ⟨rfl, ⟨by rw [S0.out]; exact HS3.out⟩⟩
        · injection e with e f1 f2
          subst e f1 f2
          have HX0 := Aside0.mk hl0
          obtain ⟨C, hC⟩ : ∃ C : Nat, C = P2 - xs.length := ⟨_, rfl⟩
          have hCP : C + xs.length = P2 := by have r1 := HLE.out; rw [S0.out] at r1; simp only [hsF, List.length_cons, List.length_append] at r1; have r2 := HS3.out.le; simp only [List.length_append] at r2; omega
          have HCP := Aside0.mk hCP
          have hcw : wrap64 ((P2 : Int) - (xs.length : Int)) = (C : Int) := by have h2 := HS3.out.le; have h3 := HN2.out; unfold wrap64; omega
          have hcv : IntKind.i64.wrap ((P2 : Int) - (xs.length : Int)) = (C : Int) := (i64_w _).trans hcw
          have hcut1 := cut_from (P := Tryd.prog) 22 5 .i64 Tryd.underlying22 HI5.out 1 HZ5.out (some ⟨gb, 0, none⟩) n cap (C : Int) (by omega) (by have h2 := HS3.out.le; omega)
          obtain ⟨DD, hDD⟩ : ∃ D_, D_ = (if cap = (C : Int).toNat then some (⟨gb, 0, none⟩ : Addr) else Option.map (fun x : Addr => x.add ((C : Int).toNat * 1)) (some ⟨gb, 0, none⟩)) := ⟨_, rfl⟩
          rw [← hDD] at hcut1
          have HDD := Aside0.mk hDD
          have hcl : (C : Int) ≤ (n : Int) := by have h2 := HS3.out.le; omega
          clear hDD hC hCP
          go_wp2_with fail
          go_still_tail 7, (by kernel_rfl)
          change wpList _ _ _ _ _ wc.drew
          go_wp2_with (first | ((with_reducible refine gate_builtin (b := .copy) (xs := #[.tmp 105, .tmp 109]) rfl ?_); refine (HS3.out.drew).copy rfl (.tmp 105) (.tmp 109) rfl xs (some A) xs.length cc0 DD (n - C) (cap - C) rfl rfl rfl (Kd.C_drew (Kd.C_below HC.out HS3.out.below)) (fun hp => by rw [HDD.out, show (C : Int) = ((P2 - xs.length : Nat) : Int) by have h1 := HCP.out; omega]; exact cut_at (by have h1 := HCP.out; omega) hp (by have h2 := HS3.out.le; omega) HNC.out) (by have h1 := HCP.out; have h3 := HS3.out.le; omega) (by have h1 := HCP.out; omega) ?_; intro we hS; rw [show P2 - xs.length = C by have h1 := HCP.out; omega] at hS; have HS4 := Aside0.mk hS; have hc0 := (blk_cell (RD.out.below hS.below).blk 0).trans rfl; clear hS) | (go_at_call 118; with_reducible refine (St_encM HS4.out xs.length (by have := HX0.out; omega) (by have r1 := HLE.out; rw [S0.out] at r1; simp only [hsF, List.length_cons, List.length_append] at r1; have r2 := HS4.out.le; simp only [List.length_append] at r2; have r3 := HCP.out; have r4 := HS3.out.le; simp only [List.length_append] at r4; omega) (by have := HN2.out; omega)).mono ?_; rintro e wah ⟨rfl, hS⟩; obtain ⟨Jh, hJ⟩ : ∃ J : Nat, J = C - (uv xs.length).length := ⟨_, rfl⟩; rw [← hJ] at hS ⊢; have HSah := Aside0.mk hS; have HJh := Aside0.mk (show 1 ≤ Jh by have r1 := HLE.out; rw [S0.out] at r1; simp only [hsF, List.length_cons, List.length_append] at r1; have r2 := HS4.out.le; simp only [List.length_append] at r2; have r3 := HCP.out; have r4 := HS3.out.le; simp only [List.length_append] at r4; omega); obtain ⟨Kh, hK⟩ : ∃ K : Nat, K = Jh - 1 := ⟨_, rfl⟩; have HKh := Aside0.mk hK; have hkh : wrap64 ((Jh : Int) - 1) = (Kh : Int) := (by have h1 := HJh.out; have h2 := HSah.out.le; have h3 := HN2.out; unfold wrap64; omega); have hkhw : IntKind.i64.wrap ((Jh : Int) - 1) = (Kh : Int) := (i64_w _).trans hkh; have kqh : ((Kh : Int) < (n : Int)) = True := eq_true (by have h1 := HJh.out; have h2 := HSah.out.le; omega); have krh : (Kh < n) = True := eq_true (by have h1 := HJh.out; have h2 := HSah.out.le; omega); obtain ⟨_, hxh, hfh⟩ := HSah.out.cell Kh (by have h1 := HJh.out; have h2 := HSah.out.le; omega); clear hJ hK hS) | ((with_reducible refine gate_store (t := 5) (p := 124) rfl ?_); refine store_event (t := 5) (p := 124) (v := ?vo_h) (w1 := (wah.setCell ⟨gb, Kh, none⟩ (.int .u8 10))) ?hg ?ho ?hn ?hr ?_; (case ho => rfl); (case hg => rfl); (case hn => rfl); (case hr => first | (go_simp; done) | (go_simp; rfl)); intro wbh hw; have HTh : Aside0 (St w0 wbh gb n cap hh Kh (10 :: (uv xs.length ++ (xs ++ (nmF s.name ++ tsF s.ts))))) := ⟨by rw [hw, HKh.out]; exact HSah.out.put HJh.out 10⟩; clear hw hxh hfh kqh krh))
          go_meet
          case rel =>
            have h0 : Kh = 0 := by have r1 := HLE.out; rw [S0.out] at r1; simp only [hsF, List.length_cons, List.length_append] at r1; have r2 := HTh.out.le; simp only [List.length_append, List.length_cons] at r2; omega
            subst h0
            exact ⟨rfl, ⟨by rw [S0.out]; have := HTh.out; simp only [hsF, List.cons_append, List.append_assoc]; exact this⟩⟩
      case rest =>
        obtain ⟨rfl, HS5⟩ := hcut
        clear hc0 HS3
        have hk0 : wrap64 ((n : Int) - 0) = (n : Int) := by have h3 := HN2.out; unfold wrap64; omega
        go_wp2
        go_ret2
        exact ⟨by first | rfl | (simp; done), HS5.out⟩
theorem made_buf' {W : World} {base : Nat} {ok : Nat → Prop} {v : Value} {xs : List Int} (h : Kd.R (Kd.int .u8) 5 W base ok v xs) (hv : ∃ b, v.ownBlock = some b) : ∃ g cap, v = .slice (some ⟨g, 0, none⟩) xs.length cap ∧ base ≤ g ∧ xs.length ≤ cap ∧ Kd.R (Kd.int .u8) 5 W base (fun k => k = g) (.slice (some ⟨g, 0, none⟩) xs.length cap) xs := by
  obtain ⟨h0, inner, hown, hr⟩ := h
  rcases hown.2 with ⟨e, h1⟩ | ⟨g', c', cur, e, hge, h2, hnc, h3⟩
  · obtain ⟨b, hb⟩ := hv
    rw [e] at hb
    simp [Value.ownBlock] at hb
  · refine ⟨g', c', e, hge, hnc, fun k hk => by simpa [Value.ownBlock] using hk.symm, inner, ⟨hown.1, .inr ⟨g', c', cur, rfl, hge, h2, hnc, h3⟩⟩, hr⟩
set_option maxHeartbeats 8000000 in
set_option maxRecDepth 100000 in
theorem Mar_link (w : World) (g : Nat) (s : Lnk) (c0 c1 c2 : Value) (h : RdL w g s c0 c1 c2) (hf : LFit s) :
    Calls Tryd.prog 55 #[.pointer (some ⟨g, 0, none⟩)] w fun e w' => ∃ gb cap, e = .returned (.tuple #[.slice (some ⟨gb, 0, none⟩) (mlink s).length cap, .nilIface]) ∧ Kd.R (Kd.int .u8) 5 w' w.heap.size (fun k => k = gb) (.slice (some ⟨gb, 0, none⟩) (mlink s).length cap) (mlink s) ∧ Below w.heap.size w w' := by
  have RD := Aside0.mk h
  have FT := Aside0.mk hf
  obtain ⟨n, hn⟩ : ∃ n, n = (mlink s).length := ⟨_, rfl⟩
  have hn2 : n ≤ 40000000 := by rw [hn]; exact mlink_len h hf
  rw [← hn]
  have HN := Aside0.mk hn
  have HN2 := Aside0.mk hn2
  obtain ⟨i05, hi05, hsz5⟩ : ∃ i, Tryd.prog.info? 5 = some i ∧ i.size = 1 := Option.map_eq_some_iff.1 info5s
  have HI5 := Aside0.mk hi05
  have I5 := Aside0.mk info5e
  clear h hf hi05 hsz5 hn hn2
  go_enter Tryd.func55, Tryd.ntmps55
  go_wp2_with (first
    | (go_at_call 56; refine (Size_link w g s c0 c1 c2 RD.out FT.out).mono ?_; rintro e w1 ⟨rfl, hw⟩; rw [hw]; clear hw; rw [← HN.out])
    | (refine Kd.R_make (Kd.int .u8) w.heap.size 5 rfl (N := 9) rfl 22 _ _ rfl (n : Int) rfl rfl Tryd.underlying22 (.int .u8 0) 1 I5.out rfl (by decide) (by decide) 0 (ok := fun k => k = w.heap.size) (okp := fun _ => False) rfl (fun _ hk => hk.elim) rfl (by omega) (by have := HN2.out; omega) (Below.refl _ _) (Nat.le_refl _) ?_; intro v1 w2 ho hb hgr hnew; clear hgr; rw [Int.toNat_natCast] at ho; generalize hxs : List.replicate n (0 : Int) = zs at ho; have hzl : zs.length = n := (by rw [← hxs]; simp); clear hxs; obtain ⟨gb, cap, rfl, hge, hnc, hR⟩ := made_buf' ho (by obtain ⟨b, hb, _⟩ := hnew; exact ⟨b, hb⟩); rw [hzl] at hnc hR ⊢; have HNC := Aside0.mk hnc; have HS0 := Aside0.mk (zst hR hzl hb); have hcut := cut_to (P := Tryd.prog) 22 5 .i64 Tryd.underlying22 HI5.out (some ⟨gb, 0, none⟩) n cap (n : Int) (by omega) (Int.le_refl _) hnc; have hlc : (n : Int) ≤ (cap : Int) := (by omega); clear hzl ho hb hge hR hnc hnew)
    | (go_at_call 95; refine (Mts_link w _ g s c0 c1 c2 RD.out FT.out gb n cap w.heap HS0.out HN.out HNC.out).mono ?_; rintro e w3 ⟨rfl, hS⟩; have HS1 := Aside0.mk hS; clear hS))
  go_ret2
  have hB := HS1.out.all
  refine ⟨gb, cap, ?_, ?_, hB.below⟩
  · first | rfl | (simp; done)
  · have := hB.row
    rw [← HN.out] at this
    exact this
theorem strOfNums_bytesOf (t : ByteArray) : strOfNums (bytesOf t) = t := by
  unfold strOfNums bytesOf
  rw [List.map_map]
  have h : ((fun n : Int => UInt8.ofNat n.toNat) ∘ fun b : UInt8 => (b.toNat : Int)) = id := by
    funext b
    simp
  rw [h, List.map_id]
/-- The link of some data. -/
def mkL (b0 b1 b2 : Bool) (xs : List Int) (st : ByteArray) (m : Nat) : Lnk := ⟨if b0 = true then some xs else none, if b1 = true then some (bytesOf st) else none, if b2 = true then some m else none⟩
/-- A link that was made, as it lies in memory. -/
def PLPost (w : World) (s : Lnk) (e : Ending) (w' : World) : Prop := ∃ g c0 c1 c2, e = .returned (.pointer (some ⟨g, 0, none⟩)) ∧ RdL w' g s c0 c1 c2 ∧ Below w.heap.size w w'
/-- A link that is built: its block, and the block of what came in. -/
structure Bl (w W : World) (bx : Array Value) (s : Lnk) (c0 c1 c2 : Value) : Prop where
  lm : Lm none 0 [] w W (w.heap.size + 1) s c0 c1 c2
  box : W.heap[w.heap.size]? = some (.cells bx 27 (0, 0))
theorem Bl.start (w : World) (bx : Array Value) : Bl w ((w.alloc (.cells bx 27)).alloc (.cells #[.slice none 0 0, .pointer none, .pointer none, .slice none 0 0, .int .i32 0] 96)) bx ⟨none, none, none⟩ (.slice none 0 0) (.pointer none) (.pointer none) :=
  ⟨⟨Kd.C_nil _ _, fun _ h => (by cases h), heap2_1 w _ _, Nat.le_succ _, below_alloc (below_alloc (Below.refl _ w) _) _, fun _ => rfl, fun _ h => (by cases h), fun _ => rfl, fun _ h => (by cases h), fun _ => rfl, fun _ h => (by cases h)⟩, heap2_0 w _ _⟩
section
variable {w W W' : World} {bx : Array Value} {s : Lnk} {c0 c1 c2 : Value}
theorem Bl.name (h : Bl w W bx s c0 c1 c2) (hs : s.name = none) (st : ByteArray) : Bl w ((W.setCell ⟨w.heap.size + 1, 1, none⟩ (.pointer (some ⟨W.heap.size, 0, none⟩))).alloc (.cells #[.string st] 9)) bx { s with name := some (bytesOf st) } c0 (.pointer (some ⟨W.heap.size, 0, none⟩)) c2 := by
  have hlt := blk_lt h.lm.blk
  rw [← World.setCell_alloc_past _ _ _ _ hlt]
  refine ⟨h.lm.setName (below_alloc (Below.refl _ _) _) (bytesOf st) (by rw [strOfNums_bytesOf]; exact blk_new W _) (by omega), blk_far (blk_alloc h.box _) (p := ⟨w.heap.size + 1, 1, none⟩) (by simp) _⟩
theorem Bl.ts (h : Bl w W bx s c0 c1 c2) (m : Nat) : Bl w ((W.setCell ⟨w.heap.size + 1, 2, none⟩ (.pointer (some ⟨W.heap.size, 0, none⟩))).alloc (.cells #[.int .u64 (m : Int)] 24)) bx { s with ts := some m } c0 c1 (.pointer (some ⟨W.heap.size, 0, none⟩)) := by
  have hlt := blk_lt h.lm.blk
  rw [← World.setCell_alloc_past _ _ _ _ hlt]
  refine ⟨h.lm.setTs (below_alloc (Below.refl _ _) _) m (blk_new W _) (by omega), blk_far (blk_alloc h.box _) (p := ⟨w.heap.size + 1, 2, none⟩) (by simp) _⟩
end
set_option maxHeartbeats 8000000 in
set_option maxRecDepth 100000 in
theorem pbLink_calls (w : World) (b0 b1 b2 : Bool) (A0 : Option Addr) (n cp : Nat) (xs : List Int) (st : ByteArray) (m : Nat) (hC : Kd.C (Kd.int .u8) w A0 n xs) (hn : n = xs.length) (hx : xs.length ≤ 1000000) :
    Calls Tryd.prog 54 #[.agg #[.bool b0, .bool b1, .bool b2, .slice A0 n cp, .string st, .int .u64 (m : Int)]] w (PLPost w (mkL b0 b1 b2 xs st m)) := by
  have HR0 := Aside0.mk hC
  have HX := Aside0.mk hx
  have HN := Aside0.mk hn
  have I5 := Aside0.mk info5e
  have HL0 := Aside0.mk (Bl.start w #[.bool b0, .bool b1, .bool b2, .slice A0 n cp, .string st, .int .u64 (m : Int)])
  have HS0 : Aside0 (((w.alloc (.cells #[.bool b0, .bool b1, .bool b2, .slice A0 n cp, .string st, .int .u64 (m : Int)] 27)).alloc (.cells #[.slice none 0 0, .pointer none, .pointer none, .slice none 0 0, .int .i32 0] 96)).heap.size = w.heap.size + 2) := ⟨by rw [size_alloc, size_alloc]⟩
  clear hC hx hn
  go_enter Tryd.func54, Tryd.ntmps54
  go_upto_if 9 with (fail)
  go_cut [3] (fun v3 wc => v3 = .pointer (some ⟨w.heap.size + 1, 0, none⟩) ∧ Aside0 (∃ c0, Bl w wc #[.bool b0, .bool b1, .bool b2, .slice A0 n cp, .string st, .int .u64 (m : Int)] (mkL b0 false false xs st m) c0 (.pointer none) (.pointer none)))
  case first =>
    cases b0 with
    | false =>
      go_wp2
      go_meet
      case rel => exact ⟨rfl, ⟨_, HL0.out⟩⟩
    | true =>
      go_wp2_with (first
        | ((with_reducible refine gate_dst (N := 11) rfl ?_); refine Kd.R_lit (Kd.int .u8) (w0 := w) w.heap.size 5 rfl (N := 11) rfl (xs := ([] : List Int)) (inner := []) (ok := okz none 0 (w.heap.size + 1)) (okp := fun _ => False) ?hr (Reps.none _ _) (fun _ hk => hk.elim) ⟨by rw [HS0.out]; omega, fun _ h => by cases h⟩ HL0.out.lm.below (by rw [HS0.out]; omega) (by simp) ?_; (case hr => first | (go_simp; done) | (go_simp; rfl)); intro v1 w1 hR1 hB1 hG1 hat1; have HR1 := Aside0.mk hR1; have HB1 := Aside0.mk hB1; have HG1 := Aside0.mk hG1; have HA1 := Aside0.mk hat1; have hz1 := hG1.size; rw [HS0.out] at hz1; have HZ1 := Aside0.mk hz1; have hg0 := (hG1.block w.heap.size (by rw [HS0.out]; omega) (by simp)).trans HL0.out.box; have hg1 := (hG1.block (w.heap.size + 1) (by rw [HS0.out]; omega) (by simp)).trans HL0.out.lm.blk; have HK0 := Aside0.mk hg0; have HK1 := Aside0.mk hg1; have hc3 := (blk_cell hg0 3).trans rfl; clear hR1 hB1 hG1 hat1 hz1 hg0 hg1)
        | ((with_reducible refine gate_builtin (b := .append) (xs := #[.tmp 11, .tmp 13]) rfl ?_); at_builtin; refine Kd.R_append_rows (Kd.int .u8) (Rr := fun x cs => cs = [Value.int .u8 x]) (w0 := w) w.heap.size rfl (.tmp 11) (.tmp 13) 22 5 (.int .u8 0) 1 rfl Tryd.underlying22 I5.out rfl (by decide) (by decide) v1 [] xs A0 n cp (okz none 0 (w.heap.size + 1)) (fun _ => False) rfl rfl HR1.out (Kd.C_below HR0.out HB1.out) (fun x cs hx => hx) (fun _ hk => hk.elim) (fun k hk => ⟨by have := HZ1.out; omega, fun _ h => by cases h⟩) HB1.out (by have := HZ1.out; omega) (by have h1 := HX.out; have h2 := HN.out; simp only [List.length_nil]; omega) ?_; intro v2 w2 hR2 hB2 hG2 hat2; rw [List.nil_append] at hR2; have HA2 := Aside0.mk hat2; obtain ⟨A2, c2, rfl⟩ := Kd.R_slice hR2; have HR2 := Aside0.mk hR2; have HB2 := Aside0.mk hB2; have HG2 := Aside0.mk hG2; have hg0 := (hG2.block w.heap.size (blk_lt HK0.out) (Kd.R_ne HR1.out HK0.out (by decide))).trans HK0.out; have hg1 := (hG2.block (w.heap.size + 1) (blk_lt HK1.out) (Kd.R_ne HR1.out HK1.out (by decide))).trans HK1.out; have hd0 := (blk_cell hg1 0).trans rfl; have hdf := blk_frozen hg1 0; have HJ0 := Aside0.mk hg0; have HJ1 := Aside0.mk hg1; clear hR2 hB2 hG2 hat2 hg0 hg1))
      go_meet
      case rel =>
        refine ⟨rfl, ⟨.slice A2 xs.length c2, ?_⟩⟩
        obtain ⟨b, hb1, hb2⟩ := HA1.out
        have hA2 : A2.isSome = true := by
          cases A2 with
          | some _ => rfl
          | none =>
            rcases HA2.out with h | ⟨b', h, _⟩
            · rw [hb1] at h; cases h
            · cases h
        obtain ⟨A3, rfl⟩ := Option.isSome_iff_exists.1 hA2
        refine ⟨HL0.out.lm.setHash (u := .slice none 0 0) (u0 := .slice none 0 0) (l := []) (Kd.R_nil _ _ _ _ _) (fun k hk _ _ => (HG2.out.block k (Nat.lt_of_lt_of_le hk HG1.out.size) (fun e => by rw [hb1] at e; injection e with e; omega)).trans (HG1.out.block k hk (by simp))) HJ1.out HB2.out A3 c2 xs HR2.out, blk_far HJ0.out (p := ⟨w.heap.size + 1, 0, none⟩) (by simp) _⟩
  case rest =>
    obtain ⟨rfl, HE1⟩ := hcut
    obtain ⟨c0, hl1⟩ := HE1.out
    have HL1 := Aside0.mk hl1
    have hb1 := (blk_cell hl1.box 1).trans rfl
    have hb4 := (blk_cell hl1.box 4).trans rfl
    have hd1 := (blk_cell hl1.lm.blk 1).trans rfl
    have hdf := blk_frozen hl1.lm.blk 1
    have hlt := blk_lt hl1.lm.blk
    clear HE1 hl1 HL0 HS0
    go_upto_if 18 with (fail)
    go_cut [3] (fun v3 wc => v3 = .pointer (some ⟨w.heap.size + 1, 0, none⟩) ∧ Aside0 (∃ c0 c1, Bl w wc #[.bool b0, .bool b1, .bool b2, .slice A0 n cp, .string st, .int .u64 (m : Int)] (mkL b0 b1 false xs st m) c0 c1 (.pointer none)))
    case first =>
      cases b1 with
      | false =>
        go_wp2
        go_meet
        case rel => exact ⟨rfl, ⟨_, _, HL1.out⟩⟩
      | true =>
        go_wp2
        go_meet
        case rel => exact ⟨rfl, ⟨_, _, HL1.out.name rfl st⟩⟩
    case rest =>
      obtain ⟨rfl, HE2⟩ := hcut
      obtain ⟨c0', c1', hl2⟩ := HE2.out
      have HL2 := Aside0.mk hl2
      clear hb1 hb4 hd1 hdf hlt
      have hb2 := (blk_cell hl2.box 2).trans rfl
      have hb5 := (blk_cell hl2.box 5).trans rfl
      have hd2 := (blk_cell hl2.lm.blk 2).trans rfl
      have hdf := blk_frozen hl2.lm.blk 2
      have hlt := blk_lt hl2.lm.blk
      clear HE2 hl2 HL1
      go_upto_if 25 with (fail)
      go_cut [3] (fun v3 wc => v3 = .pointer (some ⟨w.heap.size + 1, 0, none⟩) ∧ Aside0 (∃ c0 c1 c2, Bl w wc #[.bool b0, .bool b1, .bool b2, .slice A0 n cp, .string st, .int .u64 (m : Int)] (mkL b0 b1 b2 xs st m) c0 c1 c2))
      case first =>
        cases b2 with
        | false =>
          go_wp2
          go_meet
          case rel => exact ⟨rfl, ⟨_, _, _, HL2.out⟩⟩
        | true =>
          go_wp2
          go_meet
          case rel => exact ⟨rfl, ⟨_, _, _, HL2.out.ts m⟩⟩
      case rest =>
        obtain ⟨rfl, HE3⟩ := hcut
        clear hb2 hb5 hd2 hdf hlt HL2
        go_wp2
        go_ret
        obtain ⟨k0, k1, k2, hl3⟩ := HE3.out
        exact ⟨w.heap.size + 1, k0, k1, k2, rfl, hl3.lm.rd, hl3.lm.below⟩
def EncPost (w : World) (s : Lnk) (e : Ending) (w' : World) : Prop := ∃ gb cap, e = .returned (.tuple #[.slice (some ⟨gb, 0, none⟩) (mlink s).length cap, .int .i64 ((mlink s).length : Int), .bool true]) ∧ Kd.C (Kd.int .u8) w' (some ⟨gb, 0, none⟩) (mlink s).length (mlink s) ∧ (mlink s).length ≤ cap ∧ Below w.heap.size w w'
theorem mkL_fit {b0 b1 b2 : Bool} {xs : List Int} {st : ByteArray} {m : Nat} (h0 : xs.length ≤ 1000000) (h1 : st.size ≤ 1000000) (h2 : m < 2 ^ 64) : LFit (mkL b0 b1 b2 xs st m) := by
  refine ⟨fun ys h => ?_, fun ys h => ?_, fun ys h => ?_, fun k h => ?_⟩
  · cases b0
    · cases h
    · cases h; exact h0
  · cases b1
    · cases h
    · cases h; rw [bytesOf_length]; exact h1
  · cases b1
    · cases h
    · cases h
      intro x hx
      unfold bytesOf at hx
      obtain ⟨b, _, rfl⟩ := List.mem_map.1 hx
      have := b.toNat_lt
      omega
  · cases b2
    · cases h
    · cases h; exact h2
set_option maxHeartbeats 8000000 in
set_option maxRecDepth 100000 in
theorem Encoded_calls (w : World) (b0 b1 b2 : Bool) (A0 : Option Addr) (n cp : Nat) (xs : List Int) (st : ByteArray) (m : Nat) (hC : Kd.C (Kd.int .u8) w A0 n xs) (hn : n = xs.length) (h0 : xs.length ≤ 1000000) (h1 : st.size ≤ 1000000) (h2 : m < 2 ^ 64) :
    Calls Tryd.prog 18 #[.agg #[.bool b0, .bool b1, .bool b2, .slice A0 n cp, .string st, .int .u64 (m : Int)]] w (EncPost w (mkL b0 b1 b2 xs st m)) := by
  have HC := Aside0.mk (Kd.C_alloc hC (.cells #[.bool b0, .bool b1, .bool b2, .slice A0 n cp, .string st, .int .u64 (m : Int)] 27))
  have HB0 := Aside0.mk (below_alloc (Below.refl w.heap.size w) (.cells #[.bool b0, .bool b1, .bool b2, .slice A0 n cp, .string st, .int .u64 (m : Int)] 27))
  have HX := Aside0.mk h0
  have HN := Aside0.mk hn
  have FT := Aside0.mk (mkL_fit (b0 := b0) (b1 := b1) (b2 := b2) h0 h1 h2)
  obtain ⟨s, hs⟩ : ∃ s, s = mkL b0 b1 b2 xs st m := ⟨_, rfl⟩
  rw [← hs] at FT ⊢
  have HS := Aside0.mk hs
  clear hC hn h0 h1 h2 hs
  go_enter Tryd.func18, Tryd.ntmps18
  go_wp2_with (first
    | (go_at_call 54; refine (pbLink_calls _ b0 b1 b2 A0 n cp xs st m HC.out HN.out HX.out).mono ?_; rintro e w1 ⟨g, c0, c1, c2, rfl, hN, hB⟩; rw [← HS.out] at hN; have HN1 := Aside0.mk hN; have HB1 := Aside0.mk (below_step HB0.out hB); clear hN hB)
    | (go_at_call 55; refine (Mar_link _ g s c0 c1 c2 HN1.out FT.out).mono ?_; rintro e w2 ⟨gb, cap, rfl, hR, hB⟩; have HR2 := Aside0.mk (Kd.R_reads' hR); have HN2 := Aside0.mk (HN1.out.below hB); have HB2 := Aside0.mk (below_step HB1.out hB); clear hR hB)
    | (go_at_call 56; refine (Size_link _ g s c0 c1 c2 HN2.out FT.out).mono ?_; rintro e w3 ⟨rfl, hw⟩; rw [hw]; clear hw))
  go_ret3
  exact ⟨gb, cap, rfl, HR2.out.2.2, HR2.out.2.1, HB2.out⟩
end Go.Proofs.YtnhnlodmkbiiiaaDoor.HandPb
