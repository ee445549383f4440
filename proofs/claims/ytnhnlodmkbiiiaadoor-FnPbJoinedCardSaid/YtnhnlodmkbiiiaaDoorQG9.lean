/- The bytes of a link, by the reference: PbLinkBytes walked; they are read back as the link. -/
import Derived.Test.YtnhnlodmkbiiiaaDoorQG8
import Derived.Test.YtnhnlodmkbiiiaaDoorQG6
import Derived.Test.YtnhnlodmkbiiiaaDoorQJB
namespace Go.Proofs.YtnhnlodmkbiiiaaDoor.HandPb
open Go Go.RowKit Go.Proofs.YtnhnlodmkbiiiaaDoorL Go.Proofs.YtnhnlodmkbiiiaaDoorW.PrintWords Go.Proofs.YtnhnlodmkbiiiaaDoorW.PrintLast Go.Proofs.YtnhnlodmkbiiiaaDoorW.PrintMore Go.Proofs.YtnhnlodmkbiiiaaDoor.HandFields Go.Proofs.YtnhnlodmkbiiiaaDoor.PPbShare
attribute [local go_sem] max2_int min2_int max_two min_two max_three min_three max_four min_four
set_option linter.unusedVariables false
set_option linter.unusedSimpArgs false
theorem or128 (v : Nat) : Go.bits .or .u8 (((v : Int)) % 256) 128 = ((v % 128 + 128 : Nat) : Int) := by
 have h3 := (bits_nat .u8 8 (by decide) wraps_u8 (v % 256) 128 (by omega) (by decide)).2
 have h4 : (v % 256) ||| 128 = v % 128 + 128 := by
  have : ∀ x : Fin 256, x.val ||| 128 = x.val % 128 + 128 := by decide +kernel
  have h5 := this ⟨v % 256, by omega⟩
  simp only at h5
  omega
 rw [h4] at h3
 rw [show ((v : Int)) % 256 = ((v % 256 : Nat) : Int) by omega]
 exact h3
theorem uvar_loop : ∀ (n k v : Nat) (acc : List Int), v < 128 ^ (n + 1) → acc.length ≤ 100 → n ≤ 20 → n + acc.length ≤ 100 → n < k → PPbWrite.spec_Uvarint.l0 k (v : Int) acc = some (acc ++ uvF n v)
 | n, k, v, acc, hv, ha, hn, hna, hk => by
  obtain ⟨k, rfl⟩ : ∃ m, k = m + 1 := ⟨k - 1, by omega⟩
  unfold PPbWrite.spec_Uvarint.l0
  by_cases h : v < 128
  ·have e : uvF n v = [(v : Int)] := by
    match n with
    | 0 => rfl
    | n + 1 => unfold uvF; rw [if_pos h]
   rw [e, if_neg (by omega), if_pos (by omega), show (v : Int) % 256 = (v : Int) by omega]
  ·match n with
   | 0 => simp at hv; omega
   | n + 1 =>
    have e : uvF (n + 1) v = ((v % 128 + 128 : Nat) : Int) :: uvF n (v / 128) := by
     conv => { lhs; unfold uvF }
     rw [if_neg h]
    have hd : v / 128 < 128 ^ (n + 1) := by rw [Nat.div_lt_iff_lt_mul (by decide), ← Nat.pow_succ]; exact hv
    have p1 : (v : Int) ≥ 128 := by omega
    have p2 : acc.length < 140737488355328 := by omega
    have p3 : (v : Int) / 128 = ((v / 128 : Nat) : Int) := by omega
    have p4 : (acc ++ [((v % 128 + 128 : Nat) : Int)]).length = acc.length + 1 := by simp
    have p5 : (acc ++ [((v % 128 + 128 : Nat) : Int)]).length ≤ 100 := by omega
    have p6 : n + (acc ++ [((v % 128 + 128 : Nat) : Int)]).length ≤ 100 := by omega
    have p7 : n ≤ 20 := by omega
    have p8 : n < k := by omega
    clear hv
    rw [e, if_pos p1, if_pos p2, or128, p3, uvar_loop n k (v / 128) _ hd p5 p7 p6 p8, List.append_assoc]
    rfl
theorem uvar_eq (v : Nat) (h : v < 2 ^ 64) : PPbWrite.spec_Uvarint.f 20 (v : Int) = some (uv v) := by
 unfold PPbWrite.spec_Uvarint.f
 exact uvar_loop 10 20 v [] (Nat.lt_of_lt_of_le h (by decide)) (by decide) (by decide) (by decide) (by decide)
theorem pbField_eq (a t : Int) (xs : List Int) (hx : xs.length ≤ 1000000) (ht : Go.bits .or .u8 ((a * 8) % 256) 2 = t) : PPbWrite.spec_pbField.f 20 a xs = some (t :: (uv xs.length ++ xs)) := by
 unfold PPbWrite.spec_pbField.f
 have hl := uv_len xs.length (by omega)
 rw [Option.bind_some, ht, words_u64 _ (by omega) (by omega), uvar_eq _ (by omega), Option.bind_some, if_pos (by rw [List.length_singleton]; omega), Option.bind_some]
 rw [if_pos (by rw [List.length_append, List.length_singleton]; omega)]
 rfl
theorem pbNumber_eq (m : Nat) (h : m < 2 ^ 64) : PPbWrite.spec_pbNumber.f 20 3 (m : Int) = some (24 :: uv m) := by
 unfold PPbWrite.spec_pbNumber.f
 have hl := uv_len m h
 rw [Option.bind_some, uvar_eq m h, Option.bind_some, if_pos (by rw [List.length_singleton]; omega)]
 rfl
theorem rdv_uvF : ∀ (n k v : Nat) (rest : List Int), v < 128 ^ (n + 1) → v < 128 ^ (k + 1) → rdv (k + 1) (uvF n v ++ rest) = some (some (v, rest))
 | n, k, v, rest, hn, hk => by
  by_cases h : v < 128
  ·have e : uvF n v = [(v : Int)] := by
    match n with
    | 0 => rfl
    | n + 1 => unfold uvF; rw [if_pos h]
   rw [e]
   show rdv (k + 1) ((v : Int) :: rest) = _
   unfold rdv
   rw [if_pos (by omega), Int.toNat_natCast]
  ·match n, k with
   | 0, _ => simp at hn; omega
   | _, 0 => simp at hk; omega
   | n + 1, k + 1 =>
    have e : uvF (n + 1) v = ((v % 128 + 128 : Nat) : Int) :: uvF n (v / 128) := by
     conv => { lhs; unfold uvF }
     rw [if_neg h]
    have hd : v / 128 < 128 ^ (n + 1) := by rw [Nat.div_lt_iff_lt_mul (by decide), ← Nat.pow_succ]; exact hn
    have hd2 : v / 128 < 128 ^ (k + 1) := by rw [Nat.div_lt_iff_lt_mul (by decide), ← Nat.pow_succ]; exact hk
    rw [e]
    have q1 : ¬ (((v % 128 + 128 : Nat) : Int) < 128) := by omega
    have q2 : ((((v % 128 + 128 : Nat) : Int) - 128).toNat + 128 * (v / 128)) = v := by omega
    have ih := rdv_uvF n k (v / 128) rest hd hd2
    clear hn hk hd hd2
    show rdv (k + 1 + 1) (((v % 128 + 128 : Nat) : Int) :: (uvF n (v / 128) ++ rest)) = _
    rw [rdv, if_neg q1, ih]
    simp only [Option.map_some, q2]
theorem rdv10 (v : Nat) (h : v < 2 ^ 64) (rest : List Int) : rdv 10 (uv v ++ rest) = some (some (v, rest)) := rdv_uvF 10 9 v rest (Nat.lt_of_lt_of_le h (by decide)) (Nat.lt_of_lt_of_le h (by decide))
theorem rdv9 (v : Nat) (h : v < 2 ^ 63) (rest : List Int) : rdv 9 (uv v ++ rest) = some (some (v, rest)) := rdv_uvF 10 8 v rest (Nat.lt_of_lt_of_le h (by decide)) (Nat.lt_of_lt_of_le h (by decide))
theorem rdv_key (c : Int) (h : c < 128) (k : Nat) (rest : List Int) : rdv (k + 1) (c :: rest) = some (some (c.toNat, rest)) := by
 unfold rdv; rw [if_pos h]
theorem um_ts (k : Nat) (o : Option Nat) (h : ∀ m, o = some m → m < 2 ^ 64) (s : Lnk) (hs : s.ts = none) : umL (k + 2) (tsF o) s = some (some { s with ts := o }) := by
 cases o with
 | none => unfold umL; rw [show tsF none = [] from rfl, if_pos rfl, ← hs]
 | some m =>
  have hm := h m rfl
  rw [umL_num (l := tsF (some m)) (by simp [tsF]) (l1 := uv m) (rdv_key 24 (by decide) 9 (uv m))]
  unfold numR
  have := rdv10 m hm []
  rw [List.append_nil] at this
  rw [this, Option.bind_some]
  dsimp only
  rw [if_pos (by omega)]
  unfold umL
  rw [if_pos rfl]
theorem um_name (k : Nat) (o : Option (List Int)) (h : ∀ x, o = some x → x.length ≤ 1000000) (t : Option Nat) (ht : ∀ m, t = some m → m < 2 ^ 64) (s : Lnk) (hs : s.ts = none) (hs2 : s.name = none) : umL (k + 3) (nmF o ++ tsF t) s = some (some { s with name := o, ts := t }) := by
 cases o with
 | none =>
  rw [show nmF none ++ tsF t = tsF t from rfl, um_ts (k + 1) t ht s hs, ← hs2]
 | some x =>
  have hx := h x rfl
  rw [umL_len (l := nmF (some x) ++ tsF t) (by simp [nmF]) (key := 18) (l1 := uv x.length ++ (x ++ tsF t)) (by have := rdv_key 18 (by decide) 9 (uv x.length ++ (x ++ tsF t)); simpa [nmF] using this) (.inr rfl)]
  unfold lenR
  rw [rdv9 x.length (by omega), Option.bind_some]
  dsimp only
  rw [if_pos (by simp), if_neg (by decide), List.drop_left, List.take_left]
  exact um_ts k t ht _ hs
theorem um_mlink (s : Lnk) (hf : LFit s) : umL 4 (mlink s) ⟨none, none, none⟩ = some (some s) := by
 unfold mlink
 cases h0 : s.hash with
 | none =>
  rw [show hsF none ++ (nmF s.name ++ tsF s.ts) = nmF s.name ++ tsF s.ts from rfl, um_name 1 s.name hf.name s.ts hf.ts _ rfl rfl, ← h0]
 | some x =>
  have hx := hf.hash x h0
  rw [umL_len (l := hsF (some x) ++ (nmF s.name ++ tsF s.ts)) (by simp [hsF]) (key := 10) (l1 := uv x.length ++ (x ++ (nmF s.name ++ tsF s.ts))) (by have := rdv_key 10 (by decide) 9 (uv x.length ++ (x ++ (nmF s.name ++ tsF s.ts))); simpa [hsF] using this) (.inl rfl)]
  unfold lenR
  rw [rdv9 x.length (by omega), Option.bind_some]
  dsimp only
  rw [if_pos (by simp), if_pos rfl, List.drop_left, List.take_left, um_name 0 s.name hf.name s.ts hf.ts _ rfl rfl, ← h0]
section
variable {ops : Array Oper} {rest : List Oper} {o : Oper} {a : Act} {Q : Exit → Act → World → Prop}
theorem below_bytesWorld (W : World) (st : ByteArray) : Below W.heap.size W (Lib.bytesWorld W 5 st) :=
 ⟨rfl, rfl, rfl, by rw [Lib.bytesWorld_size]; omega, fun k hk => Lib.bytesWorld_at_old W 5 st k hk⟩
theorem C_bytesWorld (W : World) (st : ByteArray) (h : st.size ≤ 9223372036854775807) : Kd.C (Kd.int .u8) (Lib.bytesWorld W 5 st) (some ⟨W.heap.size, 0, none⟩) (bytesOf st).length (bytesOf st) := by
 have hl := bytesOf_length st
 refine Kd.C_of_reads (d := (0 : Int)) ⟨rfl, by omega, fun _ => ⟨⟨W.heap.size, 0, none⟩, rfl, fun i hi => ?_⟩⟩
 have h1 := Lib.bytesWorld_cell W 5 st i (by omega)
 have h2 : (⟨W.heap.size, 0, none⟩ : Addr).add i = ⟨W.heap.size, i, none⟩ := by
  unfold Addr.add
  split
  ·next h => rw [h]
  ·simp
 rw [h2, h1]
 congr 2
 unfold bytesOf
 rw [List.getD_eq_getElem?_getD, List.getD_eq_getElem?_getD, List.getElem?_map]
 have hi2 : i < st.data.toList.length := by unfold bytesOf at hi; simpa using hi
 rw [List.getElem?_eq_getElem hi2]
 rfl
/-- '[]byte(s)'. -/
theorem conv_event {W : World} (hgd : o.guard = none) (x : Operand) (ho : o.op = .convert 9 22 x) {st : ByteArray} (ys : List Int) (hy : bytesOf st = ys) (hx : a.eval x = .string st) (hs : st.size ≤ 9223372036854775807)
  (h : ∀ A c w1, Kd.C (Kd.int .u8) w1 A ys.length ys → ys.length ≤ c → Below W.heap.size W w1 → wpList Tryd.prog ops Q rest (a.put o.dst (.slice A ys.length c)) w1) : wpList Tryd.prog ops Q (o :: rest) a W := by
 subst hy
 refine Kd.event_run hgd (v := .slice (some ⟨W.heap.size, 0, none⟩) st.size (grownCap W st.size 0 5)) (w1 := Lib.bytesWorld W 5 st) ?_ ?_
 ·unfold execOp
  rw [ho]
  have := Lib.run_convert_string_bytes (P := Tryd.prog) W 9 22 5 st Tryd.underlying9 Tryd.underlying22 Tryd.underlying5
  simp [hx, this, Result.andThen]
 ·have hl := bytesOf_length st
  rw [← hl]
  exact h _ _ _ (C_bytesWorld W st hs) (by rw [hl]; exact grownCap_ge W st.size 0 5) (below_bytesWorld W st)
end
/-- A row of bytes that grows, beside the block of what came in. -/
structure PB (w W : World) (v : Value) (bx : Array Value) (l : List Int) : Prop where
 row : Kd.R (Kd.int .u8) 5 W w.heap.size (fun k => k ≠ w.heap.size) v l
 box : W.heap[w.heap.size]? = some (.cells bx 27 (0, 0))
 below : Below w.heap.size w W
theorem PB.step {w W W1 : World} {v : Value} {bx : Array Value} {l : List Int} (h : PB w W v bx l) (hb : Below W.heap.size W W1) : PB w W1 v bx l :=
 ⟨Kd.R_below h.row hb, (hb.block _ (blk_lt h.box)).trans h.box, below_step h.below hb⟩
def BytesPost (w : World) (l : List Int) (e : Ending) (w' : World) : Prop := ∃ v, e = .returned v ∧ Kd.R (Kd.int .u8) 5 w' w.heap.size (fun _ => True) v l ∧ Below w.heap.size w w'
def hsF' (b : Bool) (xs : List Int) : List Int := if b = true then 10 :: (uv xs.length ++ xs) else []
def nmF' (b : Bool) (st : ByteArray) : List Int := if b = true then 18 :: (uv (bytesOf st).length ++ bytesOf st) else []
def tsF' (b : Bool) (m : Nat) : List Int := if b = true then 24 :: uv m else []
theorem mlink_mkL (b0 b1 b2 : Bool) (xs : List Int) (st : ByteArray) (m : Nat) : mlink (mkL b0 b1 b2 xs st m) = (hsF' b0 xs ++ nmF' b1 st) ++ tsF' b2 m := by
 unfold mlink mkL hsF' nmF' tsF'
 rw [List.append_assoc]
 cases b0 <;> cases b1 <;> cases b2 <;> rfl
theorem hsF_len (b : Bool) (xs : List Int) (h : xs.length ≤ 1000000) : (hsF' b xs).length ≤ 1000011 := by
 have := uv_len xs.length (by omega)
 unfold hsF'; cases b <;> simp; omega
theorem nmF_len (b : Bool) (st : ByteArray) (h : st.size ≤ 1000000) : (nmF' b st).length ≤ 1000011 := by
 have h2 := bytesOf_length st
 have := uv_len (bytesOf st).length (by omega)
 unfold nmF'; cases b <;> simp; omega
set_option maxHeartbeats 8000000 in
set_option maxRecDepth 100000 in
theorem PbLinkBytes_calls (w : World) (b0 b1 b2 : Bool) (A0 : Option Addr) (cp : Nat) (xs : List Int) (st : ByteArray) (m : Nat) (hC : Kd.C (Kd.int .u8) w A0 xs.length xs) (hc : xs.length ≤ cp) (h0 : xs.length ≤ 1000000) (h1 : st.size ≤ 1000000) (h2 : m < 2 ^ 64) :
  Calls Tryd.prog 19 #[.agg #[.bool b0, .bool b1, .bool b2, .slice A0 xs.length cp, .string st, .int .u64 (m : Int)]] w (BytesPost w (mlink (mkL b0 b1 b2 xs st m))) := by
 obtain ⟨bx, hbx⟩ : ∃ bx : Array Value, bx = #[.bool b0, .bool b1, .bool b2, .slice A0 xs.length cp, .string st, .int .u64 (m : Int)] := ⟨_, rfl⟩
 have BX := Aside0.mk hbx
 have HC := Aside0.mk hC
 have HN := Aside0.mk hc
 have HX := Aside0.mk h0
 have HM := Aside0.mk h2
 have I5 := Aside0.mk info5e
 have HZ := Aside0.mk (show st.size ≤ 9223372036854775807 by omega)
 obtain ⟨ys, hys⟩ : ∃ ys, bytesOf st = ys := ⟨_, rfl⟩
 have hyl : ys.length ≤ 1000000 := by rw [← hys, bytesOf_length]; exact h1
 have HY := Aside0.mk hys
 have HYL := Aside0.mk hyl
 have l0 := hsF_len b0 xs h0
 have l1 := nmF_len b1 st h1
 have HL0 := Aside0.mk l0
 have HL1 := Aside0.mk l1
 obtain ⟨r0, hr0⟩ : ∃ r, r = 10 :: (uv xs.length ++ xs) := ⟨_, rfl⟩
 obtain ⟨r1, hr1⟩ : ∃ r, r = 18 :: (uv ys.length ++ ys) := ⟨_, rfl⟩
 obtain ⟨r2, hr2⟩ : ∃ r, r = 24 :: uv m := ⟨_, rfl⟩
 have HF0 := Aside0.mk (pbField_eq 1 10 xs h0 (by decide))
 have HF1 := Aside0.mk (pbField_eq 2 18 ys hyl (by decide))
 have HF2 := Aside0.mk (pbNumber_eq m h2)
 have hm2 := uv_len m h2
 have RL0 := Aside0.mk (show r0.length ≤ 1000011 by rw [hr0]; have := uv_len xs.length (by omega); simp only [List.length_cons, List.length_append]; omega)
 have RL1 := Aside0.mk (show r1.length ≤ 1000011 by rw [hr1]; have := uv_len ys.length (by omega); simp only [List.length_cons, List.length_append]; omega)
 have RL2 := Aside0.mk (show r2.length ≤ 11 by rw [hr2]; simp only [List.length_cons]; omega)
 rw [← hr0] at HF0
 rw [← hr1] at HF1
 rw [← hr2] at HF2
 have RE0 := Aside0.mk hr0
 have RE1 := Aside0.mk hr1
 have RE2 := Aside0.mk hr2
 obtain ⟨f0, hf0⟩ : ∃ f, f = hsF' b0 xs := ⟨_, rfl⟩
 obtain ⟨f1, hf1⟩ : ∃ f, f = f0 ++ nmF' b1 st := ⟨_, rfl⟩
 have FE0 := Aside0.mk hf0
 have FE1 := Aside0.mk hf1
 have FL0 := Aside0.mk (show f0.length ≤ 1000011 by rw [hf0]; exact l0)
 have FL1 := Aside0.mk (show f1.length ≤ 2000022 by rw [hf1, hf0, List.length_append]; omega)
 have HB0 := Aside0.mk (below_alloc (Below.refl w.heap.size w) (.cells #[.bool b0, .bool b1, .bool b2, .slice A0 xs.length cp, .string st, .int .u64 (m : Int)] 27))
 have HK0 := Aside0.mk (blk_new w (.cells #[.bool b0, .bool b1, .bool b2, .slice A0 xs.length cp, .string st, .int .u64 (m : Int)] 27))
 obtain ⟨tot, htot⟩ : ∃ t, t = mlink (mkL b0 b1 b2 xs st m) := ⟨_, rfl⟩
 rw [← htot]
 rw [mlink_mkL, ← hf0, ← hf1] at htot
 have HT := Aside0.mk htot
 clear hC hc h0 h1 h2 hbx hys hyl l0 l1 hr0 hr1 hr2 hm2 hf0 hf1 htot
 go_enter Tryd.func19, Tryd.ntmps19
 go_upto_if 6 with (first
  | ((with_reducible refine gate_dst (N := 4) rfl ?_); refine Kd.R_lit (Kd.int .u8) (w0 := w) w.heap.size 5 rfl (N := 4) rfl (xs := ([] : List Int)) (inner := []) (ok := fun k => k ≠ w.heap.size) (okp := fun _ => False) ?hr (Reps.none _ _) (fun _ hk => hk.elim) (by rw [size_alloc]; omega) HB0.out (by rw [size_alloc]; omega) (by simp) ?_; (case hr => first | (go_simp; done) | (go_simp; rfl)); intro v1 w1 hR1 hB1 hG1 hat1; have hg0 := (hG1.block w.heap.size (by rw [size_alloc]; omega) (by simp)).trans HK0.out; have HP1 : Aside0 (PB w w1 v1 bx []) := ⟨⟨hR1, by rw [BX.out]; exact hg0, hB1⟩⟩; have hb0 := (blk_cell hg0 0).trans rfl; clear hR1 hB1 hG1 hat1 hg0))
 go_cut [3] (fun v3 wc => ∃ v, v3 = v ∧ Aside0 (PB w wc v bx f0))
 case first =>
  cases b0 with
  | false =>
   go_wp2
   go_meet
   case rel => exact ⟨_, rfl, ⟨by rw [FE0.out]; exact HP1.out⟩⟩
  | true =>
   have hg0 := HP1.out.box
   rw [BX.out] at hg0
   have hb3 := (blk_cell hg0 3).trans rfl
   clear hg0
   go_wp2_with (first
    | (go_at_call 57; refine (PPbWrite.spec_pbField.calls 20 1 A0 cp xs r0 w1 (Kd.C_below HC.out HP1.out.below) HN.out HF0.out).mono ?_; rintro e w2 ⟨v2, rfl, hR2, hB2⟩; obtain ⟨A2, c2, rfl⟩ := Kd.R_slice hR2; have HR2 := Aside0.mk (Kd.R_reads' hR2); have HP2 := Aside0.mk (HP1.out.step hB2); clear hR2 hB2)
    | ((with_reducible refine gate_builtin (b := .append) (xs := #[.tmp 7, .tmp 10]) rfl ?_); at_builtin; refine Kd.R_append_rows (Kd.int .u8) (Rr := fun x cs => cs = [Value.int .u8 x]) (w0 := w) w.heap.size rfl (.tmp 7) (.tmp 10) 22 5 (.int .u8 0) 1 rfl Tryd.underlying22 I5.out rfl (by decide) (by decide) v1 [] r0 A2 r0.length c2 (fun k => k ≠ w.heap.size) (fun _ => False) rfl rfl HP2.out.row HR2.out.2.2 (fun x cs hx => hx) (fun _ hk => hk.elim) (fun k hk => by have := blk_lt HP2.out.box; omega) HP2.out.below HP2.out.below.size ?hl2 ?_; (case hl2 => have h1 := RL0.out; simp only [List.length_nil]; omega); intro v3 w3 hR hB hG hat; have HP3 : Aside0 (PB w w3 v3 bx ([] ++ r0)) := ⟨⟨hR, (hG.block _ (blk_lt HP2.out.box) (Kd.R_ne HP2.out.row HP2.out.box (by decide))).trans HP2.out.box, hB⟩⟩; clear hR hB hG hat))
   go_meet
   case rel => exact ⟨_, rfl, ⟨by rw [FE0.out]; have := HP3.out; rw [RE0.out] at this; exact this⟩⟩
 case rest =>
  obtain ⟨v4, ev, HP4⟩ := hcut
  replace ev := ev.symm
  subst ev
  clear hb0 HP1 HB0 HK0
  have hg0 := HP4.out.box
  rw [BX.out] at hg0
  have hb1 := (blk_cell hg0 1).trans rfl
  have hb4 := (blk_cell hg0 4).trans rfl
  clear hg0
  go_upto_if 13 with (fail)
  go_cut [3] (fun v3 wc => ∃ v, v3 = v ∧ Aside0 (PB w wc v bx f1))
  case first =>
   cases b1 with
   | false =>
    go_wp2
    go_meet
    case rel => exact ⟨_, rfl, ⟨by rw [FE1.out, show nmF' false st = [] from rfl, List.append_nil]; exact HP4.out⟩⟩
   | true =>
    go_wp2_with (first
     | ((with_reducible refine gate_dst (N := 17) rfl ?_); refine conv_event rfl (.tmp 16) rfl ys HY.out rfl HZ.out ?_; intro A5 c5 w5 hC5 hc5 hB5; have HC5 := Aside0.mk hC5; have HN5 := Aside0.mk hc5; have HP5 := Aside0.mk (HP4.out.step hB5); clear hC5 hc5 hB5)
     | (go_at_call 57; refine (PPbWrite.spec_pbField.calls 20 2 A5 c5 ys r1 w5 HC5.out HN5.out HF1.out).mono ?_; rintro e w6 ⟨v6, rfl, hR6, hB6⟩; obtain ⟨A6, c6, rfl⟩ := Kd.R_slice hR6; have HR6 := Aside0.mk (Kd.R_reads' hR6); have HP6 := Aside0.mk (HP5.out.step hB6); clear hR6 hB6)
     | ((with_reducible refine gate_builtin (b := .append) (xs := #[.tmp 14, .tmp 18]) rfl ?_); at_builtin; refine Kd.R_append_rows (Kd.int .u8) (Rr := fun x cs => cs = [Value.int .u8 x]) (w0 := w) w.heap.size rfl (.tmp 14) (.tmp 18) 22 5 (.int .u8 0) 1 rfl Tryd.underlying22 I5.out rfl (by decide) (by decide) v4 f0 r1 A6 r1.length c6 (fun k => k ≠ w.heap.size) (fun _ => False) rfl rfl HP6.out.row HR6.out.2.2 (fun x cs hx => hx) (fun _ hk => hk.elim) (fun k hk => by have := blk_lt HP6.out.box; omega) HP6.out.below HP6.out.below.size ?hl6 ?_; (case hl6 => have h1 := RL1.out; have h2 := FL0.out; omega); intro v7 w7 hR hB hG hat; have HP7 : Aside0 (PB w w7 v7 bx (f0 ++ r1)) := ⟨⟨hR, (hG.block _ (blk_lt HP6.out.box) (Kd.R_ne HP6.out.row HP6.out.box (by decide))).trans HP6.out.box, hB⟩⟩; clear hR hB hG hat))
    go_meet
    case rel => exact ⟨_, rfl, ⟨by rw [FE1.out]; have := HP7.out; rw [RE1.out, ← HY.out] at this; exact this⟩⟩
  case rest =>
   obtain ⟨v8, ev, HP8⟩ := hcut
   replace ev := ev.symm
   subst ev
   clear hb1 hb4 HP4
   have hg0 := HP8.out.box
   rw [BX.out] at hg0
   have hb2 := (blk_cell hg0 2).trans rfl
   have hb5 := (blk_cell hg0 5).trans rfl
   clear hg0
   go_upto_if 21 with (fail)
   go_cut [3] (fun v3 wc => ∃ v, v3 = v ∧ Aside0 (PB w wc v bx tot))
   case first =>
    cases b2 with
    | false =>
     go_wp2
     go_meet
     case rel => exact ⟨_, rfl, ⟨by rw [HT.out, show tsF' false m = [] from rfl, List.append_nil]; exact HP8.out⟩⟩
    | true =>
     go_wp2_with (first
      | (go_at_call 58; refine (PPbWrite.spec_pbNumber.calls 20 3 (m : Int) r2 _ HF2.out).mono ?_; rintro e w9 ⟨v9, rfl, hR9, hB9⟩; obtain ⟨A9, c9, rfl⟩ := Kd.R_slice hR9; have HR9 := Aside0.mk (Kd.R_reads' hR9); have HP9 := Aside0.mk (HP8.out.step hB9); clear hR9 hB9)
      | ((with_reducible refine gate_builtin (b := .append) (xs := #[.tmp 22, .tmp 25]) rfl ?_); at_builtin; refine Kd.R_append_rows (Kd.int .u8) (Rr := fun x cs => cs = [Value.int .u8 x]) (w0 := w) w.heap.size rfl (.tmp 22) (.tmp 25) 22 5 (.int .u8 0) 1 rfl Tryd.underlying22 I5.out rfl (by decide) (by decide) v8 f1 r2 A9 r2.length c9 (fun k => k ≠ w.heap.size) (fun _ => False) rfl rfl HP9.out.row HR9.out.2.2 (fun x cs hx => hx) (fun _ hk => hk.elim) (fun k hk => by have := blk_lt HP9.out.box; omega) HP9.out.below HP9.out.below.size ?hl9 ?_; (case hl9 => have h1 := RL2.out; have h2 := FL1.out; omega); intro v10 w10 hR hB hG hat; have HP10 : Aside0 (PB w w10 v10 bx (f1 ++ r2)) := ⟨⟨hR, (hG.block _ (blk_lt HP9.out.box) (Kd.R_ne HP9.out.row HP9.out.box (by decide))).trans HP9.out.box, hB⟩⟩; clear hR hB hG hat))
     go_meet
     case rel => exact ⟨_, rfl, ⟨by rw [HT.out]; have := HP10.out; rw [RE2.out] at this; exact this⟩⟩
   case rest =>
    obtain ⟨v11, ev, HP11⟩ := hcut
    replace ev := ev.symm
    subst ev
    clear hb2 hb5 HP8
    go_wp2
    go_ret
    exact ⟨_, rfl, Kd.R_mono HP11.out.row (fun _ _ => trivial), HP11.out.below⟩
end Go.Proofs.YtnhnlodmkbiiiaaDoor.HandPb
