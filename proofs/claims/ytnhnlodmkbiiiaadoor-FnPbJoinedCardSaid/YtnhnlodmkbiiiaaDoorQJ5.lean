/- The law FnPbJoined, walked, by cases. -/
import Derived.Test.YtnhnlodmkbiiiaaDoorQJ4
namespace Go.Proofs.YtnhnlodmkbiiiaaDoor.HandPj
open Go Go.RowKit Go.Proofs.YtnhnlodmkbiiiaaDoorL Go.Proofs.YtnhnlodmkbiiiaaDoorW.PrintWords Go.Proofs.YtnhnlodmkbiiiaaDoorW.PrintLast Go.Proofs.YtnhnlodmkbiiiaaDoorW.PrintMore Go.Proofs.YtnhnlodmkbiiiaaDoor.HandFields Go.Proofs.YtnhnlodmkbiiiaaDoor.PPbJoin
attribute [local go_sem] max2_int min2_int max_two min_two max_three min_three max_four min_four
set_option linter.unusedVariables false
set_option linter.unusedSimpArgs false
/-! ### The law's own memory -/
/-- The two nodes that came in, boxed; the rest is kept. -/
structure JW (w W : World) (bA bB : Array Value) : Prop where
 below : Below w.heap.size w W
 boxA : W.heap[w.heap.size]? = some (.cells bA 36 (0, 0))
 boxB : W.heap[w.heap.size + 1]? = some (.cells bB 36 (0, 0))
/-- A node that was made, not filled. -/
structure JN (w W : World) (n : Nat) (bN : Array Value) : Prop where
 gt : w.heap.size + 1 < n
 blk : W.heap[n]? = some (.cells bN 36 (0, 0))
section
variable {w W W' : World} {bA bB bN : Array Value} {n : Nat}
theorem JW.drew (h : JW w W bA bB) : JW w W.drew bA bB := ⟨below_drew h.below, h.boxA, h.boxB⟩
theorem JW.call (h : JW w W bA bB) (hB : Below W.heap.size W W') : JW w W' bA bB := ⟨below_step h.below hB, (hB.block _ (blk_lt h.boxA)).trans h.boxA, (hB.block _ (blk_lt h.boxB)).trans h.boxB⟩
theorem JW.alloc (h : JW w W bA bB) (o : Obj) : JW w (W.alloc o) bA bB := ⟨below_alloc h.below _, blk_alloc h.boxA _, blk_alloc h.boxB _⟩
theorem JN.call (h : JN w W n bN) (hB : Below W.heap.size W W') : JN w W' n bN := ⟨h.gt, (hB.block _ (blk_lt h.blk)).trans h.blk⟩
theorem JW.grow (h : JW w W bA bB) (hB : Below w.heap.size w W') {row : Option Nat} (hG : W.grownBy W' row) (hr : ∀ k cs, W.heap[k]? = some (.cells cs 36 (0, 0)) → some k ≠ row) : JW w W' bA bB :=
 ⟨hB, (hG.block _ (blk_lt h.boxA) (hr _ _ h.boxA)).trans h.boxA, (hG.block _ (blk_lt h.boxB) (hr _ _ h.boxB)).trans h.boxB⟩
theorem JN.grow (h : JN w W n bN) {row : Option Nat} (hG : W.grownBy W' row) (hr : ∀ k cs, W.heap[k]? = some (.cells cs 36 (0, 0)) → some k ≠ row) : JN w W' n bN :=
 ⟨h.gt, (hG.block _ (blk_lt h.blk) (hr _ _ h.blk)).trans h.blk⟩
theorem JN.new (h : JW w W bA bB) (bN : Array Value) : JN w (W.alloc (.cells bN 36)) W.heap.size bN := ⟨blk_lt h.boxB, blk_new W _⟩
end
/-- What the bytes of both tell. -/
def DecP (hx : Bool) (dx : List Int) (lx : List S27) (W : World) (e : Ending) (w' : World) : Prop := ∃ A5 c5 A6 c6, e = .returned (.tuple #[.agg #[.bool hx, .slice A5 dx.length c5, .slice A6 lx.length c6], .bool true]) ∧ Kd.R (Kd.int .u8) 5 w' W.heap.size (fun _ => True) (.slice A5 dx.length c5) dx ∧ Kd.R k27 27 w' W.heap.size (fun _ => True) (.slice A6 lx.length c6) lx ∧ Below W.heap.size W w'
theorem info5j : (Tryd.prog.info? 5).map (fun i => (i.zero, i.size, i.bytes)) = some (some (.int .u8 0), 1, 1) := by kernel_rfl
theorem Dec_calls {hx : Bool} {dx : List Int} {lx : List S27} (xt : List Int) (t : Nde) (kf : Nat) (hu : umN kf xt ⟨[], none⟩ = some (some t)) (e0 : t.data.isSome = hx) (e1 : t.data.getD [] = dx) (e2 : t.links.map toS = lx) (hbx : ∀ x ∈ xt, 0 ≤ x ∧ x ≤ 255) (hl : xt.length ≤ 1000000) (hd : (t.data.getD []).length ≤ 1000000) (hgn : t.links.length ≤ 1000000) (hh : ∀ l ∈ t.links, ∀ xs, l.hash = some xs → xs.length ≤ 1000000) (W : World) (hge : GE W) (A : Option Addr) (c : Nat) (hC : Kd.C (Kd.int .u8) W A xt.length xt) (hc : xt.length ≤ c) : Calls Tryd.prog 22 #[.slice A xt.length c] W (DecP hx dx lx W) := by
 subst e0 e1 e2
 refine (NDecoded_calls W hge A c xt hbx hl hC hc kf t hu hd hgn hh).mono ?_
 rintro e w' ⟨v1, v2, rfl, h1, h2, hB⟩
 obtain ⟨A5, c5, rfl⟩ := Kd.R_slice h1
 obtain ⟨A6, c6, rfl⟩ := Kd.R_slice h2
 exact ⟨A5, c5, A6, c6, rfl, h1, h2, hB⟩
/-- Three cells of a block are set. -/
def set3 (W : World) (n : Nat) (a0 a1 a2 : Value) : World := ((W.setCell ⟨n, 0, none⟩ a0).setCell ⟨n, 1, none⟩ a1).setCell ⟨n, 2, none⟩ a2
section
variable {w W Wq : World} {bA bB : Array Value} {n : Nat} {x0 x1 x2 : Value}
theorem set3_far (k : Nat) (hk : k ≠ n) (a0 a1 a2 : Value) : (set3 W n a0 a1 a2).heap[k]? = W.heap[k]? := by
 unfold set3
 rw [Below.heap_setCell _ ⟨n, 2, none⟩ _ k (by simpa using hk), Below.heap_setCell _ ⟨n, 1, none⟩ _ k (by simpa using hk), Below.heap_setCell _ ⟨n, 0, none⟩ _ k (by simpa using hk)]
theorem set3_blk (h : W.heap[n]? = some (.cells #[x0, x1, x2] 36 (0, 0))) (a0 a1 a2 : Value) : (set3 W n a0 a1 a2).heap[n]? = some (.cells #[a0, a1, a2] 36 (0, 0)) := blk_put (blk_put (blk_put h 0 _ rfl) 1 _ rfl) 2 _ rfl
theorem set3_below {w0 : World} (h : Below w0.heap.size w0 W) (hn : w0.heap.size ≤ n) (a0 a1 a2 : Value) : Below w0.heap.size w0 (set3 W n a0 a1 a2) := below_set (below_set (below_set h hn) hn) hn
theorem JW.set3 (h : JW w W bA bB) (hn : w.heap.size + 1 < n) (a0 a1 a2 : Value) : JW w (set3 W n a0 a1 a2) bA bB :=
 ⟨set3_below h.below (by omega) _ _ _, (set3_far _ (by omega) _ _ _).trans h.boxA, (set3_far _ (by omega) _ _ _).trans h.boxB⟩
theorem R_set3 {α : Type} {d : Kd α} {e base : Nat} {v : Value} {xs : List α} (h : d.R e W base (fun _ => True) v xs) (hb : W.heap[n]? = some (.cells #[x0, x1, x2] 36 (0, 0))) (ht : ∀ q, q ∈ e :: d.E → q ≠ 36) (a0 a1 a2 : Value) : d.R e (set3 W n a0 a1 a2) base (fun _ => True) v xs :=
 Kd.R_mono (Kd.R_step (Kd.R_mono (ok' := fun k => k ≠ n) (Kd.R_bound h) (fun k hk => by
  obtain ⟨_, _, _, q, hq, cs, hc⟩ := hk
  rintro rfl
  rw [hb] at hc
  injection hc with hc
  injection hc with _ h2
  exact ht q hq h2.symm)) (fun k hk _ => set3_far k hk _ _ _)) (fun _ _ => trivial)
/-- A second node that was made, not filled: behind Wq. -/
structure JM (Wq W : World) (n : Nat) (bN : Array Value) : Prop where
 ge : Wq.heap.size ≤ n
 blk : W.heap[n]? = some (.cells bN 36 (0, 0))
theorem JM.grow {bN : Array Value} {W' : World} (h : JM Wq W n bN) {row : Option Nat} (hG : W.grownBy W' row) (hr : ∀ k cs, W.heap[k]? = some (.cells cs 36 (0, 0)) → some k ≠ row) : JM Wq W' n bN :=
 ⟨h.ge, (hG.block _ (blk_lt h.blk) (hr _ _ h.blk)).trans h.blk⟩
theorem JM.new (h : Below Wq.heap.size Wq W) (bN : Array Value) : JM Wq (W.alloc (.cells bN 36)) W.heap.size bN := ⟨h.size, blk_new W _⟩
end
section
set_option maxHeartbeats 16000000
set_option maxRecDepth 100000
theorem law5_a (w : World) (ha hb : Bool) (da db : List Int) (la lb : List S27) (A1 A2 B1 B2 : Option Addr) (c1 c2 d1 d2 : Nat) (hA1 : Kd.C (Kd.int .u8) w A1 da.length da) (hc1 : da.length ≤ c1) (hA2 : Kd.C k27 w A2 la.length la) (hc2 : la.length ≤ c2) (hB1 : Kd.C (Kd.int .u8) w B1 db.length db) (hd1 : db.length ≤ d1) (hB2 : Kd.C k27 w B2 lb.length lb) (hd2 : lb.length ≤ d2) {ka kb ja jb : Nat} (hFA : laws_zzFits20.f ka ha da la = some false) : Calls Tryd.prog 5 #[.agg #[.bool ha, .slice A1 da.length c1, .slice A2 la.length c2], .agg #[.bool hb, .slice B1 db.length d1, .slice B2 lb.length d2]] w fun e w' => e = .returned (.bool true) ∧ Below w.heap.size w w' := by
 have HA1 := Aside0.mk hA1
 have Hc1 := Aside0.mk hc1
 have HA2 := Aside0.mk hA2
 have Hc2 := Aside0.mk hc2
 have HB1 := Aside0.mk hB1
 have Hd1 := Aside0.mk hd1
 have HB2 := Aside0.mk hB2
 have Hd2 := Aside0.mk hd2
 have HJs := Aside0.mk (JW.mk (bA := #[.bool ha, .slice A1 da.length c1, .slice A2 la.length c2]) (bB := #[.bool hb, .slice B1 db.length d1, .slice B2 lb.length d2]) (below_alloc (below_alloc (Below.refl w.heap.size w) (.cells #[.bool ha, .slice A1 da.length c1, .slice A2 la.length c2] 36)) (.cells #[.bool hb, .slice B1 db.length d1, .slice B2 lb.length d2] 36)) (blk_alloc (blk_new w _) _) (by have h9 := blk_new (w.alloc (.cells #[.bool ha, .slice A1 da.length c1, .slice A2 la.length c2] 36)) (.cells #[.bool hb, .slice B1 db.length d1, .slice B2 lb.length d2] 36); rw [size_alloc] at h9; exact h9))
 have ts : True := trivial
 clear hA1 hc1 hA2 hc2 hB1 hd1 hB2 hd2
 have HFA := Aside0.mk hFA
 clear hFA
 go_enter Tryd.func5, Tryd.ntmps5
 go_wp2_with (first
  | (go_at_call 21; have ta_ := ts; refine (laws_zzFits20.calls _ ha A1 c1 da A2 c2 la _ _ (Kd.C_below HA1.out HJs.out.below) Hc1.out (Kd.C_below HA2.out HJs.out.below) Hc2.out HFA.out).mono ?_; rintro e wa ⟨rfl, hB⟩; have HJa := Aside0.mk (HJs.out.call hB); have ta : True := trivial; (try clear hk0 hk1 hk2 hl0 hl1 hl2); have hg_ := HJa.out.boxA; have hg2_ := HJa.out.boxB; have hk0 := (blk_cell hg_ 0).trans rfl; have hl0 := (blk_cell hg2_ 0).trans rfl; have hk1 := (blk_cell hg_ 1).trans rfl; have hl1 := (blk_cell hg2_ 1).trans rfl; have hk2 := (blk_cell hg_ 2).trans rfl; have hl2 := (blk_cell hg2_ 2).trans rfl; clear hB hg_ hg2_ ts ta_))
 go_ret
 exact ⟨rfl, HJa.out.below⟩
theorem law5_b (w : World) (ha hb : Bool) (da db : List Int) (la lb : List S27) (A1 A2 B1 B2 : Option Addr) (c1 c2 d1 d2 : Nat) (hA1 : Kd.C (Kd.int .u8) w A1 da.length da) (hc1 : da.length ≤ c1) (hA2 : Kd.C k27 w A2 la.length la) (hc2 : la.length ≤ c2) (hB1 : Kd.C (Kd.int .u8) w B1 db.length db) (hd1 : db.length ≤ d1) (hB2 : Kd.C k27 w B2 lb.length lb) (hd2 : lb.length ≤ d2) {ka kb ja jb : Nat} (hFA : laws_zzFits20.f ka ha da la = some true) (hFB : laws_zzFits20.f kb hb db lb = some false) : Calls Tryd.prog 5 #[.agg #[.bool ha, .slice A1 da.length c1, .slice A2 la.length c2], .agg #[.bool hb, .slice B1 db.length d1, .slice B2 lb.length d2]] w fun e w' => e = .returned (.bool true) ∧ Below w.heap.size w w' := by
 have HA1 := Aside0.mk hA1
 have Hc1 := Aside0.mk hc1
 have HA2 := Aside0.mk hA2
 have Hc2 := Aside0.mk hc2
 have HB1 := Aside0.mk hB1
 have Hd1 := Aside0.mk hd1
 have HB2 := Aside0.mk hB2
 have Hd2 := Aside0.mk hd2
 have HJs := Aside0.mk (JW.mk (bA := #[.bool ha, .slice A1 da.length c1, .slice A2 la.length c2]) (bB := #[.bool hb, .slice B1 db.length d1, .slice B2 lb.length d2]) (below_alloc (below_alloc (Below.refl w.heap.size w) (.cells #[.bool ha, .slice A1 da.length c1, .slice A2 la.length c2] 36)) (.cells #[.bool hb, .slice B1 db.length d1, .slice B2 lb.length d2] 36)) (blk_alloc (blk_new w _) _) (by have h9 := blk_new (w.alloc (.cells #[.bool ha, .slice A1 da.length c1, .slice A2 la.length c2] 36)) (.cells #[.bool hb, .slice B1 db.length d1, .slice B2 lb.length d2] 36); rw [size_alloc] at h9; exact h9))
 have ts : True := trivial
 clear hA1 hc1 hA2 hc2 hB1 hd1 hB2 hd2
 have HFA := Aside0.mk hFA
 have HFB := Aside0.mk hFB
 clear hFA hFB
 go_enter Tryd.func5, Tryd.ntmps5
 go_wp2_with (first
  | (go_at_call 21; have ta_ := ts; refine (laws_zzFits20.calls _ ha A1 c1 da A2 c2 la _ _ (Kd.C_below HA1.out HJs.out.below) Hc1.out (Kd.C_below HA2.out HJs.out.below) Hc2.out HFA.out).mono ?_; rintro e wa ⟨rfl, hB⟩; have HJa := Aside0.mk (HJs.out.call hB); have ta : True := trivial; (try clear hk0 hk1 hk2 hl0 hl1 hl2); have hg_ := HJa.out.boxA; have hg2_ := HJa.out.boxB; have hk0 := (blk_cell hg_ 0).trans rfl; have hl0 := (blk_cell hg2_ 0).trans rfl; have hk1 := (blk_cell hg_ 1).trans rfl; have hl1 := (blk_cell hg2_ 1).trans rfl; have hk2 := (blk_cell hg_ 2).trans rfl; have hl2 := (blk_cell hg2_ 2).trans rfl; clear hB hg_ hg2_ ts ta_)
  | (go_at_call 21; have tb_ := ta; refine (laws_zzFits20.calls _ hb B1 d1 db B2 d2 lb _ _ (Kd.C_below HB1.out HJa.out.below) Hd1.out (Kd.C_below HB2.out HJa.out.below) Hd2.out HFB.out).mono ?_; rintro e wb ⟨rfl, hB⟩; have HJb := Aside0.mk (HJa.out.call hB); have tb : True := trivial; (try clear hk0 hk1 hk2 hl0 hl1 hl2); have hg_ := HJb.out.boxA; have hg2_ := HJb.out.boxB; have hk0 := (blk_cell hg_ 0).trans rfl; have hl0 := (blk_cell hg2_ 0).trans rfl; have hk1 := (blk_cell hg_ 1).trans rfl; have hl1 := (blk_cell hg2_ 1).trans rfl; have hk2 := (blk_cell hg_ 2).trans rfl; have hl2 := (blk_cell hg2_ 2).trans rfl; clear hB hg_ hg2_ ta tb_))
 go_ret
 exact ⟨rfl, HJb.out.below⟩
theorem law5_c (w : World) (ha hb : Bool) (da db : List Int) (la lb : List S27) (A1 A2 B1 B2 : Option Addr) (c1 c2 d1 d2 : Nat) (hA1 : Kd.C (Kd.int .u8) w A1 da.length da) (hc1 : da.length ≤ c1) (hA2 : Kd.C k27 w A2 la.length la) (hc2 : la.length ≤ c2) (hB1 : Kd.C (Kd.int .u8) w B1 db.length db) (hd1 : db.length ≤ d1) (hB2 : Kd.C k27 w B2 lb.length lb) (hd2 : lb.length ≤ d2) {ka kb ja jb : Nat} (hFA : laws_zzFits20.f ka ha da la = some true) (hFB : laws_zzFits20.f kb hb db lb = some true) (hSA : laws_pbSmall.f ja ha da la = some false) : Calls Tryd.prog 5 #[.agg #[.bool ha, .slice A1 da.length c1, .slice A2 la.length c2], .agg #[.bool hb, .slice B1 db.length d1, .slice B2 lb.length d2]] w fun e w' => e = .returned (.bool true) ∧ Below w.heap.size w w' := by
 have HA1 := Aside0.mk hA1
 have Hc1 := Aside0.mk hc1
 have HA2 := Aside0.mk hA2
 have Hc2 := Aside0.mk hc2
 have HB1 := Aside0.mk hB1
 have Hd1 := Aside0.mk hd1
 have HB2 := Aside0.mk hB2
 have Hd2 := Aside0.mk hd2
 have HJs := Aside0.mk (JW.mk (bA := #[.bool ha, .slice A1 da.length c1, .slice A2 la.length c2]) (bB := #[.bool hb, .slice B1 db.length d1, .slice B2 lb.length d2]) (below_alloc (below_alloc (Below.refl w.heap.size w) (.cells #[.bool ha, .slice A1 da.length c1, .slice A2 la.length c2] 36)) (.cells #[.bool hb, .slice B1 db.length d1, .slice B2 lb.length d2] 36)) (blk_alloc (blk_new w _) _) (by have h9 := blk_new (w.alloc (.cells #[.bool ha, .slice A1 da.length c1, .slice A2 la.length c2] 36)) (.cells #[.bool hb, .slice B1 db.length d1, .slice B2 lb.length d2] 36); rw [size_alloc] at h9; exact h9))
 have ts : True := trivial
 clear hA1 hc1 hA2 hc2 hB1 hd1 hB2 hd2
 have HFA := Aside0.mk hFA
 have HFB := Aside0.mk hFB
 have HSA := Aside0.mk hSA
 clear hFA hFB hSA
 go_enter Tryd.func5, Tryd.ntmps5
 go_wp2_with (first
  | (go_at_call 21; have ta_ := ts; refine (laws_zzFits20.calls _ ha A1 c1 da A2 c2 la _ _ (Kd.C_below HA1.out HJs.out.below) Hc1.out (Kd.C_below HA2.out HJs.out.below) Hc2.out HFA.out).mono ?_; rintro e wa ⟨rfl, hB⟩; have HJa := Aside0.mk (HJs.out.call hB); have ta : True := trivial; (try clear hk0 hk1 hk2 hl0 hl1 hl2); have hg_ := HJa.out.boxA; have hg2_ := HJa.out.boxB; have hk0 := (blk_cell hg_ 0).trans rfl; have hl0 := (blk_cell hg2_ 0).trans rfl; have hk1 := (blk_cell hg_ 1).trans rfl; have hl1 := (blk_cell hg2_ 1).trans rfl; have hk2 := (blk_cell hg_ 2).trans rfl; have hl2 := (blk_cell hg2_ 2).trans rfl; clear hB hg_ hg2_ ts ta_)
  | (go_at_call 21; have tb_ := ta; refine (laws_zzFits20.calls _ hb B1 d1 db B2 d2 lb _ _ (Kd.C_below HB1.out HJa.out.below) Hd1.out (Kd.C_below HB2.out HJa.out.below) Hd2.out HFB.out).mono ?_; rintro e wb ⟨rfl, hB⟩; have HJb := Aside0.mk (HJa.out.call hB); have tb : True := trivial; (try clear hk0 hk1 hk2 hl0 hl1 hl2); have hg_ := HJb.out.boxA; have hg2_ := HJb.out.boxB; have hk0 := (blk_cell hg_ 0).trans rfl; have hl0 := (blk_cell hg2_ 0).trans rfl; have hk1 := (blk_cell hg_ 1).trans rfl; have hl1 := (blk_cell hg2_ 1).trans rfl; have hk2 := (blk_cell hg_ 2).trans rfl; have hl2 := (blk_cell hg2_ 2).trans rfl; clear hB hg_ hg2_ ta tb_)
  | (go_at_call 17; have tc_ := tb; refine (laws_pbSmall.calls _ ha A1 c1 da A2 c2 la _ _ (Kd.C_below HA1.out HJb.out.below) Hc1.out (Kd.C_below HA2.out HJb.out.below) Hc2.out HSA.out).mono ?_; rintro e wc ⟨rfl, hB⟩; have HJc := Aside0.mk (HJb.out.call hB); have tc : True := trivial; (try clear hk0 hk1 hk2 hl0 hl1 hl2); have hg_ := HJc.out.boxA; have hg2_ := HJc.out.boxB; have hk0 := (blk_cell hg_ 0).trans rfl; have hl0 := (blk_cell hg2_ 0).trans rfl; have hk1 := (blk_cell hg_ 1).trans rfl; have hl1 := (blk_cell hg2_ 1).trans rfl; have hk2 := (blk_cell hg_ 2).trans rfl; have hl2 := (blk_cell hg2_ 2).trans rfl; clear hB hg_ hg2_ tb tc_)
  | (go_at_call 12; refine (Go.Proofs.YtnhnlodmkbiiiaaDoor.HandPb.pbAwake_calls _).mono ?_; rintro e wj ⟨rfl, hB⟩; have HBj := Aside0.mk (below_step HJc.out.below hB); clear hB))
 go_ret
 exact ⟨rfl, HBj.out⟩
theorem law5_d (w : World) (ha hb : Bool) (da db : List Int) (la lb : List S27) (A1 A2 B1 B2 : Option Addr) (c1 c2 d1 d2 : Nat) (hA1 : Kd.C (Kd.int .u8) w A1 da.length da) (hc1 : da.length ≤ c1) (hA2 : Kd.C k27 w A2 la.length la) (hc2 : la.length ≤ c2) (hB1 : Kd.C (Kd.int .u8) w B1 db.length db) (hd1 : db.length ≤ d1) (hB2 : Kd.C k27 w B2 lb.length lb) (hd2 : lb.length ≤ d2) {ka kb ja jb : Nat} (hFA : laws_zzFits20.f ka ha da la = some true) (hFB : laws_zzFits20.f kb hb db lb = some true) (hSA : laws_pbSmall.f ja ha da la = some true) (hSB : laws_pbSmall.f jb hb db lb = some false) : Calls Tryd.prog 5 #[.agg #[.bool ha, .slice A1 da.length c1, .slice A2 la.length c2], .agg #[.bool hb, .slice B1 db.length d1, .slice B2 lb.length d2]] w fun e w' => e = .returned (.bool true) ∧ Below w.heap.size w w' := by
 have HA1 := Aside0.mk hA1
 have Hc1 := Aside0.mk hc1
 have HA2 := Aside0.mk hA2
 have Hc2 := Aside0.mk hc2
 have HB1 := Aside0.mk hB1
 have Hd1 := Aside0.mk hd1
 have HB2 := Aside0.mk hB2
 have Hd2 := Aside0.mk hd2
 have HJs := Aside0.mk (JW.mk (bA := #[.bool ha, .slice A1 da.length c1, .slice A2 la.length c2]) (bB := #[.bool hb, .slice B1 db.length d1, .slice B2 lb.length d2]) (below_alloc (below_alloc (Below.refl w.heap.size w) (.cells #[.bool ha, .slice A1 da.length c1, .slice A2 la.length c2] 36)) (.cells #[.bool hb, .slice B1 db.length d1, .slice B2 lb.length d2] 36)) (blk_alloc (blk_new w _) _) (by have h9 := blk_new (w.alloc (.cells #[.bool ha, .slice A1 da.length c1, .slice A2 la.length c2] 36)) (.cells #[.bool hb, .slice B1 db.length d1, .slice B2 lb.length d2] 36); rw [size_alloc] at h9; exact h9))
 have ts : True := trivial
 clear hA1 hc1 hA2 hc2 hB1 hd1 hB2 hd2
 have HFA := Aside0.mk hFA
 have HFB := Aside0.mk hFB
 have HSA := Aside0.mk hSA
 have HSB := Aside0.mk hSB
 clear hFA hFB hSA hSB
 go_enter Tryd.func5, Tryd.ntmps5
 go_wp2_with (first
  | (go_at_call 21; have ta_ := ts; refine (laws_zzFits20.calls _ ha A1 c1 da A2 c2 la _ _ (Kd.C_below HA1.out HJs.out.below) Hc1.out (Kd.C_below HA2.out HJs.out.below) Hc2.out HFA.out).mono ?_; rintro e wa ⟨rfl, hB⟩; have HJa := Aside0.mk (HJs.out.call hB); have ta : True := trivial; (try clear hk0 hk1 hk2 hl0 hl1 hl2); have hg_ := HJa.out.boxA; have hg2_ := HJa.out.boxB; have hk0 := (blk_cell hg_ 0).trans rfl; have hl0 := (blk_cell hg2_ 0).trans rfl; have hk1 := (blk_cell hg_ 1).trans rfl; have hl1 := (blk_cell hg2_ 1).trans rfl; have hk2 := (blk_cell hg_ 2).trans rfl; have hl2 := (blk_cell hg2_ 2).trans rfl; clear hB hg_ hg2_ ts ta_)
  | (go_at_call 21; have tb_ := ta; refine (laws_zzFits20.calls _ hb B1 d1 db B2 d2 lb _ _ (Kd.C_below HB1.out HJa.out.below) Hd1.out (Kd.C_below HB2.out HJa.out.below) Hd2.out HFB.out).mono ?_; rintro e wb ⟨rfl, hB⟩; have HJb := Aside0.mk (HJa.out.call hB); have tb : True := trivial; (try clear hk0 hk1 hk2 hl0 hl1 hl2); have hg_ := HJb.out.boxA; have hg2_ := HJb.out.boxB; have hk0 := (blk_cell hg_ 0).trans rfl; have hl0 := (blk_cell hg2_ 0).trans rfl; have hk1 := (blk_cell hg_ 1).trans rfl; have hl1 := (blk_cell hg2_ 1).trans rfl; have hk2 := (blk_cell hg_ 2).trans rfl; have hl2 := (blk_cell hg2_ 2).trans rfl; clear hB hg_ hg2_ ta tb_)
  | (go_at_call 17; have tc_ := tb; refine (laws_pbSmall.calls _ ha A1 c1 da A2 c2 la _ _ (Kd.C_below HA1.out HJb.out.below) Hc1.out (Kd.C_below HA2.out HJb.out.below) Hc2.out HSA.out).mono ?_; rintro e wc ⟨rfl, hB⟩; have HJc := Aside0.mk (HJb.out.call hB); have tc : True := trivial; (try clear hk0 hk1 hk2 hl0 hl1 hl2); have hg_ := HJc.out.boxA; have hg2_ := HJc.out.boxB; have hk0 := (blk_cell hg_ 0).trans rfl; have hl0 := (blk_cell hg2_ 0).trans rfl; have hk1 := (blk_cell hg_ 1).trans rfl; have hl1 := (blk_cell hg2_ 1).trans rfl; have hk2 := (blk_cell hg_ 2).trans rfl; have hl2 := (blk_cell hg2_ 2).trans rfl; clear hB hg_ hg2_ tb tc_)
  | (go_at_call 17; have td_ := tc; refine (laws_pbSmall.calls _ hb B1 d1 db B2 d2 lb _ _ (Kd.C_below HB1.out HJc.out.below) Hd1.out (Kd.C_below HB2.out HJc.out.below) Hd2.out HSB.out).mono ?_; rintro e wd ⟨rfl, hB⟩; have HJd := Aside0.mk (HJc.out.call hB); have td : True := trivial; (try clear hk0 hk1 hk2 hl0 hl1 hl2); have hg_ := HJd.out.boxA; have hg2_ := HJd.out.boxB; have hk0 := (blk_cell hg_ 0).trans rfl; have hl0 := (blk_cell hg2_ 0).trans rfl; have hk1 := (blk_cell hg_ 1).trans rfl; have hl1 := (blk_cell hg2_ 1).trans rfl; have hk2 := (blk_cell hg_ 2).trans rfl; have hl2 := (blk_cell hg2_ 2).trans rfl; clear hB hg_ hg2_ tc td_)
  | (go_at_call 12; refine (Go.Proofs.YtnhnlodmkbiiiaaDoor.HandPb.pbAwake_calls _).mono ?_; rintro e wj ⟨rfl, hB⟩; have HBj := Aside0.mk (below_step HJd.out.below hB); clear hB))
 go_ret
 exact ⟨rfl, HBj.out⟩
end
set_option maxHeartbeats 40000000 in
set_option maxRecDepth 100000 in
theorem law5_small_true (w : World) (hb : Bool) (da db : List Int) (la lb : List S27) (A1 A2 B1 B2 : Option Addr) (c1 c2 d1 d2 : Nat) (hA1 : Kd.C (Kd.int .u8) w A1 da.length da) (hc1 : da.length ≤ c1) (hA2 : Kd.C k27 w A2 la.length la) (hc2 : la.length ≤ c2) (hB1 : Kd.C (Kd.int .u8) w B1 db.length db) (hd1 : db.length ≤ d1) (hB2 : Kd.C k27 w B2 lb.length lb) (hd2 : lb.length ≤ d2) (hge : GE w) {ka kb ja jb ks : Nat} (hfa : laws_zzFits20.f ka true da la = some true) (hfb : laws_zzFits20.f kb hb db lb = some true) (hsa : laws_pbSmall.f ja true da la = some true) (hsb : laws_pbSmall.f jb hb db lb = some true) {xa xb xt : List Int} (hpa : spec_PbBytes.f 40 true da la = some xa) (hpb : spec_PbBytes.f 40 hb db lb = some xb) (hxt : xt = xa ++ xb) (hxa : xa.length ≤ 6000) (hxb : xb.length ≤ 6000) {hx : Bool} {dx : List Int} {lx lw : List S27} (hdec : ∀ (W : World) (A : Option Addr) (c : Nat), GE W → Kd.C (Kd.int .u8) W A xt.length xt → xt.length ≤ c → Calls Tryd.prog 22 #[.slice A xt.length c] W (DecP hx dx lx W)) (hsm : spec_PbSame.f ks hx dx lx (true || hb) (if hb = true then db else da) lw = some true) (hlw : lw = la ++ lb) (hla : la.length ≤ 20) (hlb : lb.length ≤ 20) : Calls Tryd.prog 5 #[.agg #[.bool true, .slice A1 da.length c1, .slice A2 la.length c2], .agg #[.bool hb, .slice B1 db.length d1, .slice B2 lb.length d2]] w fun e w' => e = .returned (.bool true) ∧ Below w.heap.size w w' := by
 have HA1 := Aside0.mk hA1
 have Hc1 := Aside0.mk hc1
 have HA2 := Aside0.mk hA2
 have Hc2 := Aside0.mk hc2
 have HB1 := Aside0.mk hB1
 have Hd1 := Aside0.mk hd1
 have HB2 := Aside0.mk hB2
 have Hd2 := Aside0.mk hd2
 have HJs := Aside0.mk (JW.mk (bA := #[.bool true, .slice A1 da.length c1, .slice A2 la.length c2]) (bB := #[.bool hb, .slice B1 db.length d1, .slice B2 lb.length d2]) (below_alloc (below_alloc (Below.refl w.heap.size w) (.cells #[.bool true, .slice A1 da.length c1, .slice A2 la.length c2] 36)) (.cells #[.bool hb, .slice B1 db.length d1, .slice B2 lb.length d2] 36)) (blk_alloc (blk_new w _) _) (by have h9 := blk_new (w.alloc (.cells #[.bool true, .slice A1 da.length c1, .slice A2 la.length c2] 36)) (.cells #[.bool hb, .slice B1 db.length d1, .slice B2 lb.length d2] 36); rw [size_alloc] at h9; exact h9))
 have ts : True := trivial
 clear hA1 hc1 hA2 hc2 hB1 hd1 hB2 hd2
 have HFA := Aside0.mk hfa
 have HFB := Aside0.mk hfb
 have HSA := Aside0.mk hsa
 have HSB := Aside0.mk hsb
 have HPA := Aside0.mk hpa
 have HPB := Aside0.mk hpb
 have HXT := Aside0.mk hxt
 have HLA := Aside0.mk hxa
 have HLB := Aside0.mk hxb
 have HDEC := Aside0.mk hdec
 have HSM := Aside0.mk hsm
 have HLW := Aside0.mk hlw
 have HGE := Aside0.mk hge
 have HL1 := Aside0.mk hla
 have HL2 := Aside0.mk hlb
 clear hfa hfb hsa hsb hpa hpb hxt hxa hxb hdec hsm hlw hge hla hlb
 go_enter Tryd.func5, Tryd.ntmps5
 go_wp2_with (first
  | (go_at_call 21; have ta_ := ts; refine (laws_zzFits20.calls _ true A1 c1 da A2 c2 la _ _ (Kd.C_below HA1.out HJs.out.below) Hc1.out (Kd.C_below HA2.out HJs.out.below) Hc2.out HFA.out).mono ?_; rintro e wa ⟨rfl, hB⟩; have HJa := Aside0.mk (HJs.out.call hB); have ta : True := trivial; (try clear hk0 hk1 hk2 hl0 hl1 hl2); have hg_ := HJa.out.boxA; have hg2_ := HJa.out.boxB; have hk0 := (blk_cell hg_ 0).trans rfl; have hl0 := (blk_cell hg2_ 0).trans rfl; have hk1 := (blk_cell hg_ 1).trans rfl; have hl1 := (blk_cell hg2_ 1).trans rfl; have hk2 := (blk_cell hg_ 2).trans rfl; have hl2 := (blk_cell hg2_ 2).trans rfl; clear hB hg_ hg2_ ts ta_)
  | (go_at_call 21; have tb_ := ta; refine (laws_zzFits20.calls _ hb B1 d1 db B2 d2 lb _ _ (Kd.C_below HB1.out HJa.out.below) Hd1.out (Kd.C_below HB2.out HJa.out.below) Hd2.out HFB.out).mono ?_; rintro e wb ⟨rfl, hB⟩; have HJb := Aside0.mk (HJa.out.call hB); have tb : True := trivial; (try clear hk0 hk1 hk2 hl0 hl1 hl2); have hg_ := HJb.out.boxA; have hg2_ := HJb.out.boxB; have hk0 := (blk_cell hg_ 0).trans rfl; have hl0 := (blk_cell hg2_ 0).trans rfl; have hk1 := (blk_cell hg_ 1).trans rfl; have hl1 := (blk_cell hg2_ 1).trans rfl; have hk2 := (blk_cell hg_ 2).trans rfl; have hl2 := (blk_cell hg2_ 2).trans rfl; clear hB hg_ hg2_ ta tb_)
  | (go_at_call 17; have tc_ := tb; refine (laws_pbSmall.calls _ true A1 c1 da A2 c2 la _ _ (Kd.C_below HA1.out HJb.out.below) Hc1.out (Kd.C_below HA2.out HJb.out.below) Hc2.out HSA.out).mono ?_; rintro e wc ⟨rfl, hB⟩; have HJc := Aside0.mk (HJb.out.call hB); have tc : True := trivial; (try clear hk0 hk1 hk2 hl0 hl1 hl2); have hg_ := HJc.out.boxA; have hg2_ := HJc.out.boxB; have hk0 := (blk_cell hg_ 0).trans rfl; have hl0 := (blk_cell hg2_ 0).trans rfl; have hk1 := (blk_cell hg_ 1).trans rfl; have hl1 := (blk_cell hg2_ 1).trans rfl; have hk2 := (blk_cell hg_ 2).trans rfl; have hl2 := (blk_cell hg2_ 2).trans rfl; clear hB hg_ hg2_ tb tc_)
  | (go_at_call 17; have td_ := tc; refine (laws_pbSmall.calls _ hb B1 d1 db B2 d2 lb _ _ (Kd.C_below HB1.out HJc.out.below) Hd1.out (Kd.C_below HB2.out HJc.out.below) Hd2.out HSB.out).mono ?_; rintro e wd ⟨rfl, hB⟩; have HJd := Aside0.mk (HJc.out.call hB); have td : True := trivial; (try clear hk0 hk1 hk2 hl0 hl1 hl2); have hg_ := HJd.out.boxA; have hg2_ := HJd.out.boxB; have hk0 := (blk_cell hg_ 0).trans rfl; have hl0 := (blk_cell hg2_ 0).trans rfl; have hk1 := (blk_cell hg_ 1).trans rfl; have hl1 := (blk_cell hg2_ 1).trans rfl; have hk2 := (blk_cell hg_ 2).trans rfl; have hl2 := (blk_cell hg2_ 2).trans rfl; clear hB hg_ hg2_ tc td_))
 have HJ := Aside0.mk HJd.out.drew
 refine start_ (n := 14) (S := fun w' => w'.cell? ⟨w.heap.size, 0, none⟩ = some (.bool true) ∧ w'.cell? ⟨w.heap.size, 1, none⟩ = some (.slice A1 da.length c1) ∧ w'.cell? ⟨w.heap.size, 2, none⟩ = some (.slice A2 la.length c2) ∧ w'.cell? ⟨w.heap.size + 1, 0, none⟩ = some (.bool hb) ∧ w'.cell? ⟨w.heap.size + 1, 1, none⟩ = some (.slice B1 db.length d1) ∧ w'.cell? ⟨w.heap.size + 1, 2, none⟩ = some (.slice B2 lb.length d2)) (ds := [12]) #[false, false, false, false, false, false, false, false, false, false, false, false, false, false] (by kernel_rfl) rfl rfl ⟨(blk_cell HJ.out.boxA 0).trans rfl, (blk_cell HJ.out.boxA 1).trans rfl, (blk_cell HJ.out.boxA 2).trans rfl, (blk_cell HJ.out.boxB 0).trans rfl, (blk_cell HJ.out.boxB 1).trans rfl, (blk_cell HJ.out.boxB 2).trans rfl⟩ (fun hHeld => ?_)
 refine take_ (i := 1) (N := some 27) (v := ?_) (a' := ?_) #[false, true, false, false, false, false, false, false, false, false, false, false, false, false] rfl rfl (by kernel_rfl) (fun _ _ _ h => h) (Or.inl ⟨by rfl, ?_⟩) hHeld ?_ ?_
 rotate_left
 ·rintro w' ⟨s0, s1, s2, s3, s4, s5⟩
  go_simp
  with_reducible rfl
 rotate_left
 ·simp only [Act.put, List.setIfInBounds_toArray, List.set_cons_zero, List.set_cons_succ, i64_w, i32_w]
  rfl
 refine take_ (i := 4) (N := some 30) (v := ?_) (a' := ?_) #[false, true, false, false, true, false, false, false, false, false, false, false, false, false] rfl rfl (by kernel_rfl) (fun _ _ _ h => h) (Or.inl ⟨by rfl, ?_⟩) hHeld ?_ ?_
 rotate_left
 ·rintro w' ⟨s0, s1, s2, s3, s4, s5⟩
  go_simp
  with_reducible rfl
 rotate_left
 ·simp only [Act.put, List.setIfInBounds_toArray, List.set_cons_zero, List.set_cons_succ, i64_w, i32_w]
  rfl
 refine join_ (σ := (Option Addr) × (Nat) × (Option Addr) × (Nat) × (Option Addr) × (Nat) × (Option Addr) × (Nat) × (Option Addr) × (Nat) × (Option Addr) × (Nat) × (Option Addr) × (Nat) × (Nat)) 2 #[true, true, true, true, true, true, true, true, true, true, true, true, false, false] (fun s_ => [(26, (.slice s_.1 0 s_.2.1)), (28, (.slice s_.2.2.1 xa.length s_.2.2.2.1)), (29, (.slice s_.2.2.2.2.1 xa.length s_.2.2.2.2.2.1)), (31, (.slice s_.2.2.2.2.2.2.1 xb.length s_.2.2.2.2.2.2.2.1)), (32, (.slice s_.2.2.2.2.2.2.2.2.1 xt.length s_.2.2.2.2.2.2.2.2.2.1)), (33, (.tuple #[.agg #[.bool hx, .slice s_.2.2.2.2.2.2.2.2.2.2.1 dx.length s_.2.2.2.2.2.2.2.2.2.2.2.1, .slice s_.2.2.2.2.2.2.2.2.2.2.2.2.1 lx.length s_.2.2.2.2.2.2.2.2.2.2.2.2.2.1], .bool true])), (25, (.tuple #[.agg #[.bool hx, .slice s_.2.2.2.2.2.2.2.2.2.2.1 dx.length s_.2.2.2.2.2.2.2.2.2.2.2.1, .slice s_.2.2.2.2.2.2.2.2.2.2.2.2.1 lx.length s_.2.2.2.2.2.2.2.2.2.2.2.2.2.1], .bool true])), (34, (.agg #[.bool hx, .slice s_.2.2.2.2.2.2.2.2.2.2.1 dx.length s_.2.2.2.2.2.2.2.2.2.2.2.1, .slice s_.2.2.2.2.2.2.2.2.2.2.2.2.1 lx.length s_.2.2.2.2.2.2.2.2.2.2.2.2.2.1])), (35, (.bool true)), (5, (.pointer (some ⟨s_.2.2.2.2.2.2.2.2.2.2.2.2.2.2, 0, none⟩)))]) (fun s_ w' => (JW w w' #[.bool true, .slice A1 da.length c1, .slice A2 la.length c2] #[.bool hb, .slice B1 db.length d1, .slice B2 lb.length d2]) ∧ (JN w w' s_.2.2.2.2.2.2.2.2.2.2.2.2.2.2 #[.bool false, .slice none 0 0, .slice none 0 0]) ∧ (Kd.R (Kd.int .u8) 5 w' w.heap.size (fun _ => True) (.slice s_.2.2.2.2.2.2.2.2.2.2.1 dx.length s_.2.2.2.2.2.2.2.2.2.2.2.1) dx) ∧ (Kd.R k27 27 w' w.heap.size (fun _ => True) (.slice s_.2.2.2.2.2.2.2.2.2.2.2.2.1 lx.length s_.2.2.2.2.2.2.2.2.2.2.2.2.2.1) lx)) ?_ ?_
 rotate_left
 ·intro hJ0_2_3_5_6_7_11
  refine join_ (σ := (Option Addr) × (Nat) × (Option Addr) × (Nat) × (Option Addr) × (Nat) × (Option Addr) × (Nat) × (Option Addr) × (Nat) × (Option Addr) × (Nat) × (Option Addr) × (Nat)) 3 #[true, true, true, true, true, true, true, true, true, true, true, false, false, false] (fun s_ => [(26, (.slice s_.1 0 s_.2.1)), (28, (.slice s_.2.2.1 xa.length s_.2.2.2.1)), (29, (.slice s_.2.2.2.2.1 xa.length s_.2.2.2.2.2.1)), (31, (.slice s_.2.2.2.2.2.2.1 xb.length s_.2.2.2.2.2.2.2.1)), (32, (.slice s_.2.2.2.2.2.2.2.2.1 xt.length s_.2.2.2.2.2.2.2.2.2.1)), (33, (.tuple #[.agg #[.bool hx, .slice s_.2.2.2.2.2.2.2.2.2.2.1 dx.length s_.2.2.2.2.2.2.2.2.2.2.2.1, .slice s_.2.2.2.2.2.2.2.2.2.2.2.2.1 lx.length s_.2.2.2.2.2.2.2.2.2.2.2.2.2], .bool true])), (25, (.tuple #[.agg #[.bool hx, .slice s_.2.2.2.2.2.2.2.2.2.2.1 dx.length s_.2.2.2.2.2.2.2.2.2.2.2.1, .slice s_.2.2.2.2.2.2.2.2.2.2.2.2.1 lx.length s_.2.2.2.2.2.2.2.2.2.2.2.2.2], .bool true])), (34, (.agg #[.bool hx, .slice s_.2.2.2.2.2.2.2.2.2.2.1 dx.length s_.2.2.2.2.2.2.2.2.2.2.2.1, .slice s_.2.2.2.2.2.2.2.2.2.2.2.2.1 lx.length s_.2.2.2.2.2.2.2.2.2.2.2.2.2])), (35, (.bool true))]) (fun s_ w' => (JW w w' #[.bool true, .slice A1 da.length c1, .slice A2 la.length c2] #[.bool hb, .slice B1 db.length d1, .slice B2 lb.length d2]) ∧ (Kd.R (Kd.int .u8) 5 w' w.heap.size (fun _ => True) (.slice s_.2.2.2.2.2.2.2.2.2.2.1 dx.length s_.2.2.2.2.2.2.2.2.2.2.2.1) dx) ∧ (Kd.R k27 27 w' w.heap.size (fun _ => True) (.slice s_.2.2.2.2.2.2.2.2.2.2.2.2.1 lx.length s_.2.2.2.2.2.2.2.2.2.2.2.2.2) lx)) ?_ ?_
  rotate_left
  ·intro hJ0_2_3_5_6_7
   refine join_ (σ := (Option Addr) × (Nat) × (Option Addr) × (Nat) × (Option Addr) × (Nat) × (Option Addr) × (Nat) × (Option Addr) × (Nat) × (Nat)) 6 #[true, true, true, true, true, true, true, false, false, false, false, true, false, false] (fun s_ => [(26, (.slice s_.1 0 s_.2.1)), (28, (.slice s_.2.2.1 xa.length s_.2.2.2.1)), (29, (.slice s_.2.2.2.2.1 xa.length s_.2.2.2.2.2.1)), (31, (.slice s_.2.2.2.2.2.2.1 xb.length s_.2.2.2.2.2.2.2.1)), (32, (.slice s_.2.2.2.2.2.2.2.2.1 xt.length s_.2.2.2.2.2.2.2.2.2.1)), (5, (.pointer (some ⟨s_.2.2.2.2.2.2.2.2.2.2, 0, none⟩)))]) (fun s_ w' => (JW w w' #[.bool true, .slice A1 da.length c1, .slice A2 la.length c2] #[.bool hb, .slice B1 db.length d1, .slice B2 lb.length d2]) ∧ (JN w w' s_.2.2.2.2.2.2.2.2.2.2 #[.bool false, .slice none 0 0, .slice none 0 0]) ∧ (Kd.R (Kd.int .u8) 5 w' w.heap.size (fun _ => True) (.slice s_.2.2.2.2.2.2.2.2.1 xt.length s_.2.2.2.2.2.2.2.2.2.1) xt)) ?_ ?_
   rotate_left
   ·intro hJ0_2_3_5_6_11
    refine join_ (σ := (Option Addr) × (Nat) × (Option Addr) × (Nat) × (Option Addr) × (Nat) × (Option Addr) × (Nat) × (Option Addr) × (Nat)) 7 #[true, true, true, true, true, true, true, false, false, false, false, false, false, false] (fun s_ => [(26, (.slice s_.1 0 s_.2.1)), (28, (.slice s_.2.2.1 xa.length s_.2.2.2.1)), (29, (.slice s_.2.2.2.2.1 xa.length s_.2.2.2.2.2.1)), (31, (.slice s_.2.2.2.2.2.2.1 xb.length s_.2.2.2.2.2.2.2.1)), (32, (.slice s_.2.2.2.2.2.2.2.2.1 xt.length s_.2.2.2.2.2.2.2.2.2))]) (fun s_ w' => (JW w w' #[.bool true, .slice A1 da.length c1, .slice A2 la.length c2] #[.bool hb, .slice B1 db.length d1, .slice B2 lb.length d2]) ∧ (Kd.R (Kd.int .u8) 5 w' w.heap.size (fun _ => True) (.slice s_.2.2.2.2.2.2.2.2.1 xt.length s_.2.2.2.2.2.2.2.2.2) xt)) ?_ ?_
    rotate_left
    ·intro hJ0_2_3_5_6
     refine join_ (σ := (Option Addr) × (Nat) × (Option Addr) × (Nat) × (Option Addr) × (Nat) × (Option Addr) × (Nat) × (Nat)) 7 #[true, true, true, true, true, true, false, false, false, false, false, true, false, false] (fun s_ => [(26, (.slice s_.1 0 s_.2.1)), (28, (.slice s_.2.2.1 xa.length s_.2.2.2.1)), (29, (.slice s_.2.2.2.2.1 xa.length s_.2.2.2.2.2.1)), (31, (.slice s_.2.2.2.2.2.2.1 xb.length s_.2.2.2.2.2.2.2.1)), (5, (.pointer (some ⟨s_.2.2.2.2.2.2.2.2, 0, none⟩)))]) (fun s_ w' => (JW w w' #[.bool true, .slice A1 da.length c1, .slice A2 la.length c2] #[.bool hb, .slice B1 db.length d1, .slice B2 lb.length d2]) ∧ (JN w w' s_.2.2.2.2.2.2.2.2 #[.bool false, .slice none 0 0, .slice none 0 0]) ∧ (Kd.R (Kd.int .u8) 5 w' w.heap.size (fun _ => True) (.slice s_.2.2.2.2.1 xa.length s_.2.2.2.2.2.1) xa) ∧ (Kd.R (Kd.int .u8) 5 w' w.heap.size (fun _ => True) (.slice s_.2.2.2.2.2.2.1 xb.length s_.2.2.2.2.2.2.2.1) xb)) ?_ ?_
     rotate_left
     ·intro hJ0_2_3_5_11
      refine join_ (σ := (Option Addr) × (Nat) × (Option Addr) × (Nat) × (Option Addr) × (Nat) × (Option Addr) × (Nat)) 8 #[true, true, true, true, true, true, false, false, false, false, false, false, false, false] (fun s_ => [(26, (.slice s_.1 0 s_.2.1)), (28, (.slice s_.2.2.1 xa.length s_.2.2.2.1)), (29, (.slice s_.2.2.2.2.1 xa.length s_.2.2.2.2.2.1)), (31, (.slice s_.2.2.2.2.2.2.1 xb.length s_.2.2.2.2.2.2.2))]) (fun s_ w' => (JW w w' #[.bool true, .slice A1 da.length c1, .slice A2 la.length c2] #[.bool hb, .slice B1 db.length d1, .slice B2 lb.length d2]) ∧ (Kd.R (Kd.int .u8) 5 w' w.heap.size (fun _ => True) (.slice s_.2.2.2.2.1 xa.length s_.2.2.2.2.2.1) xa) ∧ (Kd.R (Kd.int .u8) 5 w' w.heap.size (fun _ => True) (.slice s_.2.2.2.2.2.2.1 xb.length s_.2.2.2.2.2.2.2) xb)) ?_ ?_
      rotate_left
      ·intro hJ0_2_3_5
       refine join_ (σ := (Option Addr) × (Nat) × (Option Addr) × (Nat) × (Option Addr) × (Nat) × (Nat)) 8 #[true, true, true, true, true, false, false, false, false, false, false, true, false, false] (fun s_ => [(26, (.slice s_.1 0 s_.2.1)), (28, (.slice s_.2.2.1 xa.length s_.2.2.2.1)), (29, (.slice s_.2.2.2.2.1 xa.length s_.2.2.2.2.2.1)), (5, (.pointer (some ⟨s_.2.2.2.2.2.2, 0, none⟩)))]) (fun s_ w' => (JW w w' #[.bool true, .slice A1 da.length c1, .slice A2 la.length c2] #[.bool hb, .slice B1 db.length d1, .slice B2 lb.length d2]) ∧ (JN w w' s_.2.2.2.2.2.2 #[.bool false, .slice none 0 0, .slice none 0 0]) ∧ (Kd.R (Kd.int .u8) 5 w' w.heap.size (fun _ => True) (.slice s_.2.2.2.2.1 xa.length s_.2.2.2.2.2.1) xa)) ?_ ?_
       rotate_left
       ·intro hJ0_2_3_11
        refine join_ (σ := (Option Addr) × (Nat) × (Option Addr) × (Nat) × (Option Addr) × (Nat)) 9 #[true, true, true, true, true, false, false, false, false, false, false, false, false, false] (fun s_ => [(26, (.slice s_.1 0 s_.2.1)), (28, (.slice s_.2.2.1 xa.length s_.2.2.2.1)), (29, (.slice s_.2.2.2.2.1 xa.length s_.2.2.2.2.2))]) (fun s_ w' => (JW w w' #[.bool true, .slice A1 da.length c1, .slice A2 la.length c2] #[.bool hb, .slice B1 db.length d1, .slice B2 lb.length d2]) ∧ (Kd.R (Kd.int .u8) 5 w' w.heap.size (fun _ => True) (.slice s_.2.2.2.2.1 xa.length s_.2.2.2.2.2) xa)) ?_ ?_
        rotate_left
        ·intro hJ0_2_3
         refine join_ (σ := (Option Addr) × (Nat) × (Option Addr) × (Nat) × (Nat)) 9 #[true, true, true, false, true, false, false, false, false, false, false, true, false, false] (fun s_ => [(26, (.slice s_.1 0 s_.2.1)), (28, (.slice s_.2.2.1 xa.length s_.2.2.2.1)), (5, (.pointer (some ⟨s_.2.2.2.2, 0, none⟩)))]) (fun s_ w' => (JW w w' #[.bool true, .slice A1 da.length c1, .slice A2 la.length c2] #[.bool hb, .slice B1 db.length d1, .slice B2 lb.length d2]) ∧ (JN w w' s_.2.2.2.2 #[.bool false, .slice none 0 0, .slice none 0 0]) ∧ (Kd.R (Kd.int .u8) 5 w' w.heap.size (fun _ => True) (.slice s_.1 0 s_.2.1) []) ∧ (Kd.R (Kd.int .u8) 5 w' w.heap.size (fun _ => True) (.slice s_.2.2.1 xa.length s_.2.2.2.1) xa)) ?_ ?_
         rotate_left
         ·intro hJ0_2_11
          refine join_ (σ := (Option Addr) × (Nat) × (Option Addr) × (Nat)) 10 #[true, true, true, false, true, false, false, false, false, false, false, false, false, false] (fun s_ => [(26, (.slice s_.1 0 s_.2.1)), (28, (.slice s_.2.2.1 xa.length s_.2.2.2))]) (fun s_ w' => (JW w w' #[.bool true, .slice A1 da.length c1, .slice A2 la.length c2] #[.bool hb, .slice B1 db.length d1, .slice B2 lb.length d2]) ∧ (Kd.R (Kd.int .u8) 5 w' w.heap.size (fun _ => True) (.slice s_.1 0 s_.2.1) []) ∧ (Kd.R (Kd.int .u8) 5 w' w.heap.size (fun _ => True) (.slice s_.2.2.1 xa.length s_.2.2.2) xa)) ?_ ?_
          rotate_left
          ·intro hJ0_2
           refine join_ (σ := (Option Addr) × (Nat) × (Nat)) 10 #[true, true, false, false, true, false, false, false, false, false, false, true, false, false] (fun s_ => [(26, (.slice s_.1 0 s_.2.1)), (5, (.pointer (some ⟨s_.2.2, 0, none⟩)))]) (fun s_ w' => (JW w w' #[.bool true, .slice A1 da.length c1, .slice A2 la.length c2] #[.bool hb, .slice B1 db.length d1, .slice B2 lb.length d2]) ∧ (JN w w' s_.2.2 #[.bool false, .slice none 0 0, .slice none 0 0]) ∧ (Kd.R (Kd.int .u8) 5 w' w.heap.size (fun _ => True) (.slice s_.1 0 s_.2.1) [])) ?_ ?_
           rotate_left
           ·intro hJ0_11
            refine join_ (σ := (Option Addr) × (Nat) × (Nat)) 10 #[false, true, true, false, true, false, false, false, false, false, false, true, false, false] (fun s_ => [(28, (.slice s_.1 xa.length s_.2.1)), (5, (.pointer (some ⟨s_.2.2, 0, none⟩)))]) (fun s_ w' => (JW w w' #[.bool true, .slice A1 da.length c1, .slice A2 la.length c2] #[.bool hb, .slice B1 db.length d1, .slice B2 lb.length d2]) ∧ (JN w w' s_.2.2 #[.bool false, .slice none 0 0, .slice none 0 0]) ∧ (Kd.R (Kd.int .u8) 5 w' w.heap.size (fun _ => True) (.slice s_.1 xa.length s_.2.1) xa)) ?_ ?_
            rotate_left
            ·intro hJ2_11
             refine join_ (σ := (Option Addr) × (Nat)) 11 #[true, true, false, false, true, false, false, false, false, false, false, false, false, false] (fun s_ => [(26, (.slice s_.1 0 s_.2))]) (fun s_ w' => (JW w w' #[.bool true, .slice A1 da.length c1, .slice A2 la.length c2] #[.bool hb, .slice B1 db.length d1, .slice B2 lb.length d2]) ∧ (Kd.R (Kd.int .u8) 5 w' w.heap.size (fun _ => True) (.slice s_.1 0 s_.2) [])) ?_ ?_
             rotate_left
             ·intro hJ0
              refine join_ (σ := (Option Addr) × (Nat)) 11 #[false, true, true, false, true, false, false, false, false, false, false, false, false, false] (fun s_ => [(28, (.slice s_.1 xa.length s_.2))]) (fun s_ w' => (JW w w' #[.bool true, .slice A1 da.length c1, .slice A2 la.length c2] #[.bool hb, .slice B1 db.length d1, .slice B2 lb.length d2]) ∧ (Kd.R (Kd.int .u8) 5 w' w.heap.size (fun _ => True) (.slice s_.1 xa.length s_.2) xa)) ?_ ?_
              rotate_left
              ·intro hJ2
               refine join_ (σ := (Nat)) 11 #[false, true, false, false, true, false, false, false, false, false, false, true, false, false] (fun s_ => [(5, (.pointer (some ⟨s_, 0, none⟩)))]) (fun s_ w' => (JW w w' #[.bool true, .slice A1 da.length c1, .slice A2 la.length c2] #[.bool hb, .slice B1 db.length d1, .slice B2 lb.length d2]) ∧ (JN w w' s_ #[.bool false, .slice none 0 0, .slice none 0 0])) ?_ ?_
               rotate_left
               ·intro hJ11
                refine three_ (i := 0) (j := 2) (k := 11) (Ni := some 26) (Nj := some 28) (Nk := some 5) #[true, true, false, false, true, false, false, false, false, false, false, false, false, false] #[false, true, true, false, true, false, false, false, false, false, false, false, false, false] #[false, true, false, false, true, false, false, false, false, false, false, true, false, false] rfl rfl rfl rfl rfl rfl (by kernel_rfl) (by decide) (by decide) (by decide) (fun K hK => ?_) (fun K hK => ?_) (fun K hK => ?_)
                ·skip
                 refine Kd.R_lit_step (Kd.int .u8) (w0 := w) w.heap.size 5 (by rfl) (N := 26) rfl (xs := ([] : List Int)) (inner := []) (ok := fun _ => True) (okp := fun _ => False) (by first | (go_simp; done) | (go_simp; rfl)) (by constructor <;> simp) (fun _ hk => hk.elim) trivial HJ.out.below HJ.out.below.size (by simp) ?_
                 intro v W2 hR hB hG hat
                 obtain ⟨A26, c26, e26⟩ := Kd.R_slice hR
                 have e27 : v = .slice A26 0 c26 := e26
                 subst e27
                 have HJ' := Aside0.mk (HJ.out.grow hB hG (fun k_ cs_ hk_ => by simp))
                 have HR26' := Aside0.mk hR
                 clear hR hB hG hat e26
                 refine hK.out _ _ ⟨(blk_cell HJ'.out.boxA 0).trans rfl, (blk_cell HJ'.out.boxA 1).trans rfl, (blk_cell HJ'.out.boxA 2).trans rfl, (blk_cell HJ'.out.boxB 0).trans rfl, (blk_cell HJ'.out.boxB 1).trans rfl, (blk_cell HJ'.out.boxB 2).trans rfl⟩ (fun hHeld => ?_)
                 clear hK K
                 refine norm_ (a' := ?_) ?_ ?_
                 rotate_left
                 ·show Act.put _ (some 26) _ = _
                  simp only [Act.put, List.setIfInBounds_toArray, List.set_cons_zero, List.set_cons_succ, i64_w, i32_w]
                  rfl
                 exact norm_ (by first | (simp only [putAll, Act.put, List.setIfInBounds_toArray, List.set_cons_zero, List.set_cons_succ]; done) | (simp only [putAll, Act.put, List.setIfInBounds_toArray, List.set_cons_zero, List.set_cons_succ]; rfl)) (hJ0 (A26, c26) _ ⟨HJ'.out, HR26'.out⟩)
                ·skip
                 refine goes_ Tryd.func23 (by kernel_rfl) rfl #[.agg #[.bool true, .slice A1 da.length c1, .slice A2 la.length c2]] (by rfl) rfl rfl (by simp only [List.map_toArray, List.map_cons, List.map_nil]; rfl) ?_
                 with_reducible refine (spec_PbBytes.calls 40 true A1 c1 da A2 c2 la _ _ (Kd.C_below HA1.out HJ.out.below) Hc1.out (Kd.C_below HA2.out HJ.out.below) Hc2.out HPA.out).mono ?_
                 rintro e W2 ⟨v2, rfl, hR, hB⟩
                 obtain ⟨A28, c28, rfl⟩ := Kd.R_slice hR
                 have HJ' := Aside0.mk (HJ.out.call hB)
                 have HR28' := Aside0.mk (Kd.R_lower hR HJ.out.below.size)
                 clear hR hB
                 refine ⟨_, rfl, ?_⟩
                 refine hK.out _ _ ⟨(blk_cell HJ'.out.boxA 0).trans rfl, (blk_cell HJ'.out.boxA 1).trans rfl, (blk_cell HJ'.out.boxA 2).trans rfl, (blk_cell HJ'.out.boxB 0).trans rfl, (blk_cell HJ'.out.boxB 1).trans rfl, (blk_cell HJ'.out.boxB 2).trans rfl⟩ (fun hHeld => ?_)
                 clear hK K
                 refine norm_ (a' := ?_) ?_ ?_
                 rotate_left
                 ·show Act.put _ (some 28) _ = _
                  simp only [Act.put, List.setIfInBounds_toArray, List.set_cons_zero, List.set_cons_succ, i64_w, i32_w]
                  rfl
                 exact norm_ (by first | (simp only [putAll, Act.put, List.setIfInBounds_toArray, List.set_cons_zero, List.set_cons_succ]; done) | (simp only [putAll, Act.put, List.setIfInBounds_toArray, List.set_cons_zero, List.set_cons_succ]; rfl)) (hJ2 (A28, c28) _ ⟨HJ'.out, HR28'.out⟩)
                ·skip
                 refine value_ (w1 := ?_) (v := ?_) (by rfl) rfl ?_ ?_
                 rotate_left 2
                 ·go_simp
                  constructor
                  ·rfl
                  ·rfl
                 have HN' := Aside0.mk (JN.new HJ.out #[.bool false, .slice none 0 0, .slice none 0 0])
                 have HJ' := Aside0.mk (HJ.out.alloc (.cells #[.bool false, .slice none 0 0, .slice none 0 0] 36))
                 refine hK.out _ _ ⟨(blk_cell HJ'.out.boxA 0).trans rfl, (blk_cell HJ'.out.boxA 1).trans rfl, (blk_cell HJ'.out.boxA 2).trans rfl, (blk_cell HJ'.out.boxB 0).trans rfl, (blk_cell HJ'.out.boxB 1).trans rfl, (blk_cell HJ'.out.boxB 2).trans rfl⟩ (fun hHeld => ?_)
                 clear hK K
                 refine norm_ (a' := ?_) ?_ ?_
                 rotate_left
                 ·show Act.put _ (some 5) _ = _
                  simp only [Act.put, List.setIfInBounds_toArray, List.set_cons_zero, List.set_cons_succ, i64_w, i32_w]
                  rfl
                 exact norm_ (by first | (simp only [putAll, Act.put, List.setIfInBounds_toArray, List.set_cons_zero, List.set_cons_succ]; done) | (simp only [putAll, Act.put, List.setIfInBounds_toArray, List.set_cons_zero, List.set_cons_succ]; rfl)) (hJ11 wd.heap.size _ ⟨HJ'.out, HN'.out⟩)
               ·skip
                rintro n5 W11 hF
                have HJ : Aside0 (JW w W11 #[.bool true, .slice A1 da.length c1, .slice A2 la.length c2] #[.bool hb, .slice B1 db.length d1, .slice B2 lb.length d2]) := ⟨hF.1⟩
                have HN : Aside0 (JN w W11 n5 #[.bool false, .slice none 0 0, .slice none 0 0]) := ⟨hF.2⟩
                have hHeld : W11.cell? ⟨w.heap.size, 0, none⟩ = some (.bool true) ∧ W11.cell? ⟨w.heap.size, 1, none⟩ = some (.slice A1 da.length c1) ∧ W11.cell? ⟨w.heap.size, 2, none⟩ = some (.slice A2 la.length c2) ∧ W11.cell? ⟨w.heap.size + 1, 0, none⟩ = some (.bool hb) ∧ W11.cell? ⟨w.heap.size + 1, 1, none⟩ = some (.slice B1 db.length d1) ∧ W11.cell? ⟨w.heap.size + 1, 2, none⟩ = some (.slice B2 lb.length d2) := ⟨(blk_cell HJ.out.boxA 0).trans rfl, (blk_cell HJ.out.boxA 1).trans rfl, (blk_cell HJ.out.boxA 2).trans rfl, (blk_cell HJ.out.boxB 0).trans rfl, (blk_cell HJ.out.boxB 1).trans rfl, (blk_cell HJ.out.boxB 2).trans rfl⟩
                clear hF
                have hq0 := (blk_cell HN.out.blk 0).trans rfl
                have hq1 := (blk_cell HN.out.blk 1).trans rfl
                have hq2 := (blk_cell HN.out.blk 2).trans rfl
                have hqf := blk_frozen HN.out.blk
                refine norm_ (a' := ?_) ?_ ?_
                rotate_left
                ·simp only [putAll, Act.put, List.setIfInBounds_toArray, List.set_cons_zero, List.set_cons_succ]
                 rfl
                refine two_ (i := 0) (j := 2) (Ni := some 26) (Nj := some 28) #[true, true, false, false, true, false, false, false, false, false, false, true, false, false] #[false, true, true, false, true, false, false, false, false, false, false, true, false, false] rfl rfl rfl rfl (by kernel_rfl) (by decide) (by decide) (fun K hK => ?_) (fun K hK => ?_)
                ·skip
                 refine Kd.R_lit_step (Kd.int .u8) (w0 := w) w.heap.size 5 (by rfl) (N := 26) rfl (xs := ([] : List Int)) (inner := []) (ok := fun _ => True) (okp := fun _ => False) (by first | (go_simp; done) | (go_simp; rfl)) (by constructor <;> simp) (fun _ hk => hk.elim) trivial HJ.out.below HJ.out.below.size (by simp) ?_
                 intro v W2 hR hB hG hat
                 obtain ⟨A26, c26, e26⟩ := Kd.R_slice hR
                 have e27 : v = .slice A26 0 c26 := e26
                 subst e27
                 have HJ' := Aside0.mk (HJ.out.grow hB hG (fun k_ cs_ hk_ => by simp))
                 have HN' := Aside0.mk (HN.out.grow hG (fun k_ cs_ hk_ => by simp))
                 have HR26' := Aside0.mk hR
                 clear hR hB hG hat e26
                 refine hK.out _ _ ⟨(blk_cell HJ'.out.boxA 0).trans rfl, (blk_cell HJ'.out.boxA 1).trans rfl, (blk_cell HJ'.out.boxA 2).trans rfl, (blk_cell HJ'.out.boxB 0).trans rfl, (blk_cell HJ'.out.boxB 1).trans rfl, (blk_cell HJ'.out.boxB 2).trans rfl⟩ (fun hHeld => ?_)
                 clear hK K
                 refine norm_ (a' := ?_) ?_ ?_
                 rotate_left
                 ·show Act.put _ (some 26) _ = _
                  simp only [Act.put, List.setIfInBounds_toArray, List.set_cons_zero, List.set_cons_succ, i64_w, i32_w]
                  rfl
                 exact norm_ (by first | (simp only [putAll, Act.put, List.setIfInBounds_toArray, List.set_cons_zero, List.set_cons_succ]; done) | (simp only [putAll, Act.put, List.setIfInBounds_toArray, List.set_cons_zero, List.set_cons_succ]; rfl)) (hJ0_11 (A26, c26, n5) _ ⟨HJ'.out, HN'.out, HR26'.out⟩)
                ·skip
                 refine goes_ Tryd.func23 (by kernel_rfl) rfl #[.agg #[.bool true, .slice A1 da.length c1, .slice A2 la.length c2]] (by rfl) rfl rfl (by simp only [List.map_toArray, List.map_cons, List.map_nil]; rfl) ?_
                 with_reducible refine (spec_PbBytes.calls 40 true A1 c1 da A2 c2 la _ _ (Kd.C_below HA1.out HJ.out.below) Hc1.out (Kd.C_below HA2.out HJ.out.below) Hc2.out HPA.out).mono ?_
                 rintro e W2 ⟨v2, rfl, hR, hB⟩
                 obtain ⟨A28, c28, rfl⟩ := Kd.R_slice hR
                 have HJ' := Aside0.mk (HJ.out.call hB)
                 have HN' := Aside0.mk (HN.out.call hB)
                 have HR28' := Aside0.mk (Kd.R_lower hR HJ.out.below.size)
                 clear hR hB
                 refine ⟨_, rfl, ?_⟩
                 refine hK.out _ _ ⟨(blk_cell HJ'.out.boxA 0).trans rfl, (blk_cell HJ'.out.boxA 1).trans rfl, (blk_cell HJ'.out.boxA 2).trans rfl, (blk_cell HJ'.out.boxB 0).trans rfl, (blk_cell HJ'.out.boxB 1).trans rfl, (blk_cell HJ'.out.boxB 2).trans rfl⟩ (fun hHeld => ?_)
                 clear hK K
                 refine norm_ (a' := ?_) ?_ ?_
                 rotate_left
                 ·show Act.put _ (some 28) _ = _
                  simp only [Act.put, List.setIfInBounds_toArray, List.set_cons_zero, List.set_cons_succ, i64_w, i32_w]
                  rfl
                 exact norm_ (by first | (simp only [putAll, Act.put, List.setIfInBounds_toArray, List.set_cons_zero, List.set_cons_succ]; done) | (simp only [putAll, Act.put, List.setIfInBounds_toArray, List.set_cons_zero, List.set_cons_succ]; rfl)) (hJ2_11 (A28, c28, n5) _ ⟨HJ'.out, HN'.out, HR28'.out⟩)
              ·skip
               rintro ⟨A28, c28⟩ W2 hF
               have HJ : Aside0 (JW w W2 #[.bool true, .slice A1 da.length c1, .slice A2 la.length c2] #[.bool hb, .slice B1 db.length d1, .slice B2 lb.length d2]) := ⟨hF.1⟩
               have HR28 : Aside0 (Kd.R (Kd.int .u8) 5 W2 w.heap.size (fun _ => True) (.slice A28 xa.length c28) xa) := ⟨hF.2⟩
               have hHeld : W2.cell? ⟨w.heap.size, 0, none⟩ = some (.bool true) ∧ W2.cell? ⟨w.heap.size, 1, none⟩ = some (.slice A1 da.length c1) ∧ W2.cell? ⟨w.heap.size, 2, none⟩ = some (.slice A2 la.length c2) ∧ W2.cell? ⟨w.heap.size + 1, 0, none⟩ = some (.bool hb) ∧ W2.cell? ⟨w.heap.size + 1, 1, none⟩ = some (.slice B1 db.length d1) ∧ W2.cell? ⟨w.heap.size + 1, 2, none⟩ = some (.slice B2 lb.length d2) := ⟨(blk_cell HJ.out.boxA 0).trans rfl, (blk_cell HJ.out.boxA 1).trans rfl, (blk_cell HJ.out.boxA 2).trans rfl, (blk_cell HJ.out.boxB 0).trans rfl, (blk_cell HJ.out.boxB 1).trans rfl, (blk_cell HJ.out.boxB 2).trans rfl⟩
               clear hF
               refine norm_ (a' := ?_) ?_ ?_
               rotate_left
               ·simp only [putAll, Act.put, List.setIfInBounds_toArray, List.set_cons_zero, List.set_cons_succ]
                rfl
               refine two_ (i := 0) (j := 11) (Ni := some 26) (Nj := some 5) #[true, true, true, false, true, false, false, false, false, false, false, false, false, false] #[false, true, true, false, true, false, false, false, false, false, false, true, false, false] rfl rfl rfl rfl (by kernel_rfl) (by decide) (by decide) (fun K hK => ?_) (fun K hK => ?_)
               ·skip
                refine Kd.R_lit_step (Kd.int .u8) (w0 := w) w.heap.size 5 (by rfl) (N := 26) rfl (xs := ([] : List Int)) (inner := []) (ok := fun _ => True) (okp := fun _ => False) (by first | (go_simp; done) | (go_simp; rfl)) (by constructor <;> simp) (fun _ hk => hk.elim) trivial HJ.out.below HJ.out.below.size (by simp) ?_
                intro v W2 hR hB hG hat
                obtain ⟨A26, c26, e26⟩ := Kd.R_slice hR
                have e27 : v = .slice A26 0 c26 := e26
                subst e27
                have HJ' := Aside0.mk (HJ.out.grow hB hG (fun k_ cs_ hk_ => by simp))
                have HR28' := Aside0.mk (Kd.R_grown HR28.out hG (fun _ _ => by simp))
                have HR26' := Aside0.mk hR
                clear hR hB hG hat e26
                refine hK.out _ _ ⟨(blk_cell HJ'.out.boxA 0).trans rfl, (blk_cell HJ'.out.boxA 1).trans rfl, (blk_cell HJ'.out.boxA 2).trans rfl, (blk_cell HJ'.out.boxB 0).trans rfl, (blk_cell HJ'.out.boxB 1).trans rfl, (blk_cell HJ'.out.boxB 2).trans rfl⟩ (fun hHeld => ?_)
                clear hK K
                refine norm_ (a' := ?_) ?_ ?_
                rotate_left
                ·show Act.put _ (some 26) _ = _
                 simp only [Act.put, List.setIfInBounds_toArray, List.set_cons_zero, List.set_cons_succ, i64_w, i32_w]
                 rfl
                exact norm_ (by first | (simp only [putAll, Act.put, List.setIfInBounds_toArray, List.set_cons_zero, List.set_cons_succ]; done) | (simp only [putAll, Act.put, List.setIfInBounds_toArray, List.set_cons_zero, List.set_cons_succ]; rfl)) (hJ0_2 (A26, c26, A28, c28) _ ⟨HJ'.out, HR26'.out, HR28'.out⟩)
               ·skip
                refine value_ (w1 := ?_) (v := ?_) (by rfl) rfl ?_ ?_
                rotate_left 2
                ·go_simp
                 constructor
                 ·rfl
                 ·rfl
                have HN' := Aside0.mk (JN.new HJ.out #[.bool false, .slice none 0 0, .slice none 0 0])
                have HJ' := Aside0.mk (HJ.out.alloc (.cells #[.bool false, .slice none 0 0, .slice none 0 0] 36))
                have HR28' := Aside0.mk (Kd.R_alloc HR28.out (.cells #[.bool false, .slice none 0 0, .slice none 0 0] 36))
                refine hK.out _ _ ⟨(blk_cell HJ'.out.boxA 0).trans rfl, (blk_cell HJ'.out.boxA 1).trans rfl, (blk_cell HJ'.out.boxA 2).trans rfl, (blk_cell HJ'.out.boxB 0).trans rfl, (blk_cell HJ'.out.boxB 1).trans rfl, (blk_cell HJ'.out.boxB 2).trans rfl⟩ (fun hHeld => ?_)
                clear hK K
                refine norm_ (a' := ?_) ?_ ?_
                rotate_left
                ·show Act.put _ (some 5) _ = _
                 simp only [Act.put, List.setIfInBounds_toArray, List.set_cons_zero, List.set_cons_succ, i64_w, i32_w]
                 rfl
                exact norm_ (by first | (simp only [putAll, Act.put, List.setIfInBounds_toArray, List.set_cons_zero, List.set_cons_succ]; done) | (simp only [putAll, Act.put, List.setIfInBounds_toArray, List.set_cons_zero, List.set_cons_succ]; rfl)) (hJ2_11 (A28, c28, W2.heap.size) _ ⟨HJ'.out, HN'.out, HR28'.out⟩)
             ·skip
              rintro ⟨A26, c26⟩ W0 hF
              have HJ : Aside0 (JW w W0 #[.bool true, .slice A1 da.length c1, .slice A2 la.length c2] #[.bool hb, .slice B1 db.length d1, .slice B2 lb.length d2]) := ⟨hF.1⟩
              have HR26 : Aside0 (Kd.R (Kd.int .u8) 5 W0 w.heap.size (fun _ => True) (.slice A26 0 c26) []) := ⟨hF.2⟩
              have hHeld : W0.cell? ⟨w.heap.size, 0, none⟩ = some (.bool true) ∧ W0.cell? ⟨w.heap.size, 1, none⟩ = some (.slice A1 da.length c1) ∧ W0.cell? ⟨w.heap.size, 2, none⟩ = some (.slice A2 la.length c2) ∧ W0.cell? ⟨w.heap.size + 1, 0, none⟩ = some (.bool hb) ∧ W0.cell? ⟨w.heap.size + 1, 1, none⟩ = some (.slice B1 db.length d1) ∧ W0.cell? ⟨w.heap.size + 1, 2, none⟩ = some (.slice B2 lb.length d2) := ⟨(blk_cell HJ.out.boxA 0).trans rfl, (blk_cell HJ.out.boxA 1).trans rfl, (blk_cell HJ.out.boxA 2).trans rfl, (blk_cell HJ.out.boxB 0).trans rfl, (blk_cell HJ.out.boxB 1).trans rfl, (blk_cell HJ.out.boxB 2).trans rfl⟩
              clear hF
              refine norm_ (a' := ?_) ?_ ?_
              rotate_left
              ·simp only [putAll, Act.put, List.setIfInBounds_toArray, List.set_cons_zero, List.set_cons_succ]
               rfl
              refine two_ (i := 2) (j := 11) (Ni := some 28) (Nj := some 5) #[true, true, true, false, true, false, false, false, false, false, false, false, false, false] #[true, true, false, false, true, false, false, false, false, false, false, true, false, false] rfl rfl rfl rfl (by kernel_rfl) (by decide) (by decide) (fun K hK => ?_) (fun K hK => ?_)
              ·skip
               refine goes_ Tryd.func23 (by kernel_rfl) rfl #[.agg #[.bool true, .slice A1 da.length c1, .slice A2 la.length c2]] (by rfl) rfl rfl (by simp only [List.map_toArray, List.map_cons, List.map_nil]; rfl) ?_
               with_reducible refine (spec_PbBytes.calls 40 true A1 c1 da A2 c2 la _ _ (Kd.C_below HA1.out HJ.out.below) Hc1.out (Kd.C_below HA2.out HJ.out.below) Hc2.out HPA.out).mono ?_
               rintro e W2 ⟨v2, rfl, hR, hB⟩
               obtain ⟨A28, c28, rfl⟩ := Kd.R_slice hR
               have HJ' := Aside0.mk (HJ.out.call hB)
               have HR26' := Aside0.mk (Kd.R_below HR26.out hB)
               have HR28' := Aside0.mk (Kd.R_lower hR HJ.out.below.size)
               clear hR hB
               refine ⟨_, rfl, ?_⟩
               refine hK.out _ _ ⟨(blk_cell HJ'.out.boxA 0).trans rfl, (blk_cell HJ'.out.boxA 1).trans rfl, (blk_cell HJ'.out.boxA 2).trans rfl, (blk_cell HJ'.out.boxB 0).trans rfl, (blk_cell HJ'.out.boxB 1).trans rfl, (blk_cell HJ'.out.boxB 2).trans rfl⟩ (fun hHeld => ?_)
               clear hK K
               refine norm_ (a' := ?_) ?_ ?_
               rotate_left
               ·show Act.put _ (some 28) _ = _
                simp only [Act.put, List.setIfInBounds_toArray, List.set_cons_zero, List.set_cons_succ, i64_w, i32_w]
                rfl
               exact norm_ (by first | (simp only [putAll, Act.put, List.setIfInBounds_toArray, List.set_cons_zero, List.set_cons_succ]; done) | (simp only [putAll, Act.put, List.setIfInBounds_toArray, List.set_cons_zero, List.set_cons_succ]; rfl)) (hJ0_2 (A26, c26, A28, c28) _ ⟨HJ'.out, HR26'.out, HR28'.out⟩)
              ·skip
               refine value_ (w1 := ?_) (v := ?_) (by rfl) rfl ?_ ?_
               rotate_left 2
               ·go_simp
                constructor
                ·rfl
                ·rfl
               have HN' := Aside0.mk (JN.new HJ.out #[.bool false, .slice none 0 0, .slice none 0 0])
               have HJ' := Aside0.mk (HJ.out.alloc (.cells #[.bool false, .slice none 0 0, .slice none 0 0] 36))
               have HR26' := Aside0.mk (Kd.R_alloc HR26.out (.cells #[.bool false, .slice none 0 0, .slice none 0 0] 36))
               refine hK.out _ _ ⟨(blk_cell HJ'.out.boxA 0).trans rfl, (blk_cell HJ'.out.boxA 1).trans rfl, (blk_cell HJ'.out.boxA 2).trans rfl, (blk_cell HJ'.out.boxB 0).trans rfl, (blk_cell HJ'.out.boxB 1).trans rfl, (blk_cell HJ'.out.boxB 2).trans rfl⟩ (fun hHeld => ?_)
               clear hK K
               refine norm_ (a' := ?_) ?_ ?_
               rotate_left
               ·show Act.put _ (some 5) _ = _
                simp only [Act.put, List.setIfInBounds_toArray, List.set_cons_zero, List.set_cons_succ, i64_w, i32_w]
                rfl
               exact norm_ (by first | (simp only [putAll, Act.put, List.setIfInBounds_toArray, List.set_cons_zero, List.set_cons_succ]; done) | (simp only [putAll, Act.put, List.setIfInBounds_toArray, List.set_cons_zero, List.set_cons_succ]; rfl)) (hJ0_11 (A26, c26, W0.heap.size) _ ⟨HJ'.out, HN'.out, HR26'.out⟩)
            ·skip
             rintro ⟨A28, c28, n5⟩ W2_11 hF
             have HJ : Aside0 (JW w W2_11 #[.bool true, .slice A1 da.length c1, .slice A2 la.length c2] #[.bool hb, .slice B1 db.length d1, .slice B2 lb.length d2]) := ⟨hF.1⟩
             have HN : Aside0 (JN w W2_11 n5 #[.bool false, .slice none 0 0, .slice none 0 0]) := ⟨hF.2.1⟩
             have HR28 : Aside0 (Kd.R (Kd.int .u8) 5 W2_11 w.heap.size (fun _ => True) (.slice A28 xa.length c28) xa) := ⟨hF.2.2⟩
             have hHeld : W2_11.cell? ⟨w.heap.size, 0, none⟩ = some (.bool true) ∧ W2_11.cell? ⟨w.heap.size, 1, none⟩ = some (.slice A1 da.length c1) ∧ W2_11.cell? ⟨w.heap.size, 2, none⟩ = some (.slice A2 la.length c2) ∧ W2_11.cell? ⟨w.heap.size + 1, 0, none⟩ = some (.bool hb) ∧ W2_11.cell? ⟨w.heap.size + 1, 1, none⟩ = some (.slice B1 db.length d1) ∧ W2_11.cell? ⟨w.heap.size + 1, 2, none⟩ = some (.slice B2 lb.length d2) := ⟨(blk_cell HJ.out.boxA 0).trans rfl, (blk_cell HJ.out.boxA 1).trans rfl, (blk_cell HJ.out.boxA 2).trans rfl, (blk_cell HJ.out.boxB 0).trans rfl, (blk_cell HJ.out.boxB 1).trans rfl, (blk_cell HJ.out.boxB 2).trans rfl⟩
             clear hF
             have hq0 := (blk_cell HN.out.blk 0).trans rfl
             have hq1 := (blk_cell HN.out.blk 1).trans rfl
             have hq2 := (blk_cell HN.out.blk 2).trans rfl
             have hqf := blk_frozen HN.out.blk
             refine norm_ (a' := ?_) ?_ ?_
             rotate_left
             ·simp only [putAll, Act.put, List.setIfInBounds_toArray, List.set_cons_zero, List.set_cons_succ]
              rfl
             refine one_ (i := 0) (N := some 26) #[true, true, true, false, true, false, false, false, false, false, false, true, false, false] rfl rfl (by kernel_rfl) (by decide) (fun K hK => ?_)
             refine Kd.R_lit_step (Kd.int .u8) (w0 := w) w.heap.size 5 (by rfl) (N := 26) rfl (xs := ([] : List Int)) (inner := []) (ok := fun _ => True) (okp := fun _ => False) (by first | (go_simp; done) | (go_simp; rfl)) (by constructor <;> simp) (fun _ hk => hk.elim) trivial HJ.out.below HJ.out.below.size (by simp) ?_
             intro v W2 hR hB hG hat
             obtain ⟨A26, c26, e26⟩ := Kd.R_slice hR
             have e27 : v = .slice A26 0 c26 := e26
             subst e27
             have HJ' := Aside0.mk (HJ.out.grow hB hG (fun k_ cs_ hk_ => by simp))
             have HN' := Aside0.mk (HN.out.grow hG (fun k_ cs_ hk_ => by simp))
             have HR28' := Aside0.mk (Kd.R_grown HR28.out hG (fun _ _ => by simp))
             have HR26' := Aside0.mk hR
             clear hR hB hG hat e26
             refine hK.out _ _ ⟨(blk_cell HJ'.out.boxA 0).trans rfl, (blk_cell HJ'.out.boxA 1).trans rfl, (blk_cell HJ'.out.boxA 2).trans rfl, (blk_cell HJ'.out.boxB 0).trans rfl, (blk_cell HJ'.out.boxB 1).trans rfl, (blk_cell HJ'.out.boxB 2).trans rfl⟩ (fun hHeld => ?_)
             clear hK K
             refine norm_ (a' := ?_) ?_ ?_
             rotate_left
             ·show Act.put _ (some 26) _ = _
              simp only [Act.put, List.setIfInBounds_toArray, List.set_cons_zero, List.set_cons_succ, i64_w, i32_w]
              rfl
             exact norm_ (by first | (simp only [putAll, Act.put, List.setIfInBounds_toArray, List.set_cons_zero, List.set_cons_succ]; done) | (simp only [putAll, Act.put, List.setIfInBounds_toArray, List.set_cons_zero, List.set_cons_succ]; rfl)) (hJ0_2_11 (A26, c26, A28, c28, n5) _ ⟨HJ'.out, HN'.out, HR26'.out, HR28'.out⟩)
           ·skip
            rintro ⟨A26, c26, n5⟩ W0_11 hF
            have HJ : Aside0 (JW w W0_11 #[.bool true, .slice A1 da.length c1, .slice A2 la.length c2] #[.bool hb, .slice B1 db.length d1, .slice B2 lb.length d2]) := ⟨hF.1⟩
            have HN : Aside0 (JN w W0_11 n5 #[.bool false, .slice none 0 0, .slice none 0 0]) := ⟨hF.2.1⟩
            have HR26 : Aside0 (Kd.R (Kd.int .u8) 5 W0_11 w.heap.size (fun _ => True) (.slice A26 0 c26) []) := ⟨hF.2.2⟩
            have hHeld : W0_11.cell? ⟨w.heap.size, 0, none⟩ = some (.bool true) ∧ W0_11.cell? ⟨w.heap.size, 1, none⟩ = some (.slice A1 da.length c1) ∧ W0_11.cell? ⟨w.heap.size, 2, none⟩ = some (.slice A2 la.length c2) ∧ W0_11.cell? ⟨w.heap.size + 1, 0, none⟩ = some (.bool hb) ∧ W0_11.cell? ⟨w.heap.size + 1, 1, none⟩ = some (.slice B1 db.length d1) ∧ W0_11.cell? ⟨w.heap.size + 1, 2, none⟩ = some (.slice B2 lb.length d2) := ⟨(blk_cell HJ.out.boxA 0).trans rfl, (blk_cell HJ.out.boxA 1).trans rfl, (blk_cell HJ.out.boxA 2).trans rfl, (blk_cell HJ.out.boxB 0).trans rfl, (blk_cell HJ.out.boxB 1).trans rfl, (blk_cell HJ.out.boxB 2).trans rfl⟩
            clear hF
            have hq0 := (blk_cell HN.out.blk 0).trans rfl
            have hq1 := (blk_cell HN.out.blk 1).trans rfl
            have hq2 := (blk_cell HN.out.blk 2).trans rfl
            have hqf := blk_frozen HN.out.blk
            refine norm_ (a' := ?_) ?_ ?_
            rotate_left
            ·simp only [putAll, Act.put, List.setIfInBounds_toArray, List.set_cons_zero, List.set_cons_succ]
             rfl
            refine one_ (i := 2) (N := some 28) #[true, true, true, false, true, false, false, false, false, false, false, true, false, false] rfl rfl (by kernel_rfl) (by decide) (fun K hK => ?_)
            refine goes_ Tryd.func23 (by kernel_rfl) rfl #[.agg #[.bool true, .slice A1 da.length c1, .slice A2 la.length c2]] (by rfl) rfl rfl (by simp only [List.map_toArray, List.map_cons, List.map_nil]; rfl) ?_
            with_reducible refine (spec_PbBytes.calls 40 true A1 c1 da A2 c2 la _ _ (Kd.C_below HA1.out HJ.out.below) Hc1.out (Kd.C_below HA2.out HJ.out.below) Hc2.out HPA.out).mono ?_
            rintro e W2 ⟨v2, rfl, hR, hB⟩
            obtain ⟨A28, c28, rfl⟩ := Kd.R_slice hR
            have HJ' := Aside0.mk (HJ.out.call hB)
            have HN' := Aside0.mk (HN.out.call hB)
            have HR26' := Aside0.mk (Kd.R_below HR26.out hB)
            have HR28' := Aside0.mk (Kd.R_lower hR HJ.out.below.size)
            clear hR hB
            refine ⟨_, rfl, ?_⟩
            refine hK.out _ _ ⟨(blk_cell HJ'.out.boxA 0).trans rfl, (blk_cell HJ'.out.boxA 1).trans rfl, (blk_cell HJ'.out.boxA 2).trans rfl, (blk_cell HJ'.out.boxB 0).trans rfl, (blk_cell HJ'.out.boxB 1).trans rfl, (blk_cell HJ'.out.boxB 2).trans rfl⟩ (fun hHeld => ?_)
            clear hK K
            refine norm_ (a' := ?_) ?_ ?_
            rotate_left
            ·show Act.put _ (some 28) _ = _
             simp only [Act.put, List.setIfInBounds_toArray, List.set_cons_zero, List.set_cons_succ, i64_w, i32_w]
             rfl
            exact norm_ (by first | (simp only [putAll, Act.put, List.setIfInBounds_toArray, List.set_cons_zero, List.set_cons_succ]; done) | (simp only [putAll, Act.put, List.setIfInBounds_toArray, List.set_cons_zero, List.set_cons_succ]; rfl)) (hJ0_2_11 (A26, c26, A28, c28, n5) _ ⟨HJ'.out, HN'.out, HR26'.out, HR28'.out⟩)
          ·skip
           rintro ⟨A26, c26, A28, c28⟩ W0_2 hF
           have HJ : Aside0 (JW w W0_2 #[.bool true, .slice A1 da.length c1, .slice A2 la.length c2] #[.bool hb, .slice B1 db.length d1, .slice B2 lb.length d2]) := ⟨hF.1⟩
           have HR26 : Aside0 (Kd.R (Kd.int .u8) 5 W0_2 w.heap.size (fun _ => True) (.slice A26 0 c26) []) := ⟨hF.2.1⟩
           have HR28 : Aside0 (Kd.R (Kd.int .u8) 5 W0_2 w.heap.size (fun _ => True) (.slice A28 xa.length c28) xa) := ⟨hF.2.2⟩
           have hHeld : W0_2.cell? ⟨w.heap.size, 0, none⟩ = some (.bool true) ∧ W0_2.cell? ⟨w.heap.size, 1, none⟩ = some (.slice A1 da.length c1) ∧ W0_2.cell? ⟨w.heap.size, 2, none⟩ = some (.slice A2 la.length c2) ∧ W0_2.cell? ⟨w.heap.size + 1, 0, none⟩ = some (.bool hb) ∧ W0_2.cell? ⟨w.heap.size + 1, 1, none⟩ = some (.slice B1 db.length d1) ∧ W0_2.cell? ⟨w.heap.size + 1, 2, none⟩ = some (.slice B2 lb.length d2) := ⟨(blk_cell HJ.out.boxA 0).trans rfl, (blk_cell HJ.out.boxA 1).trans rfl, (blk_cell HJ.out.boxA 2).trans rfl, (blk_cell HJ.out.boxB 0).trans rfl, (blk_cell HJ.out.boxB 1).trans rfl, (blk_cell HJ.out.boxB 2).trans rfl⟩
           clear hF
           refine norm_ (a' := ?_) ?_ ?_
           rotate_left
           ·simp only [putAll, Act.put, List.setIfInBounds_toArray, List.set_cons_zero, List.set_cons_succ]
            rfl
           refine two_ (i := 3) (j := 11) (Ni := some 29) (Nj := some 5) #[true, true, true, true, true, false, false, false, false, false, false, false, false, false] #[true, true, true, false, true, false, false, false, false, false, false, true, false, false] rfl rfl rfl rfl (by kernel_rfl) (by decide) (by decide) (fun K hK => ?_) (fun K hK => ?_)
           ·skip
            refine Kd.R_append_rows_step (Kd.int .u8) (Rr := fun x cs => cs = [Value.int .u8 x]) (w0 := w) w.heap.size (by rfl) (.tmp 26) (.tmp 28) 22 5 (.int .u8 0) 1 rfl Tryd.underlying22 info5j rfl (by decide) (by decide) (.slice A26 0 c26) [] xa A28 xa.length c28 (fun _ => True) (fun _ => False) rfl rfl HR26.out (Kd.R_reads' HR28.out).2.2 (fun x cs hx => hx) (fun _ hk => hk.elim) (fun _ _ => trivial) HJ.out.below HJ.out.below.size (by have h1 := HLA.out; have h2 := HLB.out; (try simp only [List.length_nil]); omega) ?_
            intro v W2 hR hB hG hat
            rw [List.nil_append] at hR
            obtain ⟨A29, c29, rfl⟩ := Kd.R_slice hR
            have HJ' := Aside0.mk (HJ.out.grow hB hG (fun k_ cs_ hk_ => Kd.R_ne HR26.out hk_ (by decide)))
            have HR29' := Aside0.mk hR
            clear hR hB hG hat
            refine hK.out _ _ ⟨(blk_cell HJ'.out.boxA 0).trans rfl, (blk_cell HJ'.out.boxA 1).trans rfl, (blk_cell HJ'.out.boxA 2).trans rfl, (blk_cell HJ'.out.boxB 0).trans rfl, (blk_cell HJ'.out.boxB 1).trans rfl, (blk_cell HJ'.out.boxB 2).trans rfl⟩ (fun hHeld => ?_)
            clear hK K
            refine norm_ (a' := ?_) ?_ ?_
            rotate_left
            ·show Act.put _ (some 29) _ = _
             simp only [Act.put, List.setIfInBounds_toArray, List.set_cons_zero, List.set_cons_succ, i64_w, i32_w]
             rfl
            exact norm_ (by first | (simp only [putAll, Act.put, List.setIfInBounds_toArray, List.set_cons_zero, List.set_cons_succ]; done) | (simp only [putAll, Act.put, List.setIfInBounds_toArray, List.set_cons_zero, List.set_cons_succ]; rfl)) (hJ0_2_3 (A26, c26, A28, c28, A29, c29) _ ⟨HJ'.out, HR29'.out⟩)
           ·skip
            refine value_ (w1 := ?_) (v := ?_) (by rfl) rfl ?_ ?_
            rotate_left 2
            ·go_simp
             constructor
             ·rfl
             ·rfl
            have HN' := Aside0.mk (JN.new HJ.out #[.bool false, .slice none 0 0, .slice none 0 0])
            have HJ' := Aside0.mk (HJ.out.alloc (.cells #[.bool false, .slice none 0 0, .slice none 0 0] 36))
            have HR26' := Aside0.mk (Kd.R_alloc HR26.out (.cells #[.bool false, .slice none 0 0, .slice none 0 0] 36))
            have HR28' := Aside0.mk (Kd.R_alloc HR28.out (.cells #[.bool false, .slice none 0 0, .slice none 0 0] 36))
            refine hK.out _ _ ⟨(blk_cell HJ'.out.boxA 0).trans rfl, (blk_cell HJ'.out.boxA 1).trans rfl, (blk_cell HJ'.out.boxA 2).trans rfl, (blk_cell HJ'.out.boxB 0).trans rfl, (blk_cell HJ'.out.boxB 1).trans rfl, (blk_cell HJ'.out.boxB 2).trans rfl⟩ (fun hHeld => ?_)
            clear hK K
            refine norm_ (a' := ?_) ?_ ?_
            rotate_left
            ·show Act.put _ (some 5) _ = _
             simp only [Act.put, List.setIfInBounds_toArray, List.set_cons_zero, List.set_cons_succ, i64_w, i32_w]
             rfl
            exact norm_ (by first | (simp only [putAll, Act.put, List.setIfInBounds_toArray, List.set_cons_zero, List.set_cons_succ]; done) | (simp only [putAll, Act.put, List.setIfInBounds_toArray, List.set_cons_zero, List.set_cons_succ]; rfl)) (hJ0_2_11 (A26, c26, A28, c28, W0_2.heap.size) _ ⟨HJ'.out, HN'.out, HR26'.out, HR28'.out⟩)
         ·skip
          rintro ⟨A26, c26, A28, c28, n5⟩ W0_2_11 hF
          have HJ : Aside0 (JW w W0_2_11 #[.bool true, .slice A1 da.length c1, .slice A2 la.length c2] #[.bool hb, .slice B1 db.length d1, .slice B2 lb.length d2]) := ⟨hF.1⟩
          have HN : Aside0 (JN w W0_2_11 n5 #[.bool false, .slice none 0 0, .slice none 0 0]) := ⟨hF.2.1⟩
          have HR26 : Aside0 (Kd.R (Kd.int .u8) 5 W0_2_11 w.heap.size (fun _ => True) (.slice A26 0 c26) []) := ⟨hF.2.2.1⟩
          have HR28 : Aside0 (Kd.R (Kd.int .u8) 5 W0_2_11 w.heap.size (fun _ => True) (.slice A28 xa.length c28) xa) := ⟨hF.2.2.2⟩
          have hHeld : W0_2_11.cell? ⟨w.heap.size, 0, none⟩ = some (.bool true) ∧ W0_2_11.cell? ⟨w.heap.size, 1, none⟩ = some (.slice A1 da.length c1) ∧ W0_2_11.cell? ⟨w.heap.size, 2, none⟩ = some (.slice A2 la.length c2) ∧ W0_2_11.cell? ⟨w.heap.size + 1, 0, none⟩ = some (.bool hb) ∧ W0_2_11.cell? ⟨w.heap.size + 1, 1, none⟩ = some (.slice B1 db.length d1) ∧ W0_2_11.cell? ⟨w.heap.size + 1, 2, none⟩ = some (.slice B2 lb.length d2) := ⟨(blk_cell HJ.out.boxA 0).trans rfl, (blk_cell HJ.out.boxA 1).trans rfl, (blk_cell HJ.out.boxA 2).trans rfl, (blk_cell HJ.out.boxB 0).trans rfl, (blk_cell HJ.out.boxB 1).trans rfl, (blk_cell HJ.out.boxB 2).trans rfl⟩
          clear hF
          have hq0 := (blk_cell HN.out.blk 0).trans rfl
          have hq1 := (blk_cell HN.out.blk 1).trans rfl
          have hq2 := (blk_cell HN.out.blk 2).trans rfl
          have hqf := blk_frozen HN.out.blk
          refine norm_ (a' := ?_) ?_ ?_
          rotate_left
          ·simp only [putAll, Act.put, List.setIfInBounds_toArray, List.set_cons_zero, List.set_cons_succ]
           rfl
          refine one_ (i := 3) (N := some 29) #[true, true, true, true, true, false, false, false, false, false, false, true, false, false] rfl rfl (by kernel_rfl) (by decide) (fun K hK => ?_)
          refine Kd.R_append_rows_step (Kd.int .u8) (Rr := fun x cs => cs = [Value.int .u8 x]) (w0 := w) w.heap.size (by rfl) (.tmp 26) (.tmp 28) 22 5 (.int .u8 0) 1 rfl Tryd.underlying22 info5j rfl (by decide) (by decide) (.slice A26 0 c26) [] xa A28 xa.length c28 (fun _ => True) (fun _ => False) rfl rfl HR26.out (Kd.R_reads' HR28.out).2.2 (fun x cs hx => hx) (fun _ hk => hk.elim) (fun _ _ => trivial) HJ.out.below HJ.out.below.size (by have h1 := HLA.out; have h2 := HLB.out; (try simp only [List.length_nil]); omega) ?_
          intro v W2 hR hB hG hat
          rw [List.nil_append] at hR
          obtain ⟨A29, c29, rfl⟩ := Kd.R_slice hR
          have HJ' := Aside0.mk (HJ.out.grow hB hG (fun k_ cs_ hk_ => Kd.R_ne HR26.out hk_ (by decide)))
          have HN' := Aside0.mk (HN.out.grow hG (fun k_ cs_ hk_ => Kd.R_ne HR26.out hk_ (by decide)))
          have HR29' := Aside0.mk hR
          clear hR hB hG hat
          refine hK.out _ _ ⟨(blk_cell HJ'.out.boxA 0).trans rfl, (blk_cell HJ'.out.boxA 1).trans rfl, (blk_cell HJ'.out.boxA 2).trans rfl, (blk_cell HJ'.out.boxB 0).trans rfl, (blk_cell HJ'.out.boxB 1).trans rfl, (blk_cell HJ'.out.boxB 2).trans rfl⟩ (fun hHeld => ?_)
          clear hK K
          refine norm_ (a' := ?_) ?_ ?_
          rotate_left
          ·show Act.put _ (some 29) _ = _
           simp only [Act.put, List.setIfInBounds_toArray, List.set_cons_zero, List.set_cons_succ, i64_w, i32_w]
           rfl
          exact norm_ (by first | (simp only [putAll, Act.put, List.setIfInBounds_toArray, List.set_cons_zero, List.set_cons_succ]; done) | (simp only [putAll, Act.put, List.setIfInBounds_toArray, List.set_cons_zero, List.set_cons_succ]; rfl)) (hJ0_2_3_11 (A26, c26, A28, c28, A29, c29, n5) _ ⟨HJ'.out, HN'.out, HR29'.out⟩)
        ·skip
         rintro ⟨A26, c26, A28, c28, A29, c29⟩ W0_2_3 hF
         have HJ : Aside0 (JW w W0_2_3 #[.bool true, .slice A1 da.length c1, .slice A2 la.length c2] #[.bool hb, .slice B1 db.length d1, .slice B2 lb.length d2]) := ⟨hF.1⟩
         have HR29 : Aside0 (Kd.R (Kd.int .u8) 5 W0_2_3 w.heap.size (fun _ => True) (.slice A29 xa.length c29) xa) := ⟨hF.2⟩
         have hHeld : W0_2_3.cell? ⟨w.heap.size, 0, none⟩ = some (.bool true) ∧ W0_2_3.cell? ⟨w.heap.size, 1, none⟩ = some (.slice A1 da.length c1) ∧ W0_2_3.cell? ⟨w.heap.size, 2, none⟩ = some (.slice A2 la.length c2) ∧ W0_2_3.cell? ⟨w.heap.size + 1, 0, none⟩ = some (.bool hb) ∧ W0_2_3.cell? ⟨w.heap.size + 1, 1, none⟩ = some (.slice B1 db.length d1) ∧ W0_2_3.cell? ⟨w.heap.size + 1, 2, none⟩ = some (.slice B2 lb.length d2) := ⟨(blk_cell HJ.out.boxA 0).trans rfl, (blk_cell HJ.out.boxA 1).trans rfl, (blk_cell HJ.out.boxA 2).trans rfl, (blk_cell HJ.out.boxB 0).trans rfl, (blk_cell HJ.out.boxB 1).trans rfl, (blk_cell HJ.out.boxB 2).trans rfl⟩
         clear hF
         refine norm_ (a' := ?_) ?_ ?_
         rotate_left
         ·simp only [putAll, Act.put, List.setIfInBounds_toArray, List.set_cons_zero, List.set_cons_succ]
          rfl
         refine two_ (i := 5) (j := 11) (Ni := some 31) (Nj := some 5) #[true, true, true, true, true, true, false, false, false, false, false, false, false, false] #[true, true, true, true, true, false, false, false, false, false, false, true, false, false] rfl rfl rfl rfl (by kernel_rfl) (by decide) (by decide) (fun K hK => ?_) (fun K hK => ?_)
         ·skip
          refine goes_ Tryd.func23 (by kernel_rfl) rfl #[.agg #[.bool hb, .slice B1 db.length d1, .slice B2 lb.length d2]] (by rfl) rfl rfl (by simp only [List.map_toArray, List.map_cons, List.map_nil]; rfl) ?_
          with_reducible refine (spec_PbBytes.calls 40 hb B1 d1 db B2 d2 lb _ _ (Kd.C_below HB1.out HJ.out.below) Hd1.out (Kd.C_below HB2.out HJ.out.below) Hd2.out HPB.out).mono ?_
          rintro e W2 ⟨v2, rfl, hR, hB⟩
          obtain ⟨A31, c31, rfl⟩ := Kd.R_slice hR
          have HJ' := Aside0.mk (HJ.out.call hB)
          have HR29' := Aside0.mk (Kd.R_below HR29.out hB)
          have HR31' := Aside0.mk (Kd.R_lower hR HJ.out.below.size)
          clear hR hB
          refine ⟨_, rfl, ?_⟩
          refine hK.out _ _ ⟨(blk_cell HJ'.out.boxA 0).trans rfl, (blk_cell HJ'.out.boxA 1).trans rfl, (blk_cell HJ'.out.boxA 2).trans rfl, (blk_cell HJ'.out.boxB 0).trans rfl, (blk_cell HJ'.out.boxB 1).trans rfl, (blk_cell HJ'.out.boxB 2).trans rfl⟩ (fun hHeld => ?_)
          clear hK K
          refine norm_ (a' := ?_) ?_ ?_
          rotate_left
          ·show Act.put _ (some 31) _ = _
           simp only [Act.put, List.setIfInBounds_toArray, List.set_cons_zero, List.set_cons_succ, i64_w, i32_w]
           rfl
          exact norm_ (by first | (simp only [putAll, Act.put, List.setIfInBounds_toArray, List.set_cons_zero, List.set_cons_succ]; done) | (simp only [putAll, Act.put, List.setIfInBounds_toArray, List.set_cons_zero, List.set_cons_succ]; rfl)) (hJ0_2_3_5 (A26, c26, A28, c28, A29, c29, A31, c31) _ ⟨HJ'.out, HR29'.out, HR31'.out⟩)
         ·skip
          refine value_ (w1 := ?_) (v := ?_) (by rfl) rfl ?_ ?_
          rotate_left 2
          ·go_simp
           constructor
           ·rfl
           ·rfl
          have HN' := Aside0.mk (JN.new HJ.out #[.bool false, .slice none 0 0, .slice none 0 0])
          have HJ' := Aside0.mk (HJ.out.alloc (.cells #[.bool false, .slice none 0 0, .slice none 0 0] 36))
          have HR29' := Aside0.mk (Kd.R_alloc HR29.out (.cells #[.bool false, .slice none 0 0, .slice none 0 0] 36))
          refine hK.out _ _ ⟨(blk_cell HJ'.out.boxA 0).trans rfl, (blk_cell HJ'.out.boxA 1).trans rfl, (blk_cell HJ'.out.boxA 2).trans rfl, (blk_cell HJ'.out.boxB 0).trans rfl, (blk_cell HJ'.out.boxB 1).trans rfl, (blk_cell HJ'.out.boxB 2).trans rfl⟩ (fun hHeld => ?_)
          clear hK K
          refine norm_ (a' := ?_) ?_ ?_
          rotate_left
          ·show Act.put _ (some 5) _ = _
           simp only [Act.put, List.setIfInBounds_toArray, List.set_cons_zero, List.set_cons_succ, i64_w, i32_w]
           rfl
          exact norm_ (by first | (simp only [putAll, Act.put, List.setIfInBounds_toArray, List.set_cons_zero, List.set_cons_succ]; done) | (simp only [putAll, Act.put, List.setIfInBounds_toArray, List.set_cons_zero, List.set_cons_succ]; rfl)) (hJ0_2_3_11 (A26, c26, A28, c28, A29, c29, W0_2_3.heap.size) _ ⟨HJ'.out, HN'.out, HR29'.out⟩)
       ·skip
        rintro ⟨A26, c26, A28, c28, A29, c29, n5⟩ W0_2_3_11 hF
        have HJ : Aside0 (JW w W0_2_3_11 #[.bool true, .slice A1 da.length c1, .slice A2 la.length c2] #[.bool hb, .slice B1 db.length d1, .slice B2 lb.length d2]) := ⟨hF.1⟩
        have HN : Aside0 (JN w W0_2_3_11 n5 #[.bool false, .slice none 0 0, .slice none 0 0]) := ⟨hF.2.1⟩
        have HR29 : Aside0 (Kd.R (Kd.int .u8) 5 W0_2_3_11 w.heap.size (fun _ => True) (.slice A29 xa.length c29) xa) := ⟨hF.2.2⟩
        have hHeld : W0_2_3_11.cell? ⟨w.heap.size, 0, none⟩ = some (.bool true) ∧ W0_2_3_11.cell? ⟨w.heap.size, 1, none⟩ = some (.slice A1 da.length c1) ∧ W0_2_3_11.cell? ⟨w.heap.size, 2, none⟩ = some (.slice A2 la.length c2) ∧ W0_2_3_11.cell? ⟨w.heap.size + 1, 0, none⟩ = some (.bool hb) ∧ W0_2_3_11.cell? ⟨w.heap.size + 1, 1, none⟩ = some (.slice B1 db.length d1) ∧ W0_2_3_11.cell? ⟨w.heap.size + 1, 2, none⟩ = some (.slice B2 lb.length d2) := ⟨(blk_cell HJ.out.boxA 0).trans rfl, (blk_cell HJ.out.boxA 1).trans rfl, (blk_cell HJ.out.boxA 2).trans rfl, (blk_cell HJ.out.boxB 0).trans rfl, (blk_cell HJ.out.boxB 1).trans rfl, (blk_cell HJ.out.boxB 2).trans rfl⟩
        clear hF
        have hq0 := (blk_cell HN.out.blk 0).trans rfl
        have hq1 := (blk_cell HN.out.blk 1).trans rfl
        have hq2 := (blk_cell HN.out.blk 2).trans rfl
        have hqf := blk_frozen HN.out.blk
        refine norm_ (a' := ?_) ?_ ?_
        rotate_left
        ·simp only [putAll, Act.put, List.setIfInBounds_toArray, List.set_cons_zero, List.set_cons_succ]
         rfl
        refine one_ (i := 5) (N := some 31) #[true, true, true, true, true, true, false, false, false, false, false, true, false, false] rfl rfl (by kernel_rfl) (by decide) (fun K hK => ?_)
        refine goes_ Tryd.func23 (by kernel_rfl) rfl #[.agg #[.bool hb, .slice B1 db.length d1, .slice B2 lb.length d2]] (by rfl) rfl rfl (by simp only [List.map_toArray, List.map_cons, List.map_nil]; rfl) ?_
        with_reducible refine (spec_PbBytes.calls 40 hb B1 d1 db B2 d2 lb _ _ (Kd.C_below HB1.out HJ.out.below) Hd1.out (Kd.C_below HB2.out HJ.out.below) Hd2.out HPB.out).mono ?_
        rintro e W2 ⟨v2, rfl, hR, hB⟩
        obtain ⟨A31, c31, rfl⟩ := Kd.R_slice hR
        have HJ' := Aside0.mk (HJ.out.call hB)
        have HN' := Aside0.mk (HN.out.call hB)
        have HR29' := Aside0.mk (Kd.R_below HR29.out hB)
        have HR31' := Aside0.mk (Kd.R_lower hR HJ.out.below.size)
        clear hR hB
        refine ⟨_, rfl, ?_⟩
        refine hK.out _ _ ⟨(blk_cell HJ'.out.boxA 0).trans rfl, (blk_cell HJ'.out.boxA 1).trans rfl, (blk_cell HJ'.out.boxA 2).trans rfl, (blk_cell HJ'.out.boxB 0).trans rfl, (blk_cell HJ'.out.boxB 1).trans rfl, (blk_cell HJ'.out.boxB 2).trans rfl⟩ (fun hHeld => ?_)
        clear hK K
        refine norm_ (a' := ?_) ?_ ?_
        rotate_left
        ·show Act.put _ (some 31) _ = _
         simp only [Act.put, List.setIfInBounds_toArray, List.set_cons_zero, List.set_cons_succ, i64_w, i32_w]
         rfl
        exact norm_ (by first | (simp only [putAll, Act.put, List.setIfInBounds_toArray, List.set_cons_zero, List.set_cons_succ]; done) | (simp only [putAll, Act.put, List.setIfInBounds_toArray, List.set_cons_zero, List.set_cons_succ]; rfl)) (hJ0_2_3_5_11 (A26, c26, A28, c28, A29, c29, A31, c31, n5) _ ⟨HJ'.out, HN'.out, HR29'.out, HR31'.out⟩)
      ·skip
       rintro ⟨A26, c26, A28, c28, A29, c29, A31, c31⟩ W0_2_3_5 hF
       have HJ : Aside0 (JW w W0_2_3_5 #[.bool true, .slice A1 da.length c1, .slice A2 la.length c2] #[.bool hb, .slice B1 db.length d1, .slice B2 lb.length d2]) := ⟨hF.1⟩
       have HR29 : Aside0 (Kd.R (Kd.int .u8) 5 W0_2_3_5 w.heap.size (fun _ => True) (.slice A29 xa.length c29) xa) := ⟨hF.2.1⟩
       have HR31 : Aside0 (Kd.R (Kd.int .u8) 5 W0_2_3_5 w.heap.size (fun _ => True) (.slice A31 xb.length c31) xb) := ⟨hF.2.2⟩
       have hHeld : W0_2_3_5.cell? ⟨w.heap.size, 0, none⟩ = some (.bool true) ∧ W0_2_3_5.cell? ⟨w.heap.size, 1, none⟩ = some (.slice A1 da.length c1) ∧ W0_2_3_5.cell? ⟨w.heap.size, 2, none⟩ = some (.slice A2 la.length c2) ∧ W0_2_3_5.cell? ⟨w.heap.size + 1, 0, none⟩ = some (.bool hb) ∧ W0_2_3_5.cell? ⟨w.heap.size + 1, 1, none⟩ = some (.slice B1 db.length d1) ∧ W0_2_3_5.cell? ⟨w.heap.size + 1, 2, none⟩ = some (.slice B2 lb.length d2) := ⟨(blk_cell HJ.out.boxA 0).trans rfl, (blk_cell HJ.out.boxA 1).trans rfl, (blk_cell HJ.out.boxA 2).trans rfl, (blk_cell HJ.out.boxB 0).trans rfl, (blk_cell HJ.out.boxB 1).trans rfl, (blk_cell HJ.out.boxB 2).trans rfl⟩
       clear hF
       refine norm_ (a' := ?_) ?_ ?_
       rotate_left
       ·simp only [putAll, Act.put, List.setIfInBounds_toArray, List.set_cons_zero, List.set_cons_succ]
        rfl
       refine two_ (i := 6) (j := 11) (Ni := some 32) (Nj := some 5) #[true, true, true, true, true, true, true, false, false, false, false, false, false, false] #[true, true, true, true, true, true, false, false, false, false, false, true, false, false] rfl rfl rfl rfl (by kernel_rfl) (by decide) (by decide) (fun K hK => ?_) (fun K hK => ?_)
       ·skip
        refine Kd.R_append_rows_step (Kd.int .u8) (Rr := fun x cs => cs = [Value.int .u8 x]) (w0 := w) w.heap.size (by rfl) (.tmp 29) (.tmp 31) 22 5 (.int .u8 0) 1 rfl Tryd.underlying22 info5j rfl (by decide) (by decide) (.slice A29 xa.length c29) xa xb A31 xb.length c31 (fun _ => True) (fun _ => False) rfl rfl HR29.out (Kd.R_reads' HR31.out).2.2 (fun x cs hx => hx) (fun _ hk => hk.elim) (fun _ _ => trivial) HJ.out.below HJ.out.below.size (by have h1 := HLA.out; have h2 := HLB.out; (try simp only [List.length_nil]); omega) ?_
        intro v W2 hR hB hG hat
        rw [← HXT.out] at hR
        obtain ⟨A32, c32, rfl⟩ := Kd.R_slice hR
        have HJ' := Aside0.mk (HJ.out.grow hB hG (fun k_ cs_ hk_ => Kd.R_ne HR29.out hk_ (by decide)))
        have HR32' := Aside0.mk hR
        clear hR hB hG hat
        refine hK.out _ _ ⟨(blk_cell HJ'.out.boxA 0).trans rfl, (blk_cell HJ'.out.boxA 1).trans rfl, (blk_cell HJ'.out.boxA 2).trans rfl, (blk_cell HJ'.out.boxB 0).trans rfl, (blk_cell HJ'.out.boxB 1).trans rfl, (blk_cell HJ'.out.boxB 2).trans rfl⟩ (fun hHeld => ?_)
        clear hK K
        refine norm_ (a' := ?_) ?_ ?_
        rotate_left
        ·show Act.put _ (some 32) _ = _
         simp only [Act.put, List.setIfInBounds_toArray, List.set_cons_zero, List.set_cons_succ, i64_w, i32_w]
         rfl
        exact norm_ (by first | (simp only [putAll, Act.put, List.setIfInBounds_toArray, List.set_cons_zero, List.set_cons_succ]; done) | (simp only [putAll, Act.put, List.setIfInBounds_toArray, List.set_cons_zero, List.set_cons_succ]; rfl)) (hJ0_2_3_5_6 (A26, c26, A28, c28, A29, c29, A31, c31, A32, c32) _ ⟨HJ'.out, HR32'.out⟩)
       ·skip
        refine value_ (w1 := ?_) (v := ?_) (by rfl) rfl ?_ ?_
        rotate_left 2
        ·go_simp
         constructor
         ·rfl
         ·rfl
        have HN' := Aside0.mk (JN.new HJ.out #[.bool false, .slice none 0 0, .slice none 0 0])
        have HJ' := Aside0.mk (HJ.out.alloc (.cells #[.bool false, .slice none 0 0, .slice none 0 0] 36))
        have HR29' := Aside0.mk (Kd.R_alloc HR29.out (.cells #[.bool false, .slice none 0 0, .slice none 0 0] 36))
        have HR31' := Aside0.mk (Kd.R_alloc HR31.out (.cells #[.bool false, .slice none 0 0, .slice none 0 0] 36))
        refine hK.out _ _ ⟨(blk_cell HJ'.out.boxA 0).trans rfl, (blk_cell HJ'.out.boxA 1).trans rfl, (blk_cell HJ'.out.boxA 2).trans rfl, (blk_cell HJ'.out.boxB 0).trans rfl, (blk_cell HJ'.out.boxB 1).trans rfl, (blk_cell HJ'.out.boxB 2).trans rfl⟩ (fun hHeld => ?_)
        clear hK K
        refine norm_ (a' := ?_) ?_ ?_
        rotate_left
        ·show Act.put _ (some 5) _ = _
         simp only [Act.put, List.setIfInBounds_toArray, List.set_cons_zero, List.set_cons_succ, i64_w, i32_w]
         rfl
        exact norm_ (by first | (simp only [putAll, Act.put, List.setIfInBounds_toArray, List.set_cons_zero, List.set_cons_succ]; done) | (simp only [putAll, Act.put, List.setIfInBounds_toArray, List.set_cons_zero, List.set_cons_succ]; rfl)) (hJ0_2_3_5_11 (A26, c26, A28, c28, A29, c29, A31, c31, W0_2_3_5.heap.size) _ ⟨HJ'.out, HN'.out, HR29'.out, HR31'.out⟩)
     ·skip
      rintro ⟨A26, c26, A28, c28, A29, c29, A31, c31, n5⟩ W0_2_3_5_11 hF
      have HJ : Aside0 (JW w W0_2_3_5_11 #[.bool true, .slice A1 da.length c1, .slice A2 la.length c2] #[.bool hb, .slice B1 db.length d1, .slice B2 lb.length d2]) := ⟨hF.1⟩
      have HN : Aside0 (JN w W0_2_3_5_11 n5 #[.bool false, .slice none 0 0, .slice none 0 0]) := ⟨hF.2.1⟩
      have HR29 : Aside0 (Kd.R (Kd.int .u8) 5 W0_2_3_5_11 w.heap.size (fun _ => True) (.slice A29 xa.length c29) xa) := ⟨hF.2.2.1⟩
      have HR31 : Aside0 (Kd.R (Kd.int .u8) 5 W0_2_3_5_11 w.heap.size (fun _ => True) (.slice A31 xb.length c31) xb) := ⟨hF.2.2.2⟩
      have hHeld : W0_2_3_5_11.cell? ⟨w.heap.size, 0, none⟩ = some (.bool true) ∧ W0_2_3_5_11.cell? ⟨w.heap.size, 1, none⟩ = some (.slice A1 da.length c1) ∧ W0_2_3_5_11.cell? ⟨w.heap.size, 2, none⟩ = some (.slice A2 la.length c2) ∧ W0_2_3_5_11.cell? ⟨w.heap.size + 1, 0, none⟩ = some (.bool hb) ∧ W0_2_3_5_11.cell? ⟨w.heap.size + 1, 1, none⟩ = some (.slice B1 db.length d1) ∧ W0_2_3_5_11.cell? ⟨w.heap.size + 1, 2, none⟩ = some (.slice B2 lb.length d2) := ⟨(blk_cell HJ.out.boxA 0).trans rfl, (blk_cell HJ.out.boxA 1).trans rfl, (blk_cell HJ.out.boxA 2).trans rfl, (blk_cell HJ.out.boxB 0).trans rfl, (blk_cell HJ.out.boxB 1).trans rfl, (blk_cell HJ.out.boxB 2).trans rfl⟩
      clear hF
      have hq0 := (blk_cell HN.out.blk 0).trans rfl
      have hq1 := (blk_cell HN.out.blk 1).trans rfl
      have hq2 := (blk_cell HN.out.blk 2).trans rfl
      have hqf := blk_frozen HN.out.blk
      refine norm_ (a' := ?_) ?_ ?_
      rotate_left
      ·simp only [putAll, Act.put, List.setIfInBounds_toArray, List.set_cons_zero, List.set_cons_succ]
       rfl
      refine one_ (i := 6) (N := some 32) #[true, true, true, true, true, true, true, false, false, false, false, true, false, false] rfl rfl (by kernel_rfl) (by decide) (fun K hK => ?_)
      refine Kd.R_append_rows_step (Kd.int .u8) (Rr := fun x cs => cs = [Value.int .u8 x]) (w0 := w) w.heap.size (by rfl) (.tmp 29) (.tmp 31) 22 5 (.int .u8 0) 1 rfl Tryd.underlying22 info5j rfl (by decide) (by decide) (.slice A29 xa.length c29) xa xb A31 xb.length c31 (fun _ => True) (fun _ => False) rfl rfl HR29.out (Kd.R_reads' HR31.out).2.2 (fun x cs hx => hx) (fun _ hk => hk.elim) (fun _ _ => trivial) HJ.out.below HJ.out.below.size (by have h1 := HLA.out; have h2 := HLB.out; (try simp only [List.length_nil]); omega) ?_
      intro v W2 hR hB hG hat
      rw [← HXT.out] at hR
      obtain ⟨A32, c32, rfl⟩ := Kd.R_slice hR
      have HJ' := Aside0.mk (HJ.out.grow hB hG (fun k_ cs_ hk_ => Kd.R_ne HR29.out hk_ (by decide)))
      have HN' := Aside0.mk (HN.out.grow hG (fun k_ cs_ hk_ => Kd.R_ne HR29.out hk_ (by decide)))
      have HR32' := Aside0.mk hR
      clear hR hB hG hat
      refine hK.out _ _ ⟨(blk_cell HJ'.out.boxA 0).trans rfl, (blk_cell HJ'.out.boxA 1).trans rfl, (blk_cell HJ'.out.boxA 2).trans rfl, (blk_cell HJ'.out.boxB 0).trans rfl, (blk_cell HJ'.out.boxB 1).trans rfl, (blk_cell HJ'.out.boxB 2).trans rfl⟩ (fun hHeld => ?_)
      clear hK K
      refine norm_ (a' := ?_) ?_ ?_
      rotate_left
      ·show Act.put _ (some 32) _ = _
       simp only [Act.put, List.setIfInBounds_toArray, List.set_cons_zero, List.set_cons_succ, i64_w, i32_w]
       rfl
      exact norm_ (by first | (simp only [putAll, Act.put, List.setIfInBounds_toArray, List.set_cons_zero, List.set_cons_succ]; done) | (simp only [putAll, Act.put, List.setIfInBounds_toArray, List.set_cons_zero, List.set_cons_succ]; rfl)) (hJ0_2_3_5_6_11 (A26, c26, A28, c28, A29, c29, A31, c31, A32, c32, n5) _ ⟨HJ'.out, HN'.out, HR32'.out⟩)
    ·skip
     rintro ⟨A26, c26, A28, c28, A29, c29, A31, c31, A32, c32⟩ W0_2_3_5_6 hF
     have HJ : Aside0 (JW w W0_2_3_5_6 #[.bool true, .slice A1 da.length c1, .slice A2 la.length c2] #[.bool hb, .slice B1 db.length d1, .slice B2 lb.length d2]) := ⟨hF.1⟩
     have HR32 : Aside0 (Kd.R (Kd.int .u8) 5 W0_2_3_5_6 w.heap.size (fun _ => True) (.slice A32 xt.length c32) xt) := ⟨hF.2⟩
     have hHeld : W0_2_3_5_6.cell? ⟨w.heap.size, 0, none⟩ = some (.bool true) ∧ W0_2_3_5_6.cell? ⟨w.heap.size, 1, none⟩ = some (.slice A1 da.length c1) ∧ W0_2_3_5_6.cell? ⟨w.heap.size, 2, none⟩ = some (.slice A2 la.length c2) ∧ W0_2_3_5_6.cell? ⟨w.heap.size + 1, 0, none⟩ = some (.bool hb) ∧ W0_2_3_5_6.cell? ⟨w.heap.size + 1, 1, none⟩ = some (.slice B1 db.length d1) ∧ W0_2_3_5_6.cell? ⟨w.heap.size + 1, 2, none⟩ = some (.slice B2 lb.length d2) := ⟨(blk_cell HJ.out.boxA 0).trans rfl, (blk_cell HJ.out.boxA 1).trans rfl, (blk_cell HJ.out.boxA 2).trans rfl, (blk_cell HJ.out.boxB 0).trans rfl, (blk_cell HJ.out.boxB 1).trans rfl, (blk_cell HJ.out.boxB 2).trans rfl⟩
     clear hF
     refine norm_ (a' := ?_) ?_ ?_
     rotate_left
     ·simp only [putAll, Act.put, List.setIfInBounds_toArray, List.set_cons_zero, List.set_cons_succ]
      rfl
     refine two_ (i := 7) (j := 11) (Ni := some 33) (Nj := some 5) #[true, true, true, true, true, true, true, true, false, false, false, false, false, false] #[true, true, true, true, true, true, true, false, false, false, false, true, false, false] rfl rfl rfl rfl (by kernel_rfl) (by decide) (by decide) (fun K hK => ?_) (fun K hK => ?_)
     ·skip
      refine goes_ Tryd.func22 (by kernel_rfl) rfl #[.slice A32 xt.length c32] (by rfl) rfl rfl (by simp only [List.map_toArray, List.map_cons, List.map_nil]; rfl) ?_
      with_reducible refine (HDEC.out _ A32 c32 (HGE.out.below HJ.out.below) (Kd.R_reads' HR32.out).2.2 (Kd.R_reads' HR32.out).2.1).mono ?_
      rintro e W2 ⟨A5, c5, A6, c6, rfl, hR5, hR6, hB⟩
      have HJ' := Aside0.mk (HJ.out.call hB)
      have HR5' := Aside0.mk (Kd.R_lower hR5 HJ.out.below.size)
      have HR6' := Aside0.mk (Kd.R_lower hR6 HJ.out.below.size)
      clear hR5 hR6 hB
      refine ⟨_, rfl, ?_⟩
      refine hK.out _ _ ⟨(blk_cell HJ'.out.boxA 0).trans rfl, (blk_cell HJ'.out.boxA 1).trans rfl, (blk_cell HJ'.out.boxA 2).trans rfl, (blk_cell HJ'.out.boxB 0).trans rfl, (blk_cell HJ'.out.boxB 1).trans rfl, (blk_cell HJ'.out.boxB 2).trans rfl⟩ (fun hHeld => ?_)
      clear hK K
      refine norm_ (a' := ?_) ?_ ?_
      rotate_left
      ·show Act.put _ (some 33) _ = _
       simp only [Act.put, List.setIfInBounds_toArray, List.set_cons_zero, List.set_cons_succ, i64_w, i32_w]
       rfl
      refine pure_ (i := 8) (N := some 25) (v := ?_) (a' := ?_) #[true, true, true, true, true, true, true, true, true, false, false, false, false, false] rfl rfl (by kernel_rfl) (fun _ _ _ h => h) (Or.inl ⟨by rfl, ?_⟩) ?_ ?_
      rotate_left
      ·intro w'
       go_simp
       with_reducible rfl
      rotate_left
      ·simp only [Act.put, List.setIfInBounds_toArray, List.set_cons_zero, List.set_cons_succ, i64_w, i32_w]
       rfl
      refine pure_ (i := 9) (N := some 34) (v := ?_) (a' := ?_) #[true, true, true, true, true, true, true, true, true, true, false, false, false, false] rfl rfl (by kernel_rfl) (fun _ _ _ h => h) (Or.inl ⟨by rfl, ?_⟩) ?_ ?_
      rotate_left
      ·intro w'
       go_simp
       with_reducible rfl
      rotate_left
      ·simp only [Act.put, List.setIfInBounds_toArray, List.set_cons_zero, List.set_cons_succ, i64_w, i32_w]
       rfl
      refine pure_ (i := 10) (N := some 35) (v := ?_) (a' := ?_) #[true, true, true, true, true, true, true, true, true, true, true, false, false, false] rfl rfl (by kernel_rfl) (fun _ _ _ h => h) (Or.inl ⟨by rfl, ?_⟩) ?_ ?_
      rotate_left
      ·intro w'
       go_simp
       with_reducible rfl
      rotate_left
      ·simp only [Act.put, List.setIfInBounds_toArray, List.set_cons_zero, List.set_cons_succ, i64_w, i32_w]
       rfl
      exact norm_ (by first | (simp only [putAll, Act.put, List.setIfInBounds_toArray, List.set_cons_zero, List.set_cons_succ]; done) | (simp only [putAll, Act.put, List.setIfInBounds_toArray, List.set_cons_zero, List.set_cons_succ]; rfl)) (hJ0_2_3_5_6_7 (A26, c26, A28, c28, A29, c29, A31, c31, A32, c32, A5, c5, A6, c6) _ ⟨HJ'.out, HR5'.out, HR6'.out⟩)
     ·skip
      refine value_ (w1 := ?_) (v := ?_) (by rfl) rfl ?_ ?_
      rotate_left 2
      ·go_simp
       constructor
       ·rfl
       ·rfl
      have HN' := Aside0.mk (JN.new HJ.out #[.bool false, .slice none 0 0, .slice none 0 0])
      have HJ' := Aside0.mk (HJ.out.alloc (.cells #[.bool false, .slice none 0 0, .slice none 0 0] 36))
      have HR32' := Aside0.mk (Kd.R_alloc HR32.out (.cells #[.bool false, .slice none 0 0, .slice none 0 0] 36))
      refine hK.out _ _ ⟨(blk_cell HJ'.out.boxA 0).trans rfl, (blk_cell HJ'.out.boxA 1).trans rfl, (blk_cell HJ'.out.boxA 2).trans rfl, (blk_cell HJ'.out.boxB 0).trans rfl, (blk_cell HJ'.out.boxB 1).trans rfl, (blk_cell HJ'.out.boxB 2).trans rfl⟩ (fun hHeld => ?_)
      clear hK K
      refine norm_ (a' := ?_) ?_ ?_
      rotate_left
      ·show Act.put _ (some 5) _ = _
       simp only [Act.put, List.setIfInBounds_toArray, List.set_cons_zero, List.set_cons_succ, i64_w, i32_w]
       rfl
      exact norm_ (by first | (simp only [putAll, Act.put, List.setIfInBounds_toArray, List.set_cons_zero, List.set_cons_succ]; done) | (simp only [putAll, Act.put, List.setIfInBounds_toArray, List.set_cons_zero, List.set_cons_succ]; rfl)) (hJ0_2_3_5_6_11 (A26, c26, A28, c28, A29, c29, A31, c31, A32, c32, W0_2_3_5_6.heap.size) _ ⟨HJ'.out, HN'.out, HR32'.out⟩)
   ·skip
    rintro ⟨A26, c26, A28, c28, A29, c29, A31, c31, A32, c32, n5⟩ W0_2_3_5_6_11 hF
    have HJ : Aside0 (JW w W0_2_3_5_6_11 #[.bool true, .slice A1 da.length c1, .slice A2 la.length c2] #[.bool hb, .slice B1 db.length d1, .slice B2 lb.length d2]) := ⟨hF.1⟩
    have HN : Aside0 (JN w W0_2_3_5_6_11 n5 #[.bool false, .slice none 0 0, .slice none 0 0]) := ⟨hF.2.1⟩
    have HR32 : Aside0 (Kd.R (Kd.int .u8) 5 W0_2_3_5_6_11 w.heap.size (fun _ => True) (.slice A32 xt.length c32) xt) := ⟨hF.2.2⟩
    have hHeld : W0_2_3_5_6_11.cell? ⟨w.heap.size, 0, none⟩ = some (.bool true) ∧ W0_2_3_5_6_11.cell? ⟨w.heap.size, 1, none⟩ = some (.slice A1 da.length c1) ∧ W0_2_3_5_6_11.cell? ⟨w.heap.size, 2, none⟩ = some (.slice A2 la.length c2) ∧ W0_2_3_5_6_11.cell? ⟨w.heap.size + 1, 0, none⟩ = some (.bool hb) ∧ W0_2_3_5_6_11.cell? ⟨w.heap.size + 1, 1, none⟩ = some (.slice B1 db.length d1) ∧ W0_2_3_5_6_11.cell? ⟨w.heap.size + 1, 2, none⟩ = some (.slice B2 lb.length d2) := ⟨(blk_cell HJ.out.boxA 0).trans rfl, (blk_cell HJ.out.boxA 1).trans rfl, (blk_cell HJ.out.boxA 2).trans rfl, (blk_cell HJ.out.boxB 0).trans rfl, (blk_cell HJ.out.boxB 1).trans rfl, (blk_cell HJ.out.boxB 2).trans rfl⟩
    clear hF
    have hq0 := (blk_cell HN.out.blk 0).trans rfl
    have hq1 := (blk_cell HN.out.blk 1).trans rfl
    have hq2 := (blk_cell HN.out.blk 2).trans rfl
    have hqf := blk_frozen HN.out.blk
    refine norm_ (a' := ?_) ?_ ?_
    rotate_left
    ·simp only [putAll, Act.put, List.setIfInBounds_toArray, List.set_cons_zero, List.set_cons_succ]
     rfl
    refine one_ (i := 7) (N := some 33) #[true, true, true, true, true, true, true, true, false, false, false, true, false, false] rfl rfl (by kernel_rfl) (by decide) (fun K hK => ?_)
    refine goes_ Tryd.func22 (by kernel_rfl) rfl #[.slice A32 xt.length c32] (by rfl) rfl rfl (by simp only [List.map_toArray, List.map_cons, List.map_nil]; rfl) ?_
    with_reducible refine (HDEC.out _ A32 c32 (HGE.out.below HJ.out.below) (Kd.R_reads' HR32.out).2.2 (Kd.R_reads' HR32.out).2.1).mono ?_
    rintro e W2 ⟨A5, c5, A6, c6, rfl, hR5, hR6, hB⟩
    have HJ' := Aside0.mk (HJ.out.call hB)
    have HN' := Aside0.mk (HN.out.call hB)
    have HR5' := Aside0.mk (Kd.R_lower hR5 HJ.out.below.size)
    have HR6' := Aside0.mk (Kd.R_lower hR6 HJ.out.below.size)
    clear hR5 hR6 hB
    refine ⟨_, rfl, ?_⟩
    refine hK.out _ _ ⟨(blk_cell HJ'.out.boxA 0).trans rfl, (blk_cell HJ'.out.boxA 1).trans rfl, (blk_cell HJ'.out.boxA 2).trans rfl, (blk_cell HJ'.out.boxB 0).trans rfl, (blk_cell HJ'.out.boxB 1).trans rfl, (blk_cell HJ'.out.boxB 2).trans rfl⟩ (fun hHeld => ?_)
    clear hK K
    refine norm_ (a' := ?_) ?_ ?_
    rotate_left
    ·show Act.put _ (some 33) _ = _
     simp only [Act.put, List.setIfInBounds_toArray, List.set_cons_zero, List.set_cons_succ, i64_w, i32_w]
     rfl
    refine pure_ (i := 8) (N := some 25) (v := ?_) (a' := ?_) #[true, true, true, true, true, true, true, true, true, false, false, true, false, false] rfl rfl (by kernel_rfl) (fun _ _ _ h => h) (Or.inl ⟨by rfl, ?_⟩) ?_ ?_
    rotate_left
    ·intro w'
     go_simp
     with_reducible rfl
    rotate_left
    ·simp only [Act.put, List.setIfInBounds_toArray, List.set_cons_zero, List.set_cons_succ, i64_w, i32_w]
     rfl
    refine pure_ (i := 9) (N := some 34) (v := ?_) (a' := ?_) #[true, true, true, true, true, true, true, true, true, true, false, true, false, false] rfl rfl (by kernel_rfl) (fun _ _ _ h => h) (Or.inl ⟨by rfl, ?_⟩) ?_ ?_
    rotate_left
    ·intro w'
     go_simp
     with_reducible rfl
    rotate_left
    ·simp only [Act.put, List.setIfInBounds_toArray, List.set_cons_zero, List.set_cons_succ, i64_w, i32_w]
     rfl
    refine pure_ (i := 10) (N := some 35) (v := ?_) (a' := ?_) #[true, true, true, true, true, true, true, true, true, true, true, true, false, false] rfl rfl (by kernel_rfl) (fun _ _ _ h => h) (Or.inl ⟨by rfl, ?_⟩) ?_ ?_
    rotate_left
    ·intro w'
     go_simp
     with_reducible rfl
    rotate_left
    ·simp only [Act.put, List.setIfInBounds_toArray, List.set_cons_zero, List.set_cons_succ, i64_w, i32_w]
     rfl
    exact norm_ (by first | (simp only [putAll, Act.put, List.setIfInBounds_toArray, List.set_cons_zero, List.set_cons_succ]; done) | (simp only [putAll, Act.put, List.setIfInBounds_toArray, List.set_cons_zero, List.set_cons_succ]; rfl)) (hJ0_2_3_5_6_7_11 (A26, c26, A28, c28, A29, c29, A31, c31, A32, c32, A5, c5, A6, c6, n5) _ ⟨HJ'.out, HN'.out, HR5'.out, HR6'.out⟩)
  ·skip
   rintro ⟨A26, c26, A28, c28, A29, c29, A31, c31, A32, c32, A5, c5, A6, c6⟩ W0_2_3_5_6_7 hF
   have HJ : Aside0 (JW w W0_2_3_5_6_7 #[.bool true, .slice A1 da.length c1, .slice A2 la.length c2] #[.bool hb, .slice B1 db.length d1, .slice B2 lb.length d2]) := ⟨hF.1⟩
   have HR5 : Aside0 (Kd.R (Kd.int .u8) 5 W0_2_3_5_6_7 w.heap.size (fun _ => True) (.slice A5 dx.length c5) dx) := ⟨hF.2.1⟩
   have HR6 : Aside0 (Kd.R k27 27 W0_2_3_5_6_7 w.heap.size (fun _ => True) (.slice A6 lx.length c6) lx) := ⟨hF.2.2⟩
   have hHeld : W0_2_3_5_6_7.cell? ⟨w.heap.size, 0, none⟩ = some (.bool true) ∧ W0_2_3_5_6_7.cell? ⟨w.heap.size, 1, none⟩ = some (.slice A1 da.length c1) ∧ W0_2_3_5_6_7.cell? ⟨w.heap.size, 2, none⟩ = some (.slice A2 la.length c2) ∧ W0_2_3_5_6_7.cell? ⟨w.heap.size + 1, 0, none⟩ = some (.bool hb) ∧ W0_2_3_5_6_7.cell? ⟨w.heap.size + 1, 1, none⟩ = some (.slice B1 db.length d1) ∧ W0_2_3_5_6_7.cell? ⟨w.heap.size + 1, 2, none⟩ = some (.slice B2 lb.length d2) := ⟨(blk_cell HJ.out.boxA 0).trans rfl, (blk_cell HJ.out.boxA 1).trans rfl, (blk_cell HJ.out.boxA 2).trans rfl, (blk_cell HJ.out.boxB 0).trans rfl, (blk_cell HJ.out.boxB 1).trans rfl, (blk_cell HJ.out.boxB 2).trans rfl⟩
   clear hF
   refine norm_ (a' := ?_) ?_ ?_
   rotate_left
   ·simp only [putAll, Act.put, List.setIfInBounds_toArray, List.set_cons_zero, List.set_cons_succ]
    rfl
   refine one_ (i := 11) (N := some 5) #[true, true, true, true, true, true, true, true, true, true, true, true, false, false] rfl rfl (by kernel_rfl) (by decide) (fun K hK => ?_)
   refine value_ (w1 := ?_) (v := ?_) (by rfl) rfl ?_ ?_
   rotate_left 2
   ·go_simp
    constructor
    ·rfl
    ·rfl
   have HN' := Aside0.mk (JN.new HJ.out #[.bool false, .slice none 0 0, .slice none 0 0])
   have HJ' := Aside0.mk (HJ.out.alloc (.cells #[.bool false, .slice none 0 0, .slice none 0 0] 36))
   have HR5' := Aside0.mk (Kd.R_alloc HR5.out (.cells #[.bool false, .slice none 0 0, .slice none 0 0] 36))
   have HR6' := Aside0.mk (Kd.R_alloc HR6.out (.cells #[.bool false, .slice none 0 0, .slice none 0 0] 36))
   refine hK.out _ _ ⟨(blk_cell HJ'.out.boxA 0).trans rfl, (blk_cell HJ'.out.boxA 1).trans rfl, (blk_cell HJ'.out.boxA 2).trans rfl, (blk_cell HJ'.out.boxB 0).trans rfl, (blk_cell HJ'.out.boxB 1).trans rfl, (blk_cell HJ'.out.boxB 2).trans rfl⟩ (fun hHeld => ?_)
   clear hK K
   refine norm_ (a' := ?_) ?_ ?_
   rotate_left
   ·show Act.put _ (some 5) _ = _
    simp only [Act.put, List.setIfInBounds_toArray, List.set_cons_zero, List.set_cons_succ, i64_w, i32_w]
    rfl
   exact norm_ (by first | (simp only [putAll, Act.put, List.setIfInBounds_toArray, List.set_cons_zero, List.set_cons_succ]; done) | (simp only [putAll, Act.put, List.setIfInBounds_toArray, List.set_cons_zero, List.set_cons_succ]; rfl)) (hJ0_2_3_5_6_7_11 (A26, c26, A28, c28, A29, c29, A31, c31, A32, c32, A5, c5, A6, c6, W0_2_3_5_6_7.heap.size) _ ⟨HJ'.out, HN'.out, HR5'.out, HR6'.out⟩)
 rintro ⟨A26, c26, A28, c28, A29, c29, A31, c31, A32, c32, A5, c5, A6, c6, n5⟩ W0_2_3_5_6_7_11 hF
 have HJ : Aside0 (JW w W0_2_3_5_6_7_11 #[.bool true, .slice A1 da.length c1, .slice A2 la.length c2] #[.bool hb, .slice B1 db.length d1, .slice B2 lb.length d2]) := ⟨hF.1⟩
 have HN : Aside0 (JN w W0_2_3_5_6_7_11 n5 #[.bool false, .slice none 0 0, .slice none 0 0]) := ⟨hF.2.1⟩
 have HR5 : Aside0 (Kd.R (Kd.int .u8) 5 W0_2_3_5_6_7_11 w.heap.size (fun _ => True) (.slice A5 dx.length c5) dx) := ⟨hF.2.2.1⟩
 have HR6 : Aside0 (Kd.R k27 27 W0_2_3_5_6_7_11 w.heap.size (fun _ => True) (.slice A6 lx.length c6) lx) := ⟨hF.2.2.2⟩
 have hHeld : W0_2_3_5_6_7_11.cell? ⟨w.heap.size, 0, none⟩ = some (.bool true) ∧ W0_2_3_5_6_7_11.cell? ⟨w.heap.size, 1, none⟩ = some (.slice A1 da.length c1) ∧ W0_2_3_5_6_7_11.cell? ⟨w.heap.size, 2, none⟩ = some (.slice A2 la.length c2) ∧ W0_2_3_5_6_7_11.cell? ⟨w.heap.size + 1, 0, none⟩ = some (.bool hb) ∧ W0_2_3_5_6_7_11.cell? ⟨w.heap.size + 1, 1, none⟩ = some (.slice B1 db.length d1) ∧ W0_2_3_5_6_7_11.cell? ⟨w.heap.size + 1, 2, none⟩ = some (.slice B2 lb.length d2) := ⟨(blk_cell HJ.out.boxA 0).trans rfl, (blk_cell HJ.out.boxA 1).trans rfl, (blk_cell HJ.out.boxA 2).trans rfl, (blk_cell HJ.out.boxB 0).trans rfl, (blk_cell HJ.out.boxB 1).trans rfl, (blk_cell HJ.out.boxB 2).trans rfl⟩
 clear hF
 have hq0 := (blk_cell HN.out.blk 0).trans rfl
 have hq1 := (blk_cell HN.out.blk 1).trans rfl
 have hq2 := (blk_cell HN.out.blk 2).trans rfl
 have hqf := blk_frozen HN.out.blk
 refine norm_ (a' := ?_) ?_ ?_
 rotate_left
 ·simp only [putAll, Act.put, List.setIfInBounds_toArray, List.set_cons_zero, List.set_cons_succ]
  rfl
 refine last_ (i := 12) (N := none) #[true, true, true, true, true, true, true, true, true, true, true, true, true, false] rfl rfl (by kernel_rfl) (by decide) (fun K hK => ?_)
 refine skip_ (w1 := ?_) (by rfl) rfl ?_ ?_
 rotate_left
 ·go_simp
  rfl
 refine hK.out _ _ ?_
 clear hK K
 refine pure_ (i := 13) (N := some 6) (v := ?_) (a' := ?_) #[true, true, true, true, true, true, true, true, true, true, true, true, true, true] rfl rfl (by kernel_rfl) (fun _ _ _ h => h) (Or.inl ⟨by rfl, ?_⟩) ?_ ?_
 rotate_left
 ·intro w'
  go_simp
  with_reducible rfl
 rotate_left
 ·simp only [Act.put, List.setIfInBounds_toArray, List.set_cons_zero, List.set_cons_succ, i64_w, i32_w]
  rfl
 refine done_ (by kernel_rfl) ?_
 obtain ⟨Wz, hWz⟩ : ∃ w_, w_ = set3 W0_2_3_5_6_7_11 n5 (.bool hx) (.slice A5 dx.length c5) (.slice A6 lx.length c6) := ⟨_, rfl⟩
 have HJz := Aside0.mk (HJ.out.set3 HN.out.gt (.bool hx) (.slice A5 dx.length c5) (.slice A6 lx.length c6))
 have HNz := Aside0.mk (JN.mk HN.out.gt (set3_blk HN.out.blk (.bool hx) (.slice A5 dx.length c5) (.slice A6 lx.length c6)))
 have HR5z := Aside0.mk (R_set3 HR5.out HN.out.blk (by decide) (.bool hx) (.slice A5 dx.length c5) (.slice A6 lx.length c6))
 have HR6z := Aside0.mk (R_set3 HR6.out HN.out.blk (by decide) (.bool hx) (.slice A5 dx.length c5) (.slice A6 lx.length c6))
 rw [← hWz] at HJz HNz HR5z HR6z
 unfold set3 at hWz
 rw [← hWz]
 clear hWz hq0 hq1 hq2 hqf
 clear HJ HN HR5 HR6
 go_wp2_with fail
 have HQ : Aside0 (Below Wz.heap.size Wz Wz.drew) := ⟨below_drew (Below.refl _ _)⟩
 refine start_ (n := 18) (S := fun w' => w'.cell? ⟨w.heap.size, 0, none⟩ = some (.bool true) ∧ w'.cell? ⟨w.heap.size, 1, none⟩ = some (.slice A1 da.length c1) ∧ w'.cell? ⟨w.heap.size, 2, none⟩ = some (.slice A2 la.length c2) ∧ w'.cell? ⟨w.heap.size + 1, 0, none⟩ = some (.bool hb) ∧ w'.cell? ⟨w.heap.size + 1, 1, none⟩ = some (.slice B1 db.length d1) ∧ w'.cell? ⟨w.heap.size + 1, 2, none⟩ = some (.slice B2 lb.length d2)) (ds := [17]) #[false, false, false, false, false, false, false, false, false, false, false, false, false, false, false, false, false, false] (by kernel_rfl) rfl rfl ⟨(blk_cell ((HQ.out.block _ (blk_lt HJz.out.boxA)).trans HJz.out.boxA) 0).trans rfl, (blk_cell ((HQ.out.block _ (blk_lt HJz.out.boxA)).trans HJz.out.boxA) 1).trans rfl, (blk_cell ((HQ.out.block _ (blk_lt HJz.out.boxA)).trans HJz.out.boxA) 2).trans rfl, (blk_cell ((HQ.out.block _ (blk_lt HJz.out.boxB)).trans HJz.out.boxB) 0).trans rfl, (blk_cell ((HQ.out.block _ (blk_lt HJz.out.boxB)).trans HJz.out.boxB) 1).trans rfl, (blk_cell ((HQ.out.block _ (blk_lt HJz.out.boxB)).trans HJz.out.boxB) 2).trans rfl⟩ (fun hHeld => ?_)
 refine pure_ (i := 0) (N := some 36) (v := ?_) (a' := ?_) #[true, false, false, false, false, false, false, false, false, false, false, false, false, false, false, false, false, false] rfl rfl (by kernel_rfl) (fun _ _ _ h => h) (Or.inl ⟨by rfl, ?_⟩) ?_ ?_
 rotate_left
 ·intro w'
  go_simp
  with_reducible rfl
 rotate_left
 ·simp only [Act.put, List.setIfInBounds_toArray, List.set_cons_zero, List.set_cons_succ, i64_w, i32_w]
  rfl
 refine pure_ (i := 6) (N := some 42) (v := ?_) (a' := ?_) #[true, false, false, false, false, false, true, false, false, false, false, false, false, false, false, false, false, false] rfl rfl (by kernel_rfl) (fun _ _ _ h => h) (Or.inl ⟨by rfl, ?_⟩) ?_ ?_
 rotate_left
 ·intro w'
  go_simp
  with_reducible rfl
 rotate_left
 ·simp only [Act.put, List.setIfInBounds_toArray, List.set_cons_zero, List.set_cons_succ, i64_w, i32_w]
  rfl
 refine pure_ (i := 9) (N := some 45) (v := ?_) (a' := ?_) #[true, false, false, false, false, false, true, false, false, true, false, false, false, false, false, false, false, false] rfl rfl (by kernel_rfl) (fun _ _ _ h => h) (Or.inl ⟨by rfl, ?_⟩) ?_ ?_
 rotate_left
 ·intro w'
  go_simp
  with_reducible rfl
 rotate_left
 ·simp only [Act.put, List.setIfInBounds_toArray, List.set_cons_zero, List.set_cons_succ, i64_w, i32_w]
  rfl
 refine pure_ (i := 12) (N := some 48) (v := ?_) (a' := ?_) #[true, false, false, false, false, false, true, false, false, true, false, false, true, false, false, false, false, false] rfl rfl (by kernel_rfl) (fun _ _ _ h => h) (Or.inl ⟨by rfl, ?_⟩) ?_ ?_
 rotate_left
 ·intro w'
  go_simp
  with_reducible rfl
 rotate_left
 ·simp only [Act.put, List.setIfInBounds_toArray, List.set_cons_zero, List.set_cons_succ, i64_w, i32_w]
  rfl
 refine take_ (i := 1) (N := some 37) (v := ?_) (a' := ?_) #[true, true, false, false, false, false, true, false, false, true, false, false, true, false, false, false, false, false] rfl rfl (by kernel_rfl) (fun _ _ _ h => h) (Or.inl ⟨by rfl, ?_⟩) hHeld ?_ ?_
 rotate_left
 ·rintro w' ⟨s0, s1, s2, s3, s4, s5⟩
  go_simp
  with_reducible rfl
 rotate_left
 ·simp only [Act.put, List.setIfInBounds_toArray, List.set_cons_zero, List.set_cons_succ, i64_w, i32_w]
  rfl
 refine pure_ (i := 2) (N := some 38) (v := ?_) (a' := ?_) #[true, true, true, false, false, false, true, false, false, true, false, false, true, false, false, false, false, false] rfl rfl (by kernel_rfl) (fun _ _ _ h => h) (Or.inl ⟨by rfl, ?_⟩) ?_ ?_
 rotate_left
 ·intro w'
  go_simp
  with_reducible rfl
 rotate_left
 ·simp only [Act.put, List.setIfInBounds_toArray, List.set_cons_zero, List.set_cons_succ, i64_w, i32_w]
  rfl
 refine pure_ (i := 3) (N := some 39) (v := undef) (a' := ?_) #[true, true, true, true, false, false, true, false, false, true, false, false, true, false, false, false, false, false] rfl rfl (by kernel_rfl) (fun _ _ _ h => h) (Or.inr ⟨by rfl, rfl⟩) ?_ ?_
 rotate_left
 ·simp only [Act.put, List.setIfInBounds_toArray, List.set_cons_zero, List.set_cons_succ, i64_w, i32_w]
  rfl
 refine pure_ (i := 4) (N := some 40) (v := undef) (a' := ?_) #[true, true, true, true, true, false, true, false, false, true, false, false, true, false, false, false, false, false] rfl rfl (by kernel_rfl) (fun _ _ _ h => h) (Or.inr ⟨by rfl, rfl⟩) ?_ ?_
 rotate_left
 ·simp only [Act.put, List.setIfInBounds_toArray, List.set_cons_zero, List.set_cons_succ, i64_w, i32_w]
  rfl
 refine pure_ (i := 5) (N := some 41) (v := ?_) (a' := ?_) #[true, true, true, true, true, true, true, false, false, true, false, false, true, false, false, false, false, false] rfl rfl (by kernel_rfl) (fun _ _ _ h => h) (Or.inl ⟨by rfl, ?_⟩) ?_ ?_
 rotate_left
 ·intro w'
  go_simp
  with_reducible rfl
 rotate_left
 ·simp only [Act.put, List.setIfInBounds_toArray, List.set_cons_zero, List.set_cons_succ, i64_w, i32_w]
  rfl
 refine take_ (i := 7) (N := some 43) (v := ?_) (a' := ?_) #[true, true, true, true, true, true, true, true, false, true, false, false, true, false, false, false, false, false] rfl rfl (by kernel_rfl) (fun _ _ _ h => h) (Or.inl ⟨by rfl, ?_⟩) hHeld ?_ ?_
 rotate_left
 ·rintro w' ⟨s0, s1, s2, s3, s4, s5⟩
  go_simp
  with_reducible rfl
 rotate_left
 ·simp only [Act.put, List.setIfInBounds_toArray, List.set_cons_zero, List.set_cons_succ, i64_w, i32_w]
  rfl
 refine take_ (i := 10) (N := some 46) (v := ?_) (a' := ?_) #[true, true, true, true, true, true, true, true, false, true, true, false, true, false, false, false, false, false] rfl rfl (by kernel_rfl) (fun _ _ _ h => h) (Or.inl ⟨by rfl, ?_⟩) hHeld ?_ ?_
 rotate_left
 ·rintro w' ⟨s0, s1, s2, s3, s4, s5⟩
  go_simp
  with_reducible rfl
 rotate_left
 ·simp only [Act.put, List.setIfInBounds_toArray, List.set_cons_zero, List.set_cons_succ, i64_w, i32_w]
  rfl
 refine take_ (i := 13) (N := some 49) (v := ?_) (a' := ?_) #[true, true, true, true, true, true, true, true, false, true, true, false, true, true, false, false, false, false] rfl rfl (by kernel_rfl) (fun _ _ _ h => h) (Or.inl ⟨by rfl, ?_⟩) hHeld ?_ ?_
 rotate_left
 ·rintro w' ⟨s0, s1, s2, s3, s4, s5⟩
  go_simp
  with_reducible rfl
 rotate_left
 ·simp only [Act.put, List.setIfInBounds_toArray, List.set_cons_zero, List.set_cons_succ, i64_w, i32_w]
  rfl
 refine join_ (σ := (Option Addr) × (Nat) × (Option Addr) × (Nat) × (Option Addr) × (Nat) × (Nat)) 1 #[true, true, true, true, true, true, true, true, true, true, true, true, true, true, true, true, true, false] (fun s_ => [(44, (.slice s_.1 0 s_.2.1)), (47, (.slice s_.2.2.1 la.length s_.2.2.2.1)), (50, (.slice s_.2.2.2.2.1 lw.length s_.2.2.2.2.2.1)), (51, (.agg #[.bool true, .slice A1 da.length c1, .slice s_.2.2.2.2.1 lw.length s_.2.2.2.2.2.1])), (7, (.pointer (some ⟨s_.2.2.2.2.2.2, 0, none⟩)))]) (fun s_ w' => (Below Wz.heap.size Wz w') ∧ (JM Wz w' s_.2.2.2.2.2.2 #[.bool false, .slice none 0 0, .slice none 0 0]) ∧ (Kd.N k27 27 w' Wz.heap.size (fun k_ => k_ ≠ s_.2.2.2.2.2.2) (.slice s_.2.2.2.2.1 lw.length s_.2.2.2.2.2.1) lw)) ?_ ?_
 rotate_left
 ·intro hJ8_11_14_16
  refine join_ (σ := (Option Addr) × (Nat) × (Option Addr) × (Nat) × (Option Addr) × (Nat)) 2 #[true, true, true, true, true, true, true, true, true, true, true, true, true, true, true, true, false, false] (fun s_ => [(44, (.slice s_.1 0 s_.2.1)), (47, (.slice s_.2.2.1 la.length s_.2.2.2.1)), (50, (.slice s_.2.2.2.2.1 lw.length s_.2.2.2.2.2)), (51, (.agg #[.bool true, .slice A1 da.length c1, .slice s_.2.2.2.2.1 lw.length s_.2.2.2.2.2]))]) (fun s_ w' => (Below Wz.heap.size Wz w') ∧ (Kd.N k27 27 w' Wz.heap.size (fun _ => True) (.slice s_.2.2.2.2.1 lw.length s_.2.2.2.2.2) lw)) ?_ ?_
  rotate_left
  ·intro hJ8_11_14
   refine join_ (σ := (Option Addr) × (Nat) × (Option Addr) × (Nat) × (Nat)) 3 #[true, true, true, true, true, true, true, true, true, true, true, true, true, true, false, false, true, false] (fun s_ => [(44, (.slice s_.1 0 s_.2.1)), (47, (.slice s_.2.2.1 la.length s_.2.2.2.1)), (7, (.pointer (some ⟨s_.2.2.2.2, 0, none⟩)))]) (fun s_ w' => (Below Wz.heap.size Wz w') ∧ (JM Wz w' s_.2.2.2.2 #[.bool false, .slice none 0 0, .slice none 0 0]) ∧ (Kd.N k27 27 w' Wz.heap.size (fun k_ => k_ ≠ s_.2.2.2.2) (.slice s_.2.2.1 la.length s_.2.2.2.1) la)) ?_ ?_
   rotate_left
   ·intro hJ8_11_16
    refine join_ (σ := (Option Addr) × (Nat) × (Option Addr) × (Nat)) 4 #[true, true, true, true, true, true, true, true, true, true, true, true, true, true, false, false, false, false] (fun s_ => [(44, (.slice s_.1 0 s_.2.1)), (47, (.slice s_.2.2.1 la.length s_.2.2.2))]) (fun s_ w' => (Below Wz.heap.size Wz w') ∧ (Kd.N k27 27 w' Wz.heap.size (fun _ => True) (.slice s_.2.2.1 la.length s_.2.2.2) la)) ?_ ?_
    rotate_left
    ·intro hJ8_11
     refine join_ (σ := (Option Addr) × (Nat) × (Nat)) 4 #[true, true, true, true, true, true, true, true, true, true, true, false, true, true, false, false, true, false] (fun s_ => [(44, (.slice s_.1 0 s_.2.1)), (7, (.pointer (some ⟨s_.2.2, 0, none⟩)))]) (fun s_ w' => (Below Wz.heap.size Wz w') ∧ (JM Wz w' s_.2.2 #[.bool false, .slice none 0 0, .slice none 0 0]) ∧ (Kd.N k27 27 w' Wz.heap.size (fun k_ => k_ ≠ s_.2.2) (.slice s_.1 0 s_.2.1) [])) ?_ ?_
     rotate_left
     ·intro hJ8_16
      refine join_ (σ := (Option Addr) × (Nat)) 5 #[true, true, true, true, true, true, true, true, true, true, true, false, true, true, false, false, false, false] (fun s_ => [(44, (.slice s_.1 0 s_.2))]) (fun s_ w' => (Below Wz.heap.size Wz w') ∧ (Kd.N k27 27 w' Wz.heap.size (fun _ => True) (.slice s_.1 0 s_.2) [])) ?_ ?_
      rotate_left
      ·intro hJ8
       refine join_ (σ := (Nat)) 5 #[true, true, true, true, true, true, true, true, false, true, true, false, true, true, false, false, true, false] (fun s_ => [(7, (.pointer (some ⟨s_, 0, none⟩)))]) (fun s_ w' => (Below Wz.heap.size Wz w') ∧ (JM Wz w' s_ #[.bool false, .slice none 0 0, .slice none 0 0])) ?_ ?_
       rotate_left
       ·intro hJ16
        refine two_ (i := 8) (j := 16) (Ni := some 44) (Nj := some 7) #[true, true, true, true, true, true, true, true, true, true, true, false, true, true, false, false, false, false] #[true, true, true, true, true, true, true, true, false, true, true, false, true, true, false, false, true, false] rfl rfl rfl rfl (by kernel_rfl) (by decide) (by decide) (fun K hK => ?_) (fun K hK => ?_)
        ·skip
         refine Kd.R_lit_step k27 (w0 := Wz) Wz.heap.size 27 (by rfl) (N := 44) rfl (xs := ([] : List S27)) (inner := []) (ok := (fun _ => True)) (okp := fun _ => False) (by first | (go_simp; done) | (go_simp; rfl)) (by constructor <;> simp) (fun _ hk => hk.elim) trivial HQ.out HQ.out.size (by simp) ?_
         intro v W2 hR hB hG hat
         obtain ⟨A44, c44, e26⟩ := Kd.R_slice hR
         have e27 : v = .slice A44 0 c44 := e26
         subst e27
         have HV44' := Aside0.mk (Kd.R_N hR)
         have HQ' := Aside0.mk hB
         clear hR hB hG hat e26
         refine hK.out _ _ ⟨(blk_cell ((HQ'.out.block _ (blk_lt HJz.out.boxA)).trans HJz.out.boxA) 0).trans rfl, (blk_cell ((HQ'.out.block _ (blk_lt HJz.out.boxA)).trans HJz.out.boxA) 1).trans rfl, (blk_cell ((HQ'.out.block _ (blk_lt HJz.out.boxA)).trans HJz.out.boxA) 2).trans rfl, (blk_cell ((HQ'.out.block _ (blk_lt HJz.out.boxB)).trans HJz.out.boxB) 0).trans rfl, (blk_cell ((HQ'.out.block _ (blk_lt HJz.out.boxB)).trans HJz.out.boxB) 1).trans rfl, (blk_cell ((HQ'.out.block _ (blk_lt HJz.out.boxB)).trans HJz.out.boxB) 2).trans rfl⟩ (fun hHeld => ?_)
         clear hK K
         refine norm_ (a' := ?_) ?_ ?_
         rotate_left
         ·show Act.put _ (some 44) _ = _
          simp only [Act.put, List.setIfInBounds_toArray, List.set_cons_zero, List.set_cons_succ, i64_w, i32_w]
          rfl
         exact norm_ (by first | (simp only [putAll, Act.put, List.setIfInBounds_toArray, List.set_cons_zero, List.set_cons_succ]; done) | (simp only [putAll, Act.put, List.setIfInBounds_toArray, List.set_cons_zero, List.set_cons_succ]; rfl)) (hJ8 (A44, c44) _ ⟨HQ'.out, HV44'.out⟩)
        ·skip
         refine value_ (w1 := ?_) (v := ?_) (by rfl) rfl ?_ ?_
         rotate_left 2
         ·go_simp
          constructor
          ·rfl
          ·rfl
         have HN' := Aside0.mk (JM.new HQ.out #[.bool false, .slice none 0 0, .slice none 0 0])
         have HQ' := Aside0.mk (below_alloc HQ.out (.cells #[.bool false, .slice none 0 0, .slice none 0 0] 36))
         refine hK.out _ _ ⟨(blk_cell ((HQ'.out.block _ (blk_lt HJz.out.boxA)).trans HJz.out.boxA) 0).trans rfl, (blk_cell ((HQ'.out.block _ (blk_lt HJz.out.boxA)).trans HJz.out.boxA) 1).trans rfl, (blk_cell ((HQ'.out.block _ (blk_lt HJz.out.boxA)).trans HJz.out.boxA) 2).trans rfl, (blk_cell ((HQ'.out.block _ (blk_lt HJz.out.boxB)).trans HJz.out.boxB) 0).trans rfl, (blk_cell ((HQ'.out.block _ (blk_lt HJz.out.boxB)).trans HJz.out.boxB) 1).trans rfl, (blk_cell ((HQ'.out.block _ (blk_lt HJz.out.boxB)).trans HJz.out.boxB) 2).trans rfl⟩ (fun hHeld => ?_)
         clear hK K
         refine norm_ (a' := ?_) ?_ ?_
         rotate_left
         ·show Act.put _ (some 7) _ = _
          simp only [Act.put, List.setIfInBounds_toArray, List.set_cons_zero, List.set_cons_succ, i64_w, i32_w]
          rfl
         exact norm_ (by first | (simp only [putAll, Act.put, List.setIfInBounds_toArray, List.set_cons_zero, List.set_cons_succ]; done) | (simp only [putAll, Act.put, List.setIfInBounds_toArray, List.set_cons_zero, List.set_cons_succ]; rfl)) (hJ16 Wz.heap.size _ ⟨HQ'.out, HN'.out⟩)
       ·skip
        rintro n7 W16 hF
        have HQ : Aside0 (Below Wz.heap.size Wz W16) := ⟨hF.1⟩
        have HN : Aside0 (JM Wz W16 n7 #[.bool false, .slice none 0 0, .slice none 0 0]) := ⟨hF.2⟩
        have hHeld : W16.cell? ⟨w.heap.size, 0, none⟩ = some (.bool true) ∧ W16.cell? ⟨w.heap.size, 1, none⟩ = some (.slice A1 da.length c1) ∧ W16.cell? ⟨w.heap.size, 2, none⟩ = some (.slice A2 la.length c2) ∧ W16.cell? ⟨w.heap.size + 1, 0, none⟩ = some (.bool hb) ∧ W16.cell? ⟨w.heap.size + 1, 1, none⟩ = some (.slice B1 db.length d1) ∧ W16.cell? ⟨w.heap.size + 1, 2, none⟩ = some (.slice B2 lb.length d2) := ⟨(blk_cell ((HQ.out.block _ (blk_lt HJz.out.boxA)).trans HJz.out.boxA) 0).trans rfl, (blk_cell ((HQ.out.block _ (blk_lt HJz.out.boxA)).trans HJz.out.boxA) 1).trans rfl, (blk_cell ((HQ.out.block _ (blk_lt HJz.out.boxA)).trans HJz.out.boxA) 2).trans rfl, (blk_cell ((HQ.out.block _ (blk_lt HJz.out.boxB)).trans HJz.out.boxB) 0).trans rfl, (blk_cell ((HQ.out.block _ (blk_lt HJz.out.boxB)).trans HJz.out.boxB) 1).trans rfl, (blk_cell ((HQ.out.block _ (blk_lt HJz.out.boxB)).trans HJz.out.boxB) 2).trans rfl⟩
        clear hF
        have hq0 := (blk_cell HN.out.blk 0).trans rfl
        have hq1 := (blk_cell HN.out.blk 1).trans rfl
        have hq2 := (blk_cell HN.out.blk 2).trans rfl
        have hqf := blk_frozen HN.out.blk
        refine norm_ (a' := ?_) ?_ ?_
        rotate_left
        ·simp only [putAll, Act.put, List.setIfInBounds_toArray, List.set_cons_zero, List.set_cons_succ]
         rfl
        refine one_ (i := 8) (N := some 44) #[true, true, true, true, true, true, true, true, true, true, true, false, true, true, false, false, true, false] rfl rfl (by kernel_rfl) (by decide) (fun K hK => ?_)
        refine Kd.R_lit_step k27 (w0 := Wz) Wz.heap.size 27 (by rfl) (N := 44) rfl (xs := ([] : List S27)) (inner := []) (ok := (fun k_ => k_ ≠ n7)) (okp := fun _ => False) (by first | (go_simp; done) | (go_simp; rfl)) (by constructor <;> simp) (fun _ hk => hk.elim) (by have := blk_lt HN.out.blk; omega) HQ.out HQ.out.size (by simp) ?_
        intro v W2 hR hB hG hat
        obtain ⟨A44, c44, e26⟩ := Kd.R_slice hR
        have e27 : v = .slice A44 0 c44 := e26
        subst e27
        have HN' := Aside0.mk (HN.out.grow hG (fun k_ cs_ hk_ => by simp))
        have HV44' := Aside0.mk (Kd.R_N hR)
        have HQ' := Aside0.mk hB
        clear hR hB hG hat e26
        refine hK.out _ _ ⟨(blk_cell ((HQ'.out.block _ (blk_lt HJz.out.boxA)).trans HJz.out.boxA) 0).trans rfl, (blk_cell ((HQ'.out.block _ (blk_lt HJz.out.boxA)).trans HJz.out.boxA) 1).trans rfl, (blk_cell ((HQ'.out.block _ (blk_lt HJz.out.boxA)).trans HJz.out.boxA) 2).trans rfl, (blk_cell ((HQ'.out.block _ (blk_lt HJz.out.boxB)).trans HJz.out.boxB) 0).trans rfl, (blk_cell ((HQ'.out.block _ (blk_lt HJz.out.boxB)).trans HJz.out.boxB) 1).trans rfl, (blk_cell ((HQ'.out.block _ (blk_lt HJz.out.boxB)).trans HJz.out.boxB) 2).trans rfl⟩ (fun hHeld => ?_)
        clear hK K
        refine norm_ (a' := ?_) ?_ ?_
        rotate_left
        ·show Act.put _ (some 44) _ = _
         simp only [Act.put, List.setIfInBounds_toArray, List.set_cons_zero, List.set_cons_succ, i64_w, i32_w]
         rfl
        exact norm_ (by first | (simp only [putAll, Act.put, List.setIfInBounds_toArray, List.set_cons_zero, List.set_cons_succ]; done) | (simp only [putAll, Act.put, List.setIfInBounds_toArray, List.set_cons_zero, List.set_cons_succ]; rfl)) (hJ8_16 (A44, c44, n7) _ ⟨HQ'.out, HN'.out, HV44'.out⟩)
      ·skip
       rintro ⟨A44, c44⟩ W8 hF
       have HQ : Aside0 (Below Wz.heap.size Wz W8) := ⟨hF.1⟩
       have HV44 : Aside0 (Kd.N k27 27 W8 Wz.heap.size (fun _ => True) (.slice A44 0 c44) []) := ⟨hF.2⟩
       have hHeld : W8.cell? ⟨w.heap.size, 0, none⟩ = some (.bool true) ∧ W8.cell? ⟨w.heap.size, 1, none⟩ = some (.slice A1 da.length c1) ∧ W8.cell? ⟨w.heap.size, 2, none⟩ = some (.slice A2 la.length c2) ∧ W8.cell? ⟨w.heap.size + 1, 0, none⟩ = some (.bool hb) ∧ W8.cell? ⟨w.heap.size + 1, 1, none⟩ = some (.slice B1 db.length d1) ∧ W8.cell? ⟨w.heap.size + 1, 2, none⟩ = some (.slice B2 lb.length d2) := ⟨(blk_cell ((HQ.out.block _ (blk_lt HJz.out.boxA)).trans HJz.out.boxA) 0).trans rfl, (blk_cell ((HQ.out.block _ (blk_lt HJz.out.boxA)).trans HJz.out.boxA) 1).trans rfl, (blk_cell ((HQ.out.block _ (blk_lt HJz.out.boxA)).trans HJz.out.boxA) 2).trans rfl, (blk_cell ((HQ.out.block _ (blk_lt HJz.out.boxB)).trans HJz.out.boxB) 0).trans rfl, (blk_cell ((HQ.out.block _ (blk_lt HJz.out.boxB)).trans HJz.out.boxB) 1).trans rfl, (blk_cell ((HQ.out.block _ (blk_lt HJz.out.boxB)).trans HJz.out.boxB) 2).trans rfl⟩
       clear hF
       refine norm_ (a' := ?_) ?_ ?_
       rotate_left
       ·simp only [putAll, Act.put, List.setIfInBounds_toArray, List.set_cons_zero, List.set_cons_succ]
        rfl
       refine two_ (i := 11) (j := 16) (Ni := some 47) (Nj := some 7) #[true, true, true, true, true, true, true, true, true, true, true, true, true, true, false, false, false, false] #[true, true, true, true, true, true, true, true, true, true, true, false, true, true, false, false, true, false] rfl rfl rfl rfl (by kernel_rfl) (by decide) (by decide) (fun K hK => ?_) (fun K hK => ?_)
       ·skip
        refine Kd.N_append_rows_step k27 (w0 := Wz) Wz.heap.size (by rfl) (.tmp 44) (.tmp 46) 34 27 (.agg #[.bool false, .bool false, .bool false, .slice none 0 0, .string ⟨#[]⟩, .int .u64 0]) 56 rfl Tryd.underlying34 info27e rfl (by decide) (by decide) (.slice A44 0 c44) [] la A2 la.length c2 (fun _ => True) (fun k_ => k_ < w.heap.size) rfl rfl HV44.out (Kd.F_below (Kd.F_step (Kd.C_F k27_heap HA2.out) (fun k_ _ hk => HJz.out.below.block k_ hk)) HQ.out) (fun k_ hk => ⟨trivial, fun e => by have h1 := Kd.N_base HV44.out _ e.symm; have h2 := HJz.out.below.size; omega⟩) (fun _ _ => trivial) HQ.out HQ.out.size (by have h1 := HL1.out; have h2 := HL2.out; (try simp only [List.length_nil]); omega) ?_
        intro v W2 hR hB hG hat
        rw [List.nil_append] at hR
        obtain ⟨A47, c47, rfl⟩ := Kd.N_slice hR
        have HV47' := Aside0.mk hR
        have HQ' := Aside0.mk hB
        clear hR hB hG hat
        refine hK.out _ _ ⟨(blk_cell ((HQ'.out.block _ (blk_lt HJz.out.boxA)).trans HJz.out.boxA) 0).trans rfl, (blk_cell ((HQ'.out.block _ (blk_lt HJz.out.boxA)).trans HJz.out.boxA) 1).trans rfl, (blk_cell ((HQ'.out.block _ (blk_lt HJz.out.boxA)).trans HJz.out.boxA) 2).trans rfl, (blk_cell ((HQ'.out.block _ (blk_lt HJz.out.boxB)).trans HJz.out.boxB) 0).trans rfl, (blk_cell ((HQ'.out.block _ (blk_lt HJz.out.boxB)).trans HJz.out.boxB) 1).trans rfl, (blk_cell ((HQ'.out.block _ (blk_lt HJz.out.boxB)).trans HJz.out.boxB) 2).trans rfl⟩ (fun hHeld => ?_)
        clear hK K
        refine norm_ (a' := ?_) ?_ ?_
        rotate_left
        ·show Act.put _ (some 47) _ = _
         simp only [Act.put, List.setIfInBounds_toArray, List.set_cons_zero, List.set_cons_succ, i64_w, i32_w]
         rfl
        exact norm_ (by first | (simp only [putAll, Act.put, List.setIfInBounds_toArray, List.set_cons_zero, List.set_cons_succ]; done) | (simp only [putAll, Act.put, List.setIfInBounds_toArray, List.set_cons_zero, List.set_cons_succ]; rfl)) (hJ8_11 (A44, c44, A47, c47) _ ⟨HQ'.out, HV47'.out⟩)
       ·skip
        refine value_ (w1 := ?_) (v := ?_) (by rfl) rfl ?_ ?_
        rotate_left 2
        ·go_simp
         constructor
         ·rfl
         ·rfl
        have HN' := Aside0.mk (JM.new HQ.out #[.bool false, .slice none 0 0, .slice none 0 0])
        have HQ' := Aside0.mk (below_alloc HQ.out (.cells #[.bool false, .slice none 0 0, .slice none 0 0] 36))
        have HV44' := Aside0.mk (Kd.N_mono (Kd.N_alloc (Kd.N_elderB HV44.out _ (Nat.le_refl _)) (.cells #[.bool false, .slice none 0 0, .slice none 0 0] 36)) (fun _ hk => hk.2))
        refine hK.out _ _ ⟨(blk_cell ((HQ'.out.block _ (blk_lt HJz.out.boxA)).trans HJz.out.boxA) 0).trans rfl, (blk_cell ((HQ'.out.block _ (blk_lt HJz.out.boxA)).trans HJz.out.boxA) 1).trans rfl, (blk_cell ((HQ'.out.block _ (blk_lt HJz.out.boxA)).trans HJz.out.boxA) 2).trans rfl, (blk_cell ((HQ'.out.block _ (blk_lt HJz.out.boxB)).trans HJz.out.boxB) 0).trans rfl, (blk_cell ((HQ'.out.block _ (blk_lt HJz.out.boxB)).trans HJz.out.boxB) 1).trans rfl, (blk_cell ((HQ'.out.block _ (blk_lt HJz.out.boxB)).trans HJz.out.boxB) 2).trans rfl⟩ (fun hHeld => ?_)
        clear hK K
        refine norm_ (a' := ?_) ?_ ?_
        rotate_left
        ·show Act.put _ (some 7) _ = _
         simp only [Act.put, List.setIfInBounds_toArray, List.set_cons_zero, List.set_cons_succ, i64_w, i32_w]
         rfl
        exact norm_ (by first | (simp only [putAll, Act.put, List.setIfInBounds_toArray, List.set_cons_zero, List.set_cons_succ]; done) | (simp only [putAll, Act.put, List.setIfInBounds_toArray, List.set_cons_zero, List.set_cons_succ]; rfl)) (hJ8_16 (A44, c44, W8.heap.size) _ ⟨HQ'.out, HN'.out, HV44'.out⟩)
     ·skip
      rintro ⟨A44, c44, n7⟩ W8_16 hF
      have HQ : Aside0 (Below Wz.heap.size Wz W8_16) := ⟨hF.1⟩
      have HN : Aside0 (JM Wz W8_16 n7 #[.bool false, .slice none 0 0, .slice none 0 0]) := ⟨hF.2.1⟩
      have HV44 : Aside0 (Kd.N k27 27 W8_16 Wz.heap.size (fun k_ => k_ ≠ n7) (.slice A44 0 c44) []) := ⟨hF.2.2⟩
      have hHeld : W8_16.cell? ⟨w.heap.size, 0, none⟩ = some (.bool true) ∧ W8_16.cell? ⟨w.heap.size, 1, none⟩ = some (.slice A1 da.length c1) ∧ W8_16.cell? ⟨w.heap.size, 2, none⟩ = some (.slice A2 la.length c2) ∧ W8_16.cell? ⟨w.heap.size + 1, 0, none⟩ = some (.bool hb) ∧ W8_16.cell? ⟨w.heap.size + 1, 1, none⟩ = some (.slice B1 db.length d1) ∧ W8_16.cell? ⟨w.heap.size + 1, 2, none⟩ = some (.slice B2 lb.length d2) := ⟨(blk_cell ((HQ.out.block _ (blk_lt HJz.out.boxA)).trans HJz.out.boxA) 0).trans rfl, (blk_cell ((HQ.out.block _ (blk_lt HJz.out.boxA)).trans HJz.out.boxA) 1).trans rfl, (blk_cell ((HQ.out.block _ (blk_lt HJz.out.boxA)).trans HJz.out.boxA) 2).trans rfl, (blk_cell ((HQ.out.block _ (blk_lt HJz.out.boxB)).trans HJz.out.boxB) 0).trans rfl, (blk_cell ((HQ.out.block _ (blk_lt HJz.out.boxB)).trans HJz.out.boxB) 1).trans rfl, (blk_cell ((HQ.out.block _ (blk_lt HJz.out.boxB)).trans HJz.out.boxB) 2).trans rfl⟩
      clear hF
      have hq0 := (blk_cell HN.out.blk 0).trans rfl
      have hq1 := (blk_cell HN.out.blk 1).trans rfl
      have hq2 := (blk_cell HN.out.blk 2).trans rfl
      have hqf := blk_frozen HN.out.blk
      refine norm_ (a' := ?_) ?_ ?_
      rotate_left
      ·simp only [putAll, Act.put, List.setIfInBounds_toArray, List.set_cons_zero, List.set_cons_succ]
       rfl
      refine one_ (i := 11) (N := some 47) #[true, true, true, true, true, true, true, true, true, true, true, true, true, true, false, false, true, false] rfl rfl (by kernel_rfl) (by decide) (fun K hK => ?_)
      refine Kd.N_append_rows_step k27 (w0 := Wz) Wz.heap.size (by rfl) (.tmp 44) (.tmp 46) 34 27 (.agg #[.bool false, .bool false, .bool false, .slice none 0 0, .string ⟨#[]⟩, .int .u64 0]) 56 rfl Tryd.underlying34 info27e rfl (by decide) (by decide) (.slice A44 0 c44) [] la A2 la.length c2 (fun k_ => k_ ≠ n7) (fun k_ => k_ < w.heap.size) rfl rfl HV44.out (Kd.F_below (Kd.F_step (Kd.C_F k27_heap HA2.out) (fun k_ _ hk => HJz.out.below.block k_ hk)) HQ.out) (fun k_ hk => ⟨by have h1 := HN.out.ge; have h2 := HJz.out.below.size; omega, fun e => by have h1 := Kd.N_base HV44.out _ e.symm; have h2 := HJz.out.below.size; omega⟩) (fun k_ hk => by have := blk_lt HN.out.blk; omega) HQ.out HQ.out.size (by have h1 := HL1.out; have h2 := HL2.out; (try simp only [List.length_nil]); omega) ?_
      intro v W2 hR hB hG hat
      rw [List.nil_append] at hR
      obtain ⟨A47, c47, rfl⟩ := Kd.N_slice hR
      have HN' := Aside0.mk (HN.out.grow hG (fun k_ cs_ hk_ => Kd.N_ne HV44.out hk_ (by decide)))
      have HV47' := Aside0.mk hR
      have HQ' := Aside0.mk hB
      clear hR hB hG hat
      refine hK.out _ _ ⟨(blk_cell ((HQ'.out.block _ (blk_lt HJz.out.boxA)).trans HJz.out.boxA) 0).trans rfl, (blk_cell ((HQ'.out.block _ (blk_lt HJz.out.boxA)).trans HJz.out.boxA) 1).trans rfl, (blk_cell ((HQ'.out.block _ (blk_lt HJz.out.boxA)).trans HJz.out.boxA) 2).trans rfl, (blk_cell ((HQ'.out.block _ (blk_lt HJz.out.boxB)).trans HJz.out.boxB) 0).trans rfl, (blk_cell ((HQ'.out.block _ (blk_lt HJz.out.boxB)).trans HJz.out.boxB) 1).trans rfl, (blk_cell ((HQ'.out.block _ (blk_lt HJz.out.boxB)).trans HJz.out.boxB) 2).trans rfl⟩ (fun hHeld => ?_)
      clear hK K
      refine norm_ (a' := ?_) ?_ ?_
      rotate_left
      ·show Act.put _ (some 47) _ = _
       simp only [Act.put, List.setIfInBounds_toArray, List.set_cons_zero, List.set_cons_succ, i64_w, i32_w]
       rfl
      exact norm_ (by first | (simp only [putAll, Act.put, List.setIfInBounds_toArray, List.set_cons_zero, List.set_cons_succ]; done) | (simp only [putAll, Act.put, List.setIfInBounds_toArray, List.set_cons_zero, List.set_cons_succ]; rfl)) (hJ8_11_16 (A44, c44, A47, c47, n7) _ ⟨HQ'.out, HN'.out, HV47'.out⟩)
    ·skip
     rintro ⟨A44, c44, A47, c47⟩ W8_11 hF
     have HQ : Aside0 (Below Wz.heap.size Wz W8_11) := ⟨hF.1⟩
     have HV47 : Aside0 (Kd.N k27 27 W8_11 Wz.heap.size (fun _ => True) (.slice A47 la.length c47) la) := ⟨hF.2⟩
     have hHeld : W8_11.cell? ⟨w.heap.size, 0, none⟩ = some (.bool true) ∧ W8_11.cell? ⟨w.heap.size, 1, none⟩ = some (.slice A1 da.length c1) ∧ W8_11.cell? ⟨w.heap.size, 2, none⟩ = some (.slice A2 la.length c2) ∧ W8_11.cell? ⟨w.heap.size + 1, 0, none⟩ = some (.bool hb) ∧ W8_11.cell? ⟨w.heap.size + 1, 1, none⟩ = some (.slice B1 db.length d1) ∧ W8_11.cell? ⟨w.heap.size + 1, 2, none⟩ = some (.slice B2 lb.length d2) := ⟨(blk_cell ((HQ.out.block _ (blk_lt HJz.out.boxA)).trans HJz.out.boxA) 0).trans rfl, (blk_cell ((HQ.out.block _ (blk_lt HJz.out.boxA)).trans HJz.out.boxA) 1).trans rfl, (blk_cell ((HQ.out.block _ (blk_lt HJz.out.boxA)).trans HJz.out.boxA) 2).trans rfl, (blk_cell ((HQ.out.block _ (blk_lt HJz.out.boxB)).trans HJz.out.boxB) 0).trans rfl, (blk_cell ((HQ.out.block _ (blk_lt HJz.out.boxB)).trans HJz.out.boxB) 1).trans rfl, (blk_cell ((HQ.out.block _ (blk_lt HJz.out.boxB)).trans HJz.out.boxB) 2).trans rfl⟩
     clear hF
     refine norm_ (a' := ?_) ?_ ?_
     rotate_left
     ·simp only [putAll, Act.put, List.setIfInBounds_toArray, List.set_cons_zero, List.set_cons_succ]
      rfl
     refine two_ (i := 14) (j := 16) (Ni := some 50) (Nj := some 7) #[true, true, true, true, true, true, true, true, true, true, true, true, true, true, true, false, false, false] #[true, true, true, true, true, true, true, true, true, true, true, true, true, true, false, false, true, false] rfl rfl rfl rfl (by kernel_rfl) (by decide) (by decide) (fun K hK => ?_) (fun K hK => ?_)
     ·skip
      refine Kd.N_append_rows_step k27 (w0 := Wz) Wz.heap.size (by rfl) (.tmp 47) (.tmp 49) 34 27 (.agg #[.bool false, .bool false, .bool false, .slice none 0 0, .string ⟨#[]⟩, .int .u64 0]) 56 rfl Tryd.underlying34 info27e rfl (by decide) (by decide) (.slice A47 la.length c47) la lb B2 lb.length d2 (fun _ => True) (fun k_ => k_ < w.heap.size) rfl rfl HV47.out (Kd.F_below (Kd.F_step (Kd.C_F k27_heap HB2.out) (fun k_ _ hk => HJz.out.below.block k_ hk)) HQ.out) (fun k_ hk => ⟨trivial, fun e => by have h1 := Kd.N_base HV47.out _ e.symm; have h2 := HJz.out.below.size; omega⟩) (fun _ _ => trivial) HQ.out HQ.out.size (by have h1 := HL1.out; have h2 := HL2.out; (try simp only [List.length_nil]); omega) ?_
      intro v W2 hR hB hG hat
      rw [← HLW.out] at hR
      obtain ⟨A50, c50, rfl⟩ := Kd.N_slice hR
      have HV50' := Aside0.mk hR
      have HQ' := Aside0.mk hB
      clear hR hB hG hat
      refine hK.out _ _ ⟨(blk_cell ((HQ'.out.block _ (blk_lt HJz.out.boxA)).trans HJz.out.boxA) 0).trans rfl, (blk_cell ((HQ'.out.block _ (blk_lt HJz.out.boxA)).trans HJz.out.boxA) 1).trans rfl, (blk_cell ((HQ'.out.block _ (blk_lt HJz.out.boxA)).trans HJz.out.boxA) 2).trans rfl, (blk_cell ((HQ'.out.block _ (blk_lt HJz.out.boxB)).trans HJz.out.boxB) 0).trans rfl, (blk_cell ((HQ'.out.block _ (blk_lt HJz.out.boxB)).trans HJz.out.boxB) 1).trans rfl, (blk_cell ((HQ'.out.block _ (blk_lt HJz.out.boxB)).trans HJz.out.boxB) 2).trans rfl⟩ (fun hHeld => ?_)
      clear hK K
      refine norm_ (a' := ?_) ?_ ?_
      rotate_left
      ·show Act.put _ (some 50) _ = _
       simp only [Act.put, List.setIfInBounds_toArray, List.set_cons_zero, List.set_cons_succ, i64_w, i32_w]
       rfl
      refine pure_ (i := 15) (N := some 51) (v := ?_) (a' := ?_) #[true, true, true, true, true, true, true, true, true, true, true, true, true, true, true, true, false, false] rfl rfl (by kernel_rfl) (fun _ _ _ h => h) (Or.inl ⟨by rfl, ?_⟩) ?_ ?_
      rotate_left
      ·intro w'
       go_simp
       with_reducible rfl
      rotate_left
      ·simp only [Act.put, List.setIfInBounds_toArray, List.set_cons_zero, List.set_cons_succ, i64_w, i32_w]
       rfl
      exact norm_ (by first | (simp only [putAll, Act.put, List.setIfInBounds_toArray, List.set_cons_zero, List.set_cons_succ]; done) | (simp only [putAll, Act.put, List.setIfInBounds_toArray, List.set_cons_zero, List.set_cons_succ]; rfl)) (hJ8_11_14 (A44, c44, A47, c47, A50, c50) _ ⟨HQ'.out, HV50'.out⟩)
     ·skip
      refine value_ (w1 := ?_) (v := ?_) (by rfl) rfl ?_ ?_
      rotate_left 2
      ·go_simp
       constructor
       ·rfl
       ·rfl
      have HN' := Aside0.mk (JM.new HQ.out #[.bool false, .slice none 0 0, .slice none 0 0])
      have HQ' := Aside0.mk (below_alloc HQ.out (.cells #[.bool false, .slice none 0 0, .slice none 0 0] 36))
      have HV47' := Aside0.mk (Kd.N_mono (Kd.N_alloc (Kd.N_elderB HV47.out _ (Nat.le_refl _)) (.cells #[.bool false, .slice none 0 0, .slice none 0 0] 36)) (fun _ hk => hk.2))
      refine hK.out _ _ ⟨(blk_cell ((HQ'.out.block _ (blk_lt HJz.out.boxA)).trans HJz.out.boxA) 0).trans rfl, (blk_cell ((HQ'.out.block _ (blk_lt HJz.out.boxA)).trans HJz.out.boxA) 1).trans rfl, (blk_cell ((HQ'.out.block _ (blk_lt HJz.out.boxA)).trans HJz.out.boxA) 2).trans rfl, (blk_cell ((HQ'.out.block _ (blk_lt HJz.out.boxB)).trans HJz.out.boxB) 0).trans rfl, (blk_cell ((HQ'.out.block _ (blk_lt HJz.out.boxB)).trans HJz.out.boxB) 1).trans rfl, (blk_cell ((HQ'.out.block _ (blk_lt HJz.out.boxB)).trans HJz.out.boxB) 2).trans rfl⟩ (fun hHeld => ?_)
      clear hK K
      refine norm_ (a' := ?_) ?_ ?_
      rotate_left
      ·show Act.put _ (some 7) _ = _
       simp only [Act.put, List.setIfInBounds_toArray, List.set_cons_zero, List.set_cons_succ, i64_w, i32_w]
       rfl
      exact norm_ (by first | (simp only [putAll, Act.put, List.setIfInBounds_toArray, List.set_cons_zero, List.set_cons_succ]; done) | (simp only [putAll, Act.put, List.setIfInBounds_toArray, List.set_cons_zero, List.set_cons_succ]; rfl)) (hJ8_11_16 (A44, c44, A47, c47, W8_11.heap.size) _ ⟨HQ'.out, HN'.out, HV47'.out⟩)
   ·skip
    rintro ⟨A44, c44, A47, c47, n7⟩ W8_11_16 hF
    have HQ : Aside0 (Below Wz.heap.size Wz W8_11_16) := ⟨hF.1⟩
    have HN : Aside0 (JM Wz W8_11_16 n7 #[.bool false, .slice none 0 0, .slice none 0 0]) := ⟨hF.2.1⟩
    have HV47 : Aside0 (Kd.N k27 27 W8_11_16 Wz.heap.size (fun k_ => k_ ≠ n7) (.slice A47 la.length c47) la) := ⟨hF.2.2⟩
    have hHeld : W8_11_16.cell? ⟨w.heap.size, 0, none⟩ = some (.bool true) ∧ W8_11_16.cell? ⟨w.heap.size, 1, none⟩ = some (.slice A1 da.length c1) ∧ W8_11_16.cell? ⟨w.heap.size, 2, none⟩ = some (.slice A2 la.length c2) ∧ W8_11_16.cell? ⟨w.heap.size + 1, 0, none⟩ = some (.bool hb) ∧ W8_11_16.cell? ⟨w.heap.size + 1, 1, none⟩ = some (.slice B1 db.length d1) ∧ W8_11_16.cell? ⟨w.heap.size + 1, 2, none⟩ = some (.slice B2 lb.length d2) := ⟨(blk_cell ((HQ.out.block _ (blk_lt HJz.out.boxA)).trans HJz.out.boxA) 0).trans rfl, (blk_cell ((HQ.out.block _ (blk_lt HJz.out.boxA)).trans HJz.out.boxA) 1).trans rfl, (blk_cell ((HQ.out.block _ (blk_lt HJz.out.boxA)).trans HJz.out.boxA) 2).trans rfl, (blk_cell ((HQ.out.block _ (blk_lt HJz.out.boxB)).trans HJz.out.boxB) 0).trans rfl, (blk_cell ((HQ.out.block _ (blk_lt HJz.out.boxB)).trans HJz.out.boxB) 1).trans rfl, (blk_cell ((HQ.out.block _ (blk_lt HJz.out.boxB)).trans HJz.out.boxB) 2).trans rfl⟩
    clear hF
    have hq0 := (blk_cell HN.out.blk 0).trans rfl
    have hq1 := (blk_cell HN.out.blk 1).trans rfl
    have hq2 := (blk_cell HN.out.blk 2).trans rfl
    have hqf := blk_frozen HN.out.blk
    refine norm_ (a' := ?_) ?_ ?_
    rotate_left
    ·simp only [putAll, Act.put, List.setIfInBounds_toArray, List.set_cons_zero, List.set_cons_succ]
     rfl
    refine one_ (i := 14) (N := some 50) #[true, true, true, true, true, true, true, true, true, true, true, true, true, true, true, false, true, false] rfl rfl (by kernel_rfl) (by decide) (fun K hK => ?_)
    refine Kd.N_append_rows_step k27 (w0 := Wz) Wz.heap.size (by rfl) (.tmp 47) (.tmp 49) 34 27 (.agg #[.bool false, .bool false, .bool false, .slice none 0 0, .string ⟨#[]⟩, .int .u64 0]) 56 rfl Tryd.underlying34 info27e rfl (by decide) (by decide) (.slice A47 la.length c47) la lb B2 lb.length d2 (fun k_ => k_ ≠ n7) (fun k_ => k_ < w.heap.size) rfl rfl HV47.out (Kd.F_below (Kd.F_step (Kd.C_F k27_heap HB2.out) (fun k_ _ hk => HJz.out.below.block k_ hk)) HQ.out) (fun k_ hk => ⟨by have h1 := HN.out.ge; have h2 := HJz.out.below.size; omega, fun e => by have h1 := Kd.N_base HV47.out _ e.symm; have h2 := HJz.out.below.size; omega⟩) (fun k_ hk => by have := blk_lt HN.out.blk; omega) HQ.out HQ.out.size (by have h1 := HL1.out; have h2 := HL2.out; (try simp only [List.length_nil]); omega) ?_
    intro v W2 hR hB hG hat
    rw [← HLW.out] at hR
    obtain ⟨A50, c50, rfl⟩ := Kd.N_slice hR
    have HN' := Aside0.mk (HN.out.grow hG (fun k_ cs_ hk_ => Kd.N_ne HV47.out hk_ (by decide)))
    have HV50' := Aside0.mk hR
    have HQ' := Aside0.mk hB
    clear hR hB hG hat
    refine hK.out _ _ ⟨(blk_cell ((HQ'.out.block _ (blk_lt HJz.out.boxA)).trans HJz.out.boxA) 0).trans rfl, (blk_cell ((HQ'.out.block _ (blk_lt HJz.out.boxA)).trans HJz.out.boxA) 1).trans rfl, (blk_cell ((HQ'.out.block _ (blk_lt HJz.out.boxA)).trans HJz.out.boxA) 2).trans rfl, (blk_cell ((HQ'.out.block _ (blk_lt HJz.out.boxB)).trans HJz.out.boxB) 0).trans rfl, (blk_cell ((HQ'.out.block _ (blk_lt HJz.out.boxB)).trans HJz.out.boxB) 1).trans rfl, (blk_cell ((HQ'.out.block _ (blk_lt HJz.out.boxB)).trans HJz.out.boxB) 2).trans rfl⟩ (fun hHeld => ?_)
    clear hK K
    refine norm_ (a' := ?_) ?_ ?_
    rotate_left
    ·show Act.put _ (some 50) _ = _
     simp only [Act.put, List.setIfInBounds_toArray, List.set_cons_zero, List.set_cons_succ, i64_w, i32_w]
     rfl
    refine pure_ (i := 15) (N := some 51) (v := ?_) (a' := ?_) #[true, true, true, true, true, true, true, true, true, true, true, true, true, true, true, true, true, false] rfl rfl (by kernel_rfl) (fun _ _ _ h => h) (Or.inl ⟨by rfl, ?_⟩) ?_ ?_
    rotate_left
    ·intro w'
     go_simp
     with_reducible rfl
    rotate_left
    ·simp only [Act.put, List.setIfInBounds_toArray, List.set_cons_zero, List.set_cons_succ, i64_w, i32_w]
     rfl
    exact norm_ (by first | (simp only [putAll, Act.put, List.setIfInBounds_toArray, List.set_cons_zero, List.set_cons_succ]; done) | (simp only [putAll, Act.put, List.setIfInBounds_toArray, List.set_cons_zero, List.set_cons_succ]; rfl)) (hJ8_11_14_16 (A44, c44, A47, c47, A50, c50, n7) _ ⟨HQ'.out, HN'.out, HV50'.out⟩)
  ·skip
   rintro ⟨A44, c44, A47, c47, A50, c50⟩ W8_11_14 hF
   have HQ : Aside0 (Below Wz.heap.size Wz W8_11_14) := ⟨hF.1⟩
   have HV50 : Aside0 (Kd.N k27 27 W8_11_14 Wz.heap.size (fun _ => True) (.slice A50 lw.length c50) lw) := ⟨hF.2⟩
   have hHeld : W8_11_14.cell? ⟨w.heap.size, 0, none⟩ = some (.bool true) ∧ W8_11_14.cell? ⟨w.heap.size, 1, none⟩ = some (.slice A1 da.length c1) ∧ W8_11_14.cell? ⟨w.heap.size, 2, none⟩ = some (.slice A2 la.length c2) ∧ W8_11_14.cell? ⟨w.heap.size + 1, 0, none⟩ = some (.bool hb) ∧ W8_11_14.cell? ⟨w.heap.size + 1, 1, none⟩ = some (.slice B1 db.length d1) ∧ W8_11_14.cell? ⟨w.heap.size + 1, 2, none⟩ = some (.slice B2 lb.length d2) := ⟨(blk_cell ((HQ.out.block _ (blk_lt HJz.out.boxA)).trans HJz.out.boxA) 0).trans rfl, (blk_cell ((HQ.out.block _ (blk_lt HJz.out.boxA)).trans HJz.out.boxA) 1).trans rfl, (blk_cell ((HQ.out.block _ (blk_lt HJz.out.boxA)).trans HJz.out.boxA) 2).trans rfl, (blk_cell ((HQ.out.block _ (blk_lt HJz.out.boxB)).trans HJz.out.boxB) 0).trans rfl, (blk_cell ((HQ.out.block _ (blk_lt HJz.out.boxB)).trans HJz.out.boxB) 1).trans rfl, (blk_cell ((HQ.out.block _ (blk_lt HJz.out.boxB)).trans HJz.out.boxB) 2).trans rfl⟩
   clear hF
   refine norm_ (a' := ?_) ?_ ?_
   rotate_left
   ·simp only [putAll, Act.put, List.setIfInBounds_toArray, List.set_cons_zero, List.set_cons_succ]
    rfl
   refine one_ (i := 16) (N := some 7) #[true, true, true, true, true, true, true, true, true, true, true, true, true, true, true, true, true, false] rfl rfl (by kernel_rfl) (by decide) (fun K hK => ?_)
   refine value_ (w1 := ?_) (v := ?_) (by rfl) rfl ?_ ?_
   rotate_left 2
   ·go_simp
    constructor
    ·rfl
    ·rfl
   have HN' := Aside0.mk (JM.new HQ.out #[.bool false, .slice none 0 0, .slice none 0 0])
   have HQ' := Aside0.mk (below_alloc HQ.out (.cells #[.bool false, .slice none 0 0, .slice none 0 0] 36))
   have HV50' := Aside0.mk (Kd.N_mono (Kd.N_alloc (Kd.N_elderB HV50.out _ (Nat.le_refl _)) (.cells #[.bool false, .slice none 0 0, .slice none 0 0] 36)) (fun _ hk => hk.2))
   refine hK.out _ _ ⟨(blk_cell ((HQ'.out.block _ (blk_lt HJz.out.boxA)).trans HJz.out.boxA) 0).trans rfl, (blk_cell ((HQ'.out.block _ (blk_lt HJz.out.boxA)).trans HJz.out.boxA) 1).trans rfl, (blk_cell ((HQ'.out.block _ (blk_lt HJz.out.boxA)).trans HJz.out.boxA) 2).trans rfl, (blk_cell ((HQ'.out.block _ (blk_lt HJz.out.boxB)).trans HJz.out.boxB) 0).trans rfl, (blk_cell ((HQ'.out.block _ (blk_lt HJz.out.boxB)).trans HJz.out.boxB) 1).trans rfl, (blk_cell ((HQ'.out.block _ (blk_lt HJz.out.boxB)).trans HJz.out.boxB) 2).trans rfl⟩ (fun hHeld => ?_)
   clear hK K
   refine norm_ (a' := ?_) ?_ ?_
   rotate_left
   ·show Act.put _ (some 7) _ = _
    simp only [Act.put, List.setIfInBounds_toArray, List.set_cons_zero, List.set_cons_succ, i64_w, i32_w]
    rfl
   exact norm_ (by first | (simp only [putAll, Act.put, List.setIfInBounds_toArray, List.set_cons_zero, List.set_cons_succ]; done) | (simp only [putAll, Act.put, List.setIfInBounds_toArray, List.set_cons_zero, List.set_cons_succ]; rfl)) (hJ8_11_14_16 (A44, c44, A47, c47, A50, c50, W8_11_14.heap.size) _ ⟨HQ'.out, HN'.out, HV50'.out⟩)
 rintro ⟨A44, c44, A47, c47, A50, c50, n7⟩ W8_11_14_16 hF
 have HQ : Aside0 (Below Wz.heap.size Wz W8_11_14_16) := ⟨hF.1⟩
 have HN : Aside0 (JM Wz W8_11_14_16 n7 #[.bool false, .slice none 0 0, .slice none 0 0]) := ⟨hF.2.1⟩
 have HV50 : Aside0 (Kd.N k27 27 W8_11_14_16 Wz.heap.size (fun k_ => k_ ≠ n7) (.slice A50 lw.length c50) lw) := ⟨hF.2.2⟩
 have hHeld : W8_11_14_16.cell? ⟨w.heap.size, 0, none⟩ = some (.bool true) ∧ W8_11_14_16.cell? ⟨w.heap.size, 1, none⟩ = some (.slice A1 da.length c1) ∧ W8_11_14_16.cell? ⟨w.heap.size, 2, none⟩ = some (.slice A2 la.length c2) ∧ W8_11_14_16.cell? ⟨w.heap.size + 1, 0, none⟩ = some (.bool hb) ∧ W8_11_14_16.cell? ⟨w.heap.size + 1, 1, none⟩ = some (.slice B1 db.length d1) ∧ W8_11_14_16.cell? ⟨w.heap.size + 1, 2, none⟩ = some (.slice B2 lb.length d2) := ⟨(blk_cell ((HQ.out.block _ (blk_lt HJz.out.boxA)).trans HJz.out.boxA) 0).trans rfl, (blk_cell ((HQ.out.block _ (blk_lt HJz.out.boxA)).trans HJz.out.boxA) 1).trans rfl, (blk_cell ((HQ.out.block _ (blk_lt HJz.out.boxA)).trans HJz.out.boxA) 2).trans rfl, (blk_cell ((HQ.out.block _ (blk_lt HJz.out.boxB)).trans HJz.out.boxB) 0).trans rfl, (blk_cell ((HQ.out.block _ (blk_lt HJz.out.boxB)).trans HJz.out.boxB) 1).trans rfl, (blk_cell ((HQ.out.block _ (blk_lt HJz.out.boxB)).trans HJz.out.boxB) 2).trans rfl⟩
 clear hF
 have hq0 := (blk_cell HN.out.blk 0).trans rfl
 have hq1 := (blk_cell HN.out.blk 1).trans rfl
 have hq2 := (blk_cell HN.out.blk 2).trans rfl
 have hqf := blk_frozen HN.out.blk
 refine norm_ (a' := ?_) ?_ ?_
 rotate_left
 ·simp only [putAll, Act.put, List.setIfInBounds_toArray, List.set_cons_zero, List.set_cons_succ]
  rfl
 refine last_ (i := 17) (N := none) #[true, true, true, true, true, true, true, true, true, true, true, true, true, true, true, true, true, true] rfl rfl (by kernel_rfl) (by decide) (fun K hK => ?_)
 refine skip_ (w1 := ?_) (by rfl) rfl ?_ ?_
 rotate_left
 ·go_simp
  rfl
 refine hK.out _ _ ?_
 clear hK K
 refine done_ (by kernel_rfl) ?_
 have HQy := Aside0.mk (set3_below HQ.out HN.out.ge (.bool true) (.slice A1 da.length c1) (.slice A50 lw.length c50))
 have HNy := Aside0.mk (set3_blk HN.out.blk (.bool true) (.slice A1 da.length c1) (.slice A50 lw.length c50))
 have HVy := Aside0.mk (Kd.N_step HV50.out (fun k_ hk _ => set3_far k_ hk (.bool true) (.slice A1 da.length c1) (.slice A50 lw.length c50)))
 have HGE7 := Aside0.mk HN.out.ge
 obtain ⟨Wy, hWy⟩ : ∃ w_, w_ = set3 W8_11_14_16 n7 (.bool true) (.slice A1 da.length c1) (.slice A50 lw.length c50) := ⟨_, rfl⟩
 rw [← hWy] at HQy HNy HVy
 unfold set3 at hWy
 rw [← hWy]
 clear hWy hq0 hq1 hq2 hqf HQ HN HV50
 have hz_ := HJz.out.below.size
 have h57 : (n5 = n7) = False := eq_false (by have := blk_lt HNz.out.blk; have := HGE7.out; omega)
 have h75 : (n7 = n5) = False := eq_false (by have := blk_lt HNz.out.blk; have := HGE7.out; omega)
 have HN5y := Aside0.mk ((HQy.out.block _ (blk_lt HNz.out.blk)).trans HNz.out.blk)
 have HB_y := Aside0.mk ((HQy.out.block _ (blk_lt HJz.out.boxB)).trans HJz.out.boxB)
 have hm0 := (blk_cell HN5y.out 0).trans rfl
 have hn0 := (blk_cell HNy.out 0).trans rfl
 have hl0 := (blk_cell HB_y.out 0).trans rfl
 have hm1 := (blk_cell HN5y.out 1).trans rfl
 have hn1 := (blk_cell HNy.out 1).trans rfl
 have hl1 := (blk_cell HB_y.out 1).trans rfl
 have hm2 := (blk_cell HN5y.out 2).trans rfl
 have hn2 := (blk_cell HNy.out 2).trans rfl
 have hl2 := (blk_cell HB_y.out 2).trans rfl
 have hnf := blk_frozen HNy.out
 clear hz_
 cases hb with
 | true =>
  have HQv : Aside0 (Below Wz.heap.size Wz (Wy.setCell ⟨n7, 1, none⟩ (.slice B1 db.length d1))) := ⟨below_set HQy.out HGE7.out⟩
  have HVv : Aside0 (Kd.N k27 27 (Wy.setCell ⟨n7, 1, none⟩ (.slice B1 db.length d1)) Wz.heap.size (fun k_ => k_ ≠ n7) (.slice A50 lw.length c50) lw) := ⟨Kd.N_step HVy.out (fun k_ hk _ => Below.heap_setCell _ ⟨n7, 1, none⟩ _ k_ (by simpa using hk))⟩
  go_wp2_with (first
   | (go_at_call 24; refine (spec_PbSame.calls ks hx A5 c5 dx A6 c6 lx true B1 d1 db A50 c50 lw true _ (Kd.C_below (Kd.R_reads' HR5z.out).2.2 HQv.out) (Kd.R_reads' HR5z.out).2.1 (Kd.C_below (Kd.R_reads' HR6z.out).2.2 HQv.out) (Kd.R_reads' HR6z.out).2.1 (Kd.C_below (Kd.C_below HB1.out HJz.out.below) HQv.out) Hd1.out (Kd.N_reads' HVv.out).2.2 (Kd.N_reads' HVv.out).2.1 HSM.out).mono ?_; rintro e w9 ⟨rfl, hB⟩; have HBy := Aside0.mk (below_step (below_step HJz.out.below HQv.out) hB); clear hB)
   | (go_at_call 12; refine (Go.Proofs.YtnhnlodmkbiiiaaDoor.HandPb.pbAwake_calls _).mono ?_; rintro e wj ⟨rfl, hB⟩; have HBj := Aside0.mk (below_step HBy.out hB); clear hB))
  go_ret
  exact ⟨rfl, HBj.out⟩
 | false =>
  have HQv : Aside0 (Below Wz.heap.size Wz Wy) := ⟨HQy.out⟩
  have HVv : Aside0 (Kd.N k27 27 Wy Wz.heap.size (fun k_ => k_ ≠ n7) (.slice A50 lw.length c50) lw) := ⟨HVy.out⟩
  go_wp2_with (first
   | (go_at_call 24; refine (spec_PbSame.calls ks hx A5 c5 dx A6 c6 lx true A1 c1 da A50 c50 lw true _ (Kd.C_below (Kd.R_reads' HR5z.out).2.2 HQv.out) (Kd.R_reads' HR5z.out).2.1 (Kd.C_below (Kd.R_reads' HR6z.out).2.2 HQv.out) (Kd.R_reads' HR6z.out).2.1 (Kd.C_below (Kd.C_below HA1.out HJz.out.below) HQv.out) Hc1.out (Kd.N_reads' HVv.out).2.2 (Kd.N_reads' HVv.out).2.1 HSM.out).mono ?_; rintro e w9 ⟨rfl, hB⟩; have HBy := Aside0.mk (below_step (below_step HJz.out.below HQv.out) hB); clear hB)
   | (go_at_call 12; refine (Go.Proofs.YtnhnlodmkbiiiaaDoor.HandPb.pbAwake_calls _).mono ?_; rintro e wj ⟨rfl, hB⟩; have HBj := Aside0.mk (below_step HBy.out hB); clear hB))
  go_ret
  exact ⟨rfl, HBj.out⟩
end Go.Proofs.YtnhnlodmkbiiiaaDoor.HandPj
