/- dagutils.MergeDiffs on blocks. -/
import Derived.Test.YtnhnlodmkbiiiaaDoorD8
namespace Go.Proofs.YtnhnlodmkbiiiaaDoor.HandDif
open Go Go.RowKit Go.Proofs.YtnhnlodmkbiiiaaDoorL Go.Proofs.YtnhnlodmkbiiiaaDoorW.PrintWords Go.Proofs.YtnhnlodmkbiiiaaDoorW.PrintLast Go.Proofs.YtnhnlodmkbiiiaaDoorW.PrintMore Go.Proofs.YtnhnlodmkbiiiaaDoor.PDif
attribute [local go_sem] max2_int min2_int max_two min_two max_three min_three max_four min_four
set_option linter.unusedVariables false
set_option linter.unusedSimpArgs false
theorem Kd.R_map {α : Type} {d : Kd α} {e base b n : Nat} {W W1 : World} {v : Value} {xs : List α} {f : ByteArray → Option Nat} (h : d.R e W base (fun _ => True) v xs) (hm : MapF W b n f) (hg : W.grownBy W1 (some b)) : d.R e W1 base (fun _ => True) v xs := by
  obtain ⟨es, c, hb⟩ := hm.blk
  refine Kd.R_mono (Kd.R_grown (Kd.R_bound h) hg (fun k hk he => ?_)) (fun _ _ => trivial)
  obtain ⟨_, _, _, q, _, cells, hc⟩ := hk
  injection he with he
  subst he
  rw [hb] at hc
  cases hc
theorem MapF.row {W W1 : World} {b n : Nat} {f : ByteArray → Option Nat} (hm : MapF W b n f) {row : Option Nat} {t : Nat} (hr : ∀ k, row = some k → ∃ cells, W.heap[k]? = some (.cells cells t (0, 0))) (hg : W.grownBy W1 row) : MapF W1 b n f := by
  refine hm.kept hg (fun e => ?_)
  obtain ⟨es, c, hb⟩ := hm.blk
  obtain ⟨cs, hc⟩ := hr b e.symm
  rw [hb] at hc
  cases hc
def kcf : Kd (Nat × Nat) := Kd.pair kpt kpt
theorem infoC : (Tryd.prog.info? 148).map (fun i => (i.zero, i.size, i.bytes)) = some (some (.agg #[.pointer none, .pointer none]), 2, 16) := by kernel_rfl
abbrev PM := ByteArray → Option Nat
def mput (pf : Nat → ByteArray) (f : PM) (h : Nat) : PM := fun k => if k = pf h then some h else f k
def mdel (pf : Nat → ByteArray) (f : PM) (g : Nat) : PM := fun k => if k = pf g then none else f k
structure MS where
  f : PM
  ds : List Nat
  cs : List (Nat × Nat)
def mstep (pf : Nat → ByteArray) (s : MS) (g : Nat) : MS := match s.f (pf g) with
  | some h => ⟨mdel pf s.f g, s.ds, s.cs ++ [(g, h)]⟩
  | none => ⟨mdel pf s.f g, s.ds ++ [g], s.cs⟩
def mlast (pf : Nat → ByteArray) (f : PM) (ds : List Nat) (h : Nat) : List Nat := match f (pf h) with
  | some _ => ds ++ [h]
  | none => ds
def mput_all (pf : Nat → ByteArray) (hs : List Nat) : PM := hs.foldl (mput pf) (fun _ => none)
def mst (pf : Nat → ByteArray) (gs hs : List Nat) : MS := gs.foldl (mstep pf) ⟨mput_all pf hs, [], []⟩
def mds (pf : Nat → ByteArray) (gs hs : List Nat) : List Nat := hs.foldl (mlast pf (mst pf gs hs).f) (mst pf gs hs).ds
theorem foldl_take {α β : Type} (f : β → α → β) (b : β) (l : List α) (j : Nat) (hj : j < l.length) : (l.take (j + 1)).foldl f b = f ((l.take j).foldl f b) l[j] := by
  rw [List.take_succ_eq_append_getElem hj, List.foldl_append]
  rfl
theorem mst_len (pf : Nat → ByteArray) (hs : List Nat) (l : List Nat) : (l.foldl (mstep pf) ⟨mput_all pf hs, [], []⟩).ds.length ≤ l.length ∧ (l.foldl (mstep pf) ⟨mput_all pf hs, [], []⟩).cs.length ≤ l.length := by
  have : ∀ (l : List Nat) (s : MS), (l.foldl (mstep pf) s).ds.length ≤ s.ds.length + l.length ∧ (l.foldl (mstep pf) s).cs.length ≤ s.cs.length + l.length := by
    intro l
    induction l with
    | nil => intro s; exact ⟨Nat.le_refl _, Nat.le_refl _⟩
    | cons g l ih =>
      intro s
      rw [List.foldl_cons]
      have := ih (mstep pf s g)
      have h2 : (mstep pf s g).ds.length ≤ s.ds.length + 1 ∧ (mstep pf s g).cs.length ≤ s.cs.length + 1 := by
        unfold mstep
        split <;> simp
      simp only [List.length_cons]
      omega
  have := this l ⟨mput_all pf hs, [], []⟩
  simpa using this
theorem mlast_len (pf : Nat → ByteArray) (f : PM) (l : List Nat) : ∀ ds : List Nat, (l.foldl (mlast pf f) ds).length ≤ ds.length + l.length := by
  induction l with
  | nil => intro ds; exact Nat.le_refl _
  | cons h l ih =>
    intro ds
    rw [List.foldl_cons]
    have := ih (mlast pf f ds h)
    have h2 : (mlast pf f ds h).length ≤ ds.length + 1 := by
      unfold mlast
      split <;> simp
    simp only [List.length_cons]
    omega
/-- The changes of a world: each in a block of its own kind, its path known. -/
def Paths (W : World) (pf : Nat → ByteArray) (l : List Nat) : Prop := ∀ g ∈ l, (pf g).size ≤ maxLen ∧ ∃ z0 z2 z3, W.heap[g]? = some (.cells #[z0, .string (pf g), z2, z3] 142 (0, 0))
theorem Paths.more {W W1 : World} {pf : Nat → ByteArray} {l : List Nat} (h : Paths W pf l) (hb : Below W.heap.size W W1) : Paths W1 pf l := fun g hg => by
  obtain ⟨h1, z0, z2, z3, h2⟩ := h g hg
  exact ⟨h1, z0, z2, z3, (hb.block g (blk_lt h2)).trans h2⟩
section
variable {w : World} {ops : Array Oper} {rest : List Oper} {o : Oper} {a : Act} {Q : Exit → Act → World → Prop}
theorem mapF_hit (hg : o.guard = none) (m x : Operand) (hop : o.op = Op.lookup 178 m x true) (b n : Nat) (f : ByteArray → Option Nat) (hm : a.eval m = .map (some b)) (h : MapF w b n f) (s : ByteArray) (hs : s.size ≤ maxLen) (hx : a.eval x = .string s) (g : Nat) (hf : f s = some g)
    (hK : wpList Tryd.prog ops Q rest (a.put o.dst (.tuple #[.pointer (some ⟨g, 0, none⟩), .bool true])) w) : wpList Tryd.prog ops Q (o :: rest) a w :=
  mapF_lookup hg m x hop b n f hm h s hs hx (by rw [hf]; exact hK)
theorem mapF_miss (hg : o.guard = none) (m x : Operand) (hop : o.op = Op.lookup 178 m x true) (b n : Nat) (f : ByteArray → Option Nat) (hm : a.eval m = .map (some b)) (h : MapF w b n f) (s : ByteArray) (hs : s.size ≤ maxLen) (hx : a.eval x = .string s) (hf : f s = none)
    (hK : wpList Tryd.prog ops Q rest (a.put o.dst (.tuple #[.pointer none, .bool false])) w) : wpList Tryd.prog ops Q (o :: rest) a w :=
  mapF_lookup hg m x hop b n f hm h s hs hx (by rw [hf]; exact hK)
end
set_option maxHeartbeats 32000000 in
set_option maxRecDepth 100000 in
theorem merge_calls (w : World) (pf : Nat → ByteArray) (gs hs : List Nat) (Aa Ab : Option Addr) (ca cb : Nat) (hA : Kd.C kpt w Aa gs.length gs) (hB : Kd.C kpt w Ab hs.length hs) (hla : gs.length ≤ 10000) (hlb : hs.length ≤ 10000) (pa : Paths w pf gs) (pb : Paths w pf hs) :
    Calls Tryd.prog 84 #[.slice Aa gs.length ca, .slice Ab hs.length cb] w fun e w' => ∃ v1 v2, e = .returned (.tuple #[v1, v2]) ∧ Kd.R kpt 137 w' w.heap.size (fun _ => True) v1 (mds pf gs hs) ∧ Kd.R kcf 148 w' w.heap.size (fun _ => True) v2 (mst pf gs hs).cs ∧ Below w.heap.size w w' := by
  have HA := Aside0.mk hA
  have HB := Aside0.mk hB
  have HLA := Aside0.mk hla
  have HLB := Aside0.mk hlb
  have HPA := Aside0.mk pa
  have HPB := Aside0.mk pb
  have IP := Aside0.mk infoP
  have IC := Aside0.mk infoC
  clear hA hB hla hlb pa pb
  have hmm : ∀ wq : World, Sem.run Tryd.prog (Instr.makeMap 178 none) wq = .ok (.map (some wq.heap.size)) (wq.alloc (.map #[] 0)) := fun _ => rfl
  go_enter Tryd.func84, Tryd.ntmps84
  go_wp2_with fail
  go_loopg [22] hs.length (fun kq v22 w' => ∃ i : Int, v22 = .int .i64 i ∧ Aside0 (∃ j : Nat, i = (j : Int) ∧ j + kq = hs.length ∧ Below w.heap.size w w' ∧ MapF w' w.heap.size j (mput_all pf (hs.take j))))
  case atStart => exact ⟨0, rfl, ⟨0, rfl, by omega, below_alloc (Below.refl _ _) _, MapF.made w⟩⟩
  case round =>
    obtain ⟨i, rfl, HJ⟩ := hrel
    by_cases hi : i < (hs.length : Int)
    · have q0 : decide (i < (hs.length : Int)) = true := decide_eq_true hi
      obtain ⟨j, hij, hjk, hB, hM⟩ := HJ.out
      have hjl : j < hs.length := by omega
      have hi0 : ((0 : Int) ≤ i) = True := eq_true (by omega)
      have hi1 : (i < (hs.length : Int)) = True := eq_true (by omega)
      obtain ⟨ab, eAb, hpt⟩ := at_pt (Kd.C_below HB.out hB) i (by omega) (by omega)
      subst eAb
      obtain ⟨h, hh⟩ : ∃ h, h = hs[i.toNat]'(by omega) := ⟨_, rfl⟩
      rw [← hh] at hpt
      have hhj : h = hs[j] := by rw [hh]; congr 1; omega
      obtain ⟨hsz, z0, z2, z3, hbk⟩ := HPB.out h (by rw [hhj]; exact List.getElem_mem hjl)
      have hp1 := (blk_cell ((hB.block h (blk_lt hbk)).trans hbk) 1).trans rfl
      have HSZ := Aside0.mk hsz
      have HM := Aside0.mk hM
      have HBR := Aside0.mk hB
      have HT : Aside0 (mput_all pf (hs.take (j + 1)) = mput pf (mput_all pf (hs.take j)) h) := ⟨by unfold mput_all; rw [foldl_take _ _ _ _ hjl, hhj]⟩
      obtain ⟨i1, hi1e⟩ : ∃ y : Int, wrap64 (i + 1) = y := ⟨_, rfl⟩
      have hi1w : IntKind.i64.wrap (i + 1) = i1 := (i64_w _).trans hi1e
      have HI1 := Aside0.mk (show i1 = ((j + 1 : Nat) : Int) by have := HLB.out; rw [← hi1e]; unfold wrap64; omega)
      have HJ2 := Aside0.mk (show j + gk = hs.length ∧ j < hs.length from ⟨hjk, hjl⟩)
      clear HJ hij hjk hjl hi hB hM hh hhj hsz hbk
      go_wp2_with (refine mapF_update rfl (.tmp 26) (.tmp 30) (.tmp 31) rfl w.heap.size j _ rfl HM.out (by have := HJ2.out; have := HLB.out; simp only [maxLen]; omega) (pf h) HSZ.out h rfl rfl ?_; intro w2 hm2 hg2; have HM2 := Aside0.mk hm2; have HB2 := Aside0.mk (Below.grown HBR.out hg2 HBR.out.size (fun k e => by injection e with e; omega)); clear hm2 hg2)
      go_roundg (gk - 1)
      case measure => have := HJ2.out; omega
      case rel => exact ⟨i1, rfl, ⟨j + 1, HI1.out, by have := HJ2.out; omega, HB2.out, by rw [HT.out]; exact HM2.out⟩⟩
    · have q0 : decide (i < (hs.length : Int)) = false := decide_eq_false hi
      obtain ⟨j, hij, hjk, hB, hM⟩ := HJ.out
      have hje : j = hs.length := by omega
      rw [hje, List.take_length] at hM
      obtain ⟨wm, hwm⟩ : ∃ wm, wm = wr := ⟨_, rfl⟩
      rw [← hwm] at hM hB ⊢
      have HM0 := Aside0.mk hM
      have HBM := Aside0.mk hB
      clear hij hjk hje hB hM HJ hi hwm
      go_wp2_with fail
      go_loopg [35, 9, 10] gs.length (fun kq v35 v9 v10 w' => ∃ i : Int, v35 = .int .i64 i ∧ Aside0 (∃ j : Nat, ∃ S : MS, i = (j : Int) ∧ j + kq = gs.length ∧ Below w.heap.size w w' ∧ S = (gs.take j).foldl (mstep pf) ⟨mput_all pf hs, [], []⟩ ∧ MapF w' w.heap.size hs.length S.f ∧ Kd.R kpt 137 w' w.heap.size (fun _ => True) v9 S.ds ∧ Kd.R kcf 148 w' w.heap.size (fun _ => True) v10 S.cs))
      case atStart => exact ⟨0, rfl, ⟨0, _, rfl, by omega, HBM.out, rfl, HM0.out, Kd.R_nil _ _ _ _ _, Kd.R_nil _ _ _ _ _⟩⟩
      case round =>
        clear q0
        obtain ⟨i, rfl, HJ⟩ := hrel
        by_cases hi : i < (gs.length : Int)
        · obtain ⟨j, S, hij, hjk, hB, hS, hM, hD, hC⟩ := HJ.out
          obtain ⟨A9, c9, e9⟩ := Kd.R_slice hD
          subst e9
          obtain ⟨A10, c10, e10⟩ := Kd.R_slice hC
          subst e10
          have q0 : decide (i < (gs.length : Int)) = true := decide_eq_true hi
          have hjl : j < gs.length := by omega
          have hi0 : ((0 : Int) ≤ i) = True := eq_true (by omega)
          have hi1 : (i < (gs.length : Int)) = True := eq_true (by omega)
          obtain ⟨ab, eAb, hpt⟩ := at_pt (Kd.C_below HA.out hB) i (by omega) (by omega)
          subst eAb
          obtain ⟨g, hh⟩ : ∃ h, h = gs[i.toNat]'(by omega) := ⟨_, rfl⟩
          rw [← hh] at hpt
          have hhj : g = gs[j] := by rw [hh]; congr 1; omega
          obtain ⟨hsz, z0, z2, z3, hbk⟩ := HPA.out g (by rw [hhj]; exact List.getElem_mem hjl)
          have hp1 := (blk_cell ((hB.block g (blk_lt hbk)).trans hbk) 1).trans rfl
          have HSZ := Aside0.mk hsz
          have HBK := Aside0.mk hbk
          have HBR := Aside0.mk hB
          obtain ⟨i1, hi1e⟩ : ∃ y : Int, wrap64 (i + 1) = y := ⟨_, rfl⟩
          have hi1w : IntKind.i64.wrap (i + 1) = i1 := (i64_w _).trans hi1e
          have HI1 := Aside0.mk (show i1 = ((j + 1 : Nat) : Int) by have := HLA.out; rw [← hi1e]; unfold wrap64; omega)
          have HJ2 := Aside0.mk (show j + gk = gs.length ∧ j < gs.length from ⟨hjk, hjl⟩)
          have HM := Aside0.mk hM
          have HD := Aside0.mk hD
          have HC := Aside0.mk hC
          have HCL : Aside0 (S.ds.length ≤ 10000 ∧ S.cs.length ≤ 10000) := ⟨by have h1 := mst_len pf hs (gs.take j); rw [← hS] at h1; have h2 := HLA.out; simp only [List.length_take] at h1; omega⟩
          cases hf : S.f (pf g) with
          | some h =>
            have HST := Aside0.mk (show (gs.take (j + 1)).foldl (mstep pf) ⟨mput_all pf hs, [], []⟩ = ⟨mdel pf S.f g, S.ds, S.cs ++ [(g, h)]⟩ by rw [foldl_take _ _ _ _ hjl, ← hS, ← hhj]; unfold mstep; rw [hf])
            have HF := Aside0.mk hf
            clear HJ hij hjk hjl hi hB hM hh hhj hsz hbk hS hD hC hf
            go_wp2_with (first
              | (refine mapF_hit rfl (.tmp 40) (.tmp 44) rfl w.heap.size hs.length S.f rfl HM.out (pf g) HSZ.out rfl h HF.out ?_)
              | (refine mapF_delete rfl (.tmp 59) (.tmp 63) rfl w.heap.size hs.length S.f rfl HMz.out (pf g) HSZ.out rfl ?_; intro w2 hm2 hg2; have HM2 := Aside0.mk hm2; have HB2 := Aside0.mk (Below.grown HBz.out hg2 HBz.out.size (fun k e => by injection e with e; omega)); have HD2 := Aside0.mk (Kd.R_map HDz.out HMz.out hg2); have HC2 := Aside0.mk (Kd.R_map HCz.out HMz.out hg2); clear hm2 hg2)
              | (at_builtin; refine Kd.R_append kcf (w0 := w) w.heap.size rfl (.tmp 49) (.tmp 53) 144 148 (.agg #[.pointer none, .pointer none]) 16 rfl Tryd.underlying144 IC.out rfl (by decide) (by decide) (.slice A10 S.cs.length c10) S.cs (g, h) [.pointer (some ⟨g, 0, none⟩), .pointer (some ⟨h, 0, none⟩)] (fun _ => True) (fun _ => False) rfl rfl ⟨[_], [_], rfl, rfl, rfl⟩ (fun _ hk => hk.elim) (fun _ _ => trivial) HC.out HBR.out HBR.out.size (by have := HCL.out; omega) ?_; intro v1 wz hR hb hg hat; have HCz := Aside0.mk hR; have HDz := Aside0.mk (Kd.R_over' HD.out (Kd.R_typed HC.out) (by decide) hg); have HMz := Aside0.mk (MapF.row HM.out (Kd.R_typed HC.out) hg); have hpz := (blk_cell ((hb.block g (blk_lt HBK.out)).trans HBK.out) 1).trans rfl; have HBz := Aside0.mk hb; clear hb hg hat hR))
            go_roundg (gk - 1)
            case measure => have := HJ2.out; omega
            case rel => exact ⟨i1, rfl, ⟨j + 1, _, HI1.out, by have := HJ2.out; omega, HB2.out, HST.out.symm, HM2.out, HD2.out, HC2.out⟩⟩
          | none =>
            have HST := Aside0.mk (show (gs.take (j + 1)).foldl (mstep pf) ⟨mput_all pf hs, [], []⟩ = ⟨mdel pf S.f g, S.ds ++ [g], S.cs⟩ by rw [foldl_take _ _ _ _ hjl, ← hS, ← hhj]; unfold mstep; rw [hf])
            have HF := Aside0.mk hf
            clear HJ hij hjk hjl hi hB hM hh hhj hsz hbk hS hD hC hf
            go_wp2_with (first
              | (refine mapF_miss rfl (.tmp 40) (.tmp 44) rfl w.heap.size hs.length S.f rfl HM.out (pf g) HSZ.out rfl HF.out ?_)
              | (refine mapF_delete rfl (.tmp 59) (.tmp 63) rfl w.heap.size hs.length S.f rfl HMz.out (pf g) HSZ.out rfl ?_; intro w2 hm2 hg2; have HM2 := Aside0.mk hm2; have HB2 := Aside0.mk (Below.grown HBz.out hg2 HBz.out.size (fun k e => by injection e with e; omega)); have HD2 := Aside0.mk (Kd.R_map HDz.out HMz.out hg2); have HC2 := Aside0.mk (Kd.R_map HCz.out HMz.out hg2); clear hm2 hg2)
              | (at_builtin; refine Kd.R_append kpt (w0 := w) w.heap.size rfl (.tmp 55) (.tmp 57) 134 137 (.pointer none) 8 rfl Tryd.underlying134 IP.out rfl (by decide) (by decide) (.slice A9 S.ds.length c9) S.ds g [.pointer (some ⟨g, 0, none⟩)] (fun _ => True) (fun _ => False) rfl rfl rfl (fun _ hk => hk.elim) (fun _ _ => trivial) HD.out HBR.out HBR.out.size (by have := HCL.out; omega) ?_; intro v1 wz hR hb hg hat; have HDz := Aside0.mk hR; have HCz := Aside0.mk (Kd.R_over' HC.out (Kd.R_typed HD.out) (by decide) hg); have HMz := Aside0.mk (MapF.row HM.out (Kd.R_typed HD.out) hg); have hpz := (blk_cell ((hb.block g (blk_lt HBK.out)).trans HBK.out) 1).trans rfl; have HBz := Aside0.mk hb; clear hb hg hat hR))
            go_roundg (gk - 1)
            case measure => have := HJ2.out; omega
            case rel => exact ⟨i1, rfl, ⟨j + 1, _, HI1.out, by have := HJ2.out; omega, HB2.out, HST.out.symm, HM2.out, HD2.out, HC2.out⟩⟩
        · have q0 : decide (i < (gs.length : Int)) = false := decide_eq_false hi
          obtain ⟨j, S, hij, hjk, hB, hS, hM, hD, hC⟩ := HJ.out
          have hje : j = gs.length := by omega
          rw [hje, List.take_length] at hS
          have HS : Aside0 (S = mst pf gs hs) := ⟨hS⟩
          have hST := mst_len pf hs gs
          rw [← hS] at hST
          have HSL := Aside0.mk hST
          obtain ⟨wn, hwn⟩ : ∃ wn, wn = wr := ⟨_, rfl⟩
          rw [← hwn] at hM hB hD hC ⊢
          obtain ⟨A10, c10, e10⟩ := Kd.R_slice hC
          subst e10
          have HM := Aside0.mk hM
          have HBN := Aside0.mk hB
          have HD := Aside0.mk hD
          have HC := Aside0.mk hC
          clear hij hjk hje hB hS hM hD hC HJ hi hwn hST
          go_wp2_with fail
          go_loopg [67, 9] hs.length (fun kq v67 v9 w' => ∃ i : Int, v67 = .int .i64 i ∧ Aside0 (∃ j : Nat, ∃ ds : List Nat, i = (j : Int) ∧ j + kq = hs.length ∧ Below w.heap.size w w' ∧ ds = (hs.take j).foldl (mlast pf S.f) S.ds ∧ MapF w' w.heap.size hs.length S.f ∧ Kd.R kpt 137 w' w.heap.size (fun _ => True) v9 ds ∧ Kd.R kcf 148 w' w.heap.size (fun _ => True) (.slice A10 S.cs.length c10) S.cs))
          case atStart => exact ⟨0, rfl, ⟨0, _, rfl, by omega, HBN.out, rfl, HM.out, HD.out, HC.out⟩⟩
          case round =>
            clear q0 HM HD HC
            obtain ⟨i, rfl, HJ⟩ := hrel
            by_cases hi : i < (hs.length : Int)
            · obtain ⟨j, ds, hij, hjk, hB, hS, hM, hD, hC⟩ := HJ.out
              obtain ⟨A9, c9, e9⟩ := Kd.R_slice hD
              subst e9
              have q0 : decide (i < (hs.length : Int)) = true := decide_eq_true hi
              have hjl : j < hs.length := by omega
              have hi0 : ((0 : Int) ≤ i) = True := eq_true (by omega)
              have hi1 : (i < (hs.length : Int)) = True := eq_true (by omega)
              obtain ⟨ab, eAb, hpt⟩ := at_pt (Kd.C_below HB.out hB) i (by omega) (by omega)
              subst eAb
              obtain ⟨g, hh⟩ : ∃ h, h = hs[i.toNat]'(by omega) := ⟨_, rfl⟩
              rw [← hh] at hpt
              have hhj : g = hs[j] := by rw [hh]; congr 1; omega
              obtain ⟨hsz, z0, z2, z3, hbk⟩ := HPB.out g (by rw [hhj]; exact List.getElem_mem hjl)
              have hp1 := (blk_cell ((hB.block g (blk_lt hbk)).trans hbk) 1).trans rfl
              have HSZ := Aside0.mk hsz
              have HBK := Aside0.mk hbk
              have HBR := Aside0.mk hB
              obtain ⟨i1, hi1e⟩ : ∃ y : Int, wrap64 (i + 1) = y := ⟨_, rfl⟩
              have hi1w : IntKind.i64.wrap (i + 1) = i1 := (i64_w _).trans hi1e
              have HI1 := Aside0.mk (show i1 = ((j + 1 : Nat) : Int) by have := HLB.out; rw [← hi1e]; unfold wrap64; omega)
              have HJ2 := Aside0.mk (show j + gk = hs.length ∧ j < hs.length from ⟨hjk, hjl⟩)
              have HM := Aside0.mk hM
              have HD := Aside0.mk hD
              have HC := Aside0.mk hC
              have HCL : Aside0 (ds.length ≤ 20000) := ⟨by have h1 := mlast_len pf S.f (hs.take j) S.ds; rw [← hS] at h1; have h2 := HLB.out; have h3 := HSL.out.1; have h4 := HLA.out; simp only [List.length_take] at h1; omega⟩
              cases hf : S.f (pf g) with
              | some h =>
                have HST := Aside0.mk (show (hs.take (j + 1)).foldl (mlast pf S.f) S.ds = ds ++ [g] by rw [foldl_take _ _ _ _ hjl, ← hS, ← hhj]; unfold mlast; rw [hf])
                have HF := Aside0.mk hf
                clear HJ hij hjk hjl hi hB hM hh hhj hsz hbk hS hD hC hf
                go_wp2_with (first
                  | (refine mapF_hit rfl (.tmp 72) (.tmp 76) rfl w.heap.size hs.length S.f rfl HM.out (pf g) HSZ.out rfl h HF.out ?_)
                  | (at_builtin; refine Kd.R_append kpt (w0 := w) w.heap.size rfl (.tmp 81) (.tmp 83) 134 137 (.pointer none) 8 rfl Tryd.underlying134 IP.out rfl (by decide) (by decide) (.slice A9 ds.length c9) ds g [.pointer (some ⟨g, 0, none⟩)] (fun _ => True) (fun _ => False) rfl rfl rfl (fun _ hk => hk.elim) (fun _ _ => trivial) HD.out HBR.out HBR.out.size (by have := HCL.out; omega) ?_; intro v1 wz hR hb hg hat; have HDz := Aside0.mk hR; have HCz := Aside0.mk (Kd.R_over' HC.out (Kd.R_typed HD.out) (by decide) hg); have HMz := Aside0.mk (MapF.row HM.out (Kd.R_typed HD.out) hg); have HBz := Aside0.mk hb; clear hb hg hat hR))
                go_roundg (gk - 1)
                case measure => have := HJ2.out; omega
                case rel => exact ⟨i1, rfl, ⟨j + 1, _, HI1.out, by have := HJ2.out; omega, HBz.out, HST.out.symm, HMz.out, HDz.out, HCz.out⟩⟩
              | none =>
                have HST := Aside0.mk (show (hs.take (j + 1)).foldl (mlast pf S.f) S.ds = ds by rw [foldl_take _ _ _ _ hjl, ← hS, ← hhj]; unfold mlast; rw [hf])
                have HF := Aside0.mk hf
                clear HJ hij hjk hjl hi hB hM hh hhj hsz hbk hS hD hC hf
                go_wp2_with (first
                  | (refine mapF_miss rfl (.tmp 72) (.tmp 76) rfl w.heap.size hs.length S.f rfl HM.out (pf g) HSZ.out rfl HF.out ?_)
                  | fail)
                go_roundg (gk - 1)
                case measure => have := HJ2.out; omega
                case rel => exact ⟨i1, rfl, ⟨j + 1, _, HI1.out, by have := HJ2.out; omega, HBR.out, HST.out.symm, HM.out, HD.out, HC.out⟩⟩
            · have q0 : decide (i < (hs.length : Int)) = false := decide_eq_false hi
              obtain ⟨j, ds, hij, hjk, hB, hS, hM, hD, hC⟩ := HJ.out
              have hje : j = hs.length := by omega
              rw [hje, List.take_length] at hS
              obtain ⟨A9, c9, e9⟩ := Kd.R_slice hD
              subst e9
              have HDS : Aside0 (ds = mds pf gs hs ∧ S.cs = (mst pf gs hs).cs) := ⟨by rw [hS, HS.out]; exact ⟨rfl, rfl⟩⟩
              have HBR := Aside0.mk hB
              have HD := Aside0.mk hD
              have HC := Aside0.mk hC
              clear hij hjk hje hB hS hM hD hC HJ hi
              go_wp2_with fail
              refine bodyPost_ret (results_tmp2 rfl _ _ _) rfl ?_
              refine ⟨_, _, rfl, ?_, ?_, HBR.out⟩
              · rw [← HDS.out.1]; exact HD.out
              · rw [← HDS.out.2]; exact HC.out
end Go.Proofs.YtnhnlodmkbiiiaaDoor.HandDif
