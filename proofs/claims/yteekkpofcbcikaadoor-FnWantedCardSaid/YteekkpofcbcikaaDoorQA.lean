/- Several texts of this claim, joined. -/
import Derived.Test.YteekkpofcbcikaaDoorK3
import Derived.Lib.BytesEntry
import Derived.Laws.Externs
import Derived.Lib.Bytealg
/- The comparison of bytes; what spec.Wanted calls. -/
section
namespace Go.Proofs.YteekkpofcbcikaaDoor.HandWan
open Go Go.RowKit Go.Proofs.YteekkpofcbcikaaDoorL Go.Proofs.YteekkpofcbcikaaDoorW.PrintWords Go.Proofs.YteekkpofcbcikaaDoorW.PrintLast Go.Proofs.YteekkpofcbcikaaDoorW.PrintMore Go.Proofs.YteekkpofcbcikaaDoor.PWan
attribute [local go_sem] max2_int min2_int max_two min_two max_three min_three max_four min_four
set_option linter.unusedVariables false
set_option linter.unusedSimpArgs false
/-! What spec.Wanted calls: the comparison of bytes; the places of identifiers. -/
open Go.Lib in
theorem bytesOf_row {w : World} {A : Option Addr} {c : Nat} {l : List Int} (h : Kd.C (Kd.int .u8) w A l.length l) : (Extern.Bytes.bytesOf (.slice A l.length c)).run Tryd.prog w = .ok ⟨(Lib.bytesOf l).toArray⟩ w := by
  cases A with
  | none =>
    obtain ⟨_, _, h3⟩ := h
    have e : l = [] := by
      by_cases hl : 0 < l.length
      · obtain ⟨a, ha, _⟩ := h3 hl
        cases ha
      · exact List.eq_nil_of_length_eq_zero (by omega)
    subst e
    rfl
  | some a =>
    have hl := run_loadBytesX (P := Tryd.prog) w l a .empty (fun j x hj => by
      obtain ⟨_, _, h3⟩ := h
      have hjl : j < l.length := (List.getElem?_eq_some_iff.1 hj).1
      obtain ⟨a', ha', h4⟩ := h3 (by omega)
      cases ha'
      obtain ⟨cs, h5, h6, h7⟩ := h4 j x hj
      have h8 : cs = [.int .u8 x] := h6
      subst h8
      have h9 := h7 0 _ rfl
      have e1 : j * (Kd.int .u8).sz + 0 = j := by show j * 1 + 0 = j; omega
      rw [e1] at h9
      exact h9)
    have he : (⟨ByteArray.empty.data ++ (Lib.bytesOf l).toArray⟩ : ByteArray) = ⟨(Lib.bytesOf l).toArray⟩ := by
      apply ByteArray.ext
      show (#[] : Array UInt8) ++ (Lib.bytesOf l).toArray = (Lib.bytesOf l).toArray
      simp
    rw [he] at hl
    exact hl
/-- How two rows of bytes compare. -/
def cmpI (x y : List Int) : Int := Extern.BytealgCompare.cmp ⟨(Lib.bytesOf x).toArray⟩ ⟨(Lib.bytesOf y).toArray⟩
theorem bytealg_run {w : World} {A0 A1 : Option Addr} {c0 c1 : Nat} {l0 l1 : List Int} (h0 : Kd.C (Kd.int .u8) w A0 l0.length l0) (h1 : Kd.C (Kd.int .u8) w A1 l1.length l1) : (callFunc 83 #[.slice A0 l0.length c0, .slice A1 l1.length c1]).run Tryd.prog w = .ok (.value (.int .i64 (cmpI l0 l1))) w := by
  have hx : (Extern.BytealgCompare.compare #[.slice A0 l0.length c0, .slice A1 l1.length c1]).run Tryd.prog w = .ok (.int .i64 (cmpI l0 l1)) w := by
    change Sem.run Tryd.prog (do
      let a ← Extern.Bytes.bytesOf (.slice A0 l0.length c0)
      let b ← Extern.Bytes.bytesOf (.slice A1 l1.length c1)
      pure (goInt (Extern.BytealgCompare.cmp a b))) w = _
    simp only [Sem.run_bind, bytesOf_row h0, bytesOf_row h1, Result.andThen, Sem.run_pure]
    rfl
  rw [run_callFunc_extern (e := Extern.BytealgCompare.compare) Tryd.func83 (by kernel_rfl) (by kernel_rfl) (by kernel_rfl) (by kernel_rfl), hx]
  rfl
theorem compare_calls (A0 A1 : Option Addr) (c0 c1 : Nat) (l0 l1 : List Int) (w : World) (h0 : Kd.C (Kd.int .u8) w A0 l0.length l0) (h1 : Kd.C (Kd.int .u8) w A1 l1.length l1) : Calls Tryd.prog 49 #[.slice A0 l0.length c0, .slice A1 l1.length c1] w fun e w' => e = .returned (.int .i64 (cmpI l0 l1)) ∧ w' = w := by
  have hr := bytealg_run (c0 := c0) (c1 := c1) h0 h1
  generalize cmpI l0 l1 = r at hr ⊢
  clear h0 h1
  go_enter Tryd.func49, Tryd.ntmps49
  go_wp2_with fail
  go_ret
  exact ⟨rfl, rfl⟩
end Go.Proofs.YteekkpofcbcikaaDoor.HandWan
end
/- The places of identifiers in a row of entries. -/
section
namespace Go.Proofs.YteekkpofcbcikaaDoor.HandWan
open Go Go.RowKit Go.Proofs.YteekkpofcbcikaaDoorL Go.Proofs.YteekkpofcbcikaaDoorW.PrintWords Go.Proofs.YteekkpofcbcikaaDoorW.PrintLast Go.Proofs.YteekkpofcbcikaaDoorW.PrintMore Go.Proofs.YteekkpofcbcikaaDoor.PWan
attribute [local go_sem] max2_int min2_int max_two min_two max_three min_three max_four min_four
set_option linter.unusedVariables false
set_option linter.unusedSimpArgs false
/-! The places of identifiers in a row of entries. -/
def eqB (x y : List Int) : Bool := (strOfNums x).toList == (strOfNums y).toList
def fI : List S27 → List Int → Nat → Int
  | [], _, _ => -1
  | x :: l, ys, k => if eqB x.f0 ys = true then (k : Int) else fI l ys (k + 1)
theorem fI_step (l : List S27) (ys : List Int) (j : Nat) (hj : j < l.length) (hn : eqB l[j].f0 ys = false) : fI (l.drop j) ys j = fI (l.drop (j + 1)) ys (j + 1) := by
  rw [List.drop_eq_getElem_cons hj]
  show (if eqB l[j].f0 ys = true then (j : Int) else fI (l.drop (j + 1)) ys (j + 1)) = _
  rw [if_neg (by rw [hn]; decide)]
theorem fI_hit (l : List S27) (ys : List Int) (j : Nat) (hj : j < l.length) (hn : eqB l[j].f0 ys = true) : fI (l.drop j) ys j = (j : Int) := by
  rw [List.drop_eq_getElem_cons hj]
  show (if eqB l[j].f0 ys = true then (j : Int) else fI (l.drop (j + 1)) ys (j + 1)) = _
  rw [if_pos hn]
theorem rd27_eq (l : List S27) (j : Nat) (hj : j < l.length) : rd_T27 l (j : Int) = l[j] := by
  unfold rd_T27
  rw [Int.toNat_natCast, List.getD_eq_getElem?_getD, List.getElem?_eq_getElem hj]
  rfl
theorem find1_calls (xs : List Int) (p : Int) (b : Bool) (A B : Option Addr) (c d : Nat) (ys : List Int) (gc : Nat) (w : World) (hb : w.heap[gc]? = some (.cells #[.slice B ys.length d] 24 (0, 0))) (h0 : Kd.C (Kd.int .u8) w A xs.length xs) (hc : xs.length ≤ c) (h1 : Kd.C (Kd.int .u8) w B ys.length ys) (hd : ys.length ≤ d) :
    Calls Tryd.prog 81 #[.agg #[.slice A xs.length c, .int .i32 p, .bool b], .pointer (some ⟨gc, 0, none⟩)] w fun e w' => e = .returned (.bool (eqB xs ys)) ∧ Below w.heap.size w w' := by
  obtain ⟨wo, hwo⟩ : ∃ wo, wo = w.alloc (.cells #[.slice A xs.length c, .int .i32 p, .bool b] 27 (0, 0)) := ⟨_, rfl⟩
  have H0 := Aside0.mk (Kd.C_alloc h0 (.cells #[.slice A xs.length c, .int .i32 p, .bool b] 27 (0, 0)))
  have H1 := Aside0.mk (Kd.C_alloc h1 (.cells #[.slice A xs.length c, .int .i32 p, .bool b] 27 (0, 0)))
  have HC := Aside0.mk hc
  have HD := Aside0.mk hd
  have hg := blk_lt hb
  have hcell : (w.alloc (.cells #[.slice A xs.length c, .int .i32 p, .bool b] 27 (0, 0))).cell? ⟨gc, 0, none⟩ = some (.slice B ys.length d) := (blk_cell ((below_alloc (Below.refl w.heap.size w) _).block _ hg |>.trans hb) 0).trans rfl
  clear h0 h1 hc hd hb hg hwo
  go_enter Tryd.func81, Tryd.ntmps81
  go_wp2_with (go_at_call 28; refine (bytes_Equal.calls A c xs B d ys (eqB xs ys) _ H0.out HC.out H1.out HD.out rfl).mono ?_; rintro e w1 ⟨rfl, hdr⟩; have HB1 := Aside0.mk (hdr.below); clear hdr)
  go_ret
  exact ⟨rfl, below_step (below_alloc (Below.refl _ _) _) HB1.out⟩
theorem index_calls (l : List S27) (ys : List Int) (A B : Option Addr) (c d : Nat) (gc : Nat) (w : World) (h0 : Kd.C k27 w A l.length l) (hl : l.length ≤ 1000) (hb : w.heap[gc]? = some (.cells #[.slice B ys.length d] 24 (0, 0))) (h1 : Kd.C (Kd.int .u8) w B ys.length ys) (hd : ys.length ≤ d) :
    Calls Tryd.prog 80 #[.slice A l.length c, .func (.func 81) #[] #[.pointer (some ⟨gc, 0, none⟩)]] w fun e w' => e = .returned (.int .i64 (fI l ys 0)) ∧ Below w.heap.size w w' := by
  have HC := Aside0.mk h0
  have HL := Aside0.mk hl
  have HB := Aside0.mk hb
  have H1 := Aside0.mk h1
  have HD := Aside0.mk hd
  have HG := Aside0.mk (blk_lt hb)
  clear h0 hl hb h1 hd
  go_enter Tryd.func80, Tryd.ntmps80
  go_wp2_with fail
  go_loopg [5, 8] l.length (fun kq v5 v8 w' => ∃ i : Int, v8 = .int .i64 i ∧ Aside0 (∃ j : Nat, i = (j : Int) ∧ j + kq = l.length ∧ Below w.heap.size w w' ∧ fI l ys 0 = fI (l.drop j) ys j))
  case atStart => exact ⟨0, rfl, ⟨0, rfl, by omega, Below.refl _ _, rfl⟩⟩
  case round =>
    obtain ⟨i, rfl, HJ⟩ := hrel
    by_cases hi : i < (l.length : Int)
    · have q0 : decide (i < (l.length : Int)) = true := decide_eq_true hi
      obtain ⟨j, hij, hjk, hB, hF⟩ := HJ.out
      have hjl : j < l.length := by omega
      have hi0 : ((0 : Int) ≤ i) = True := eq_true (by omega)
      have hi1 : (i < (l.length : Int)) = True := eq_true (by omega)
      obtain ⟨ad, A1, c1, eA, hx0, hx1, hx2, hl1, hr1⟩ := at_T27 (Kd.C_below HC.out hB) i (by omega) (by omega)
      subst eA
      rw [show rd_T27 l i = l[j] by rw [hij, rd27_eq l j hjl]] at hx0 hx1 hx2 hl1 hr1
      obtain ⟨x, hxx⟩ : ∃ x, x = l[j] := ⟨_, rfl⟩
      rw [← hxx] at hx0 hx1 hx2 hl1 hr1
      have HBB := Aside0.mk hB
      have HF := Aside0.mk hF
      have hbg := (hB.block _ HG.out).trans HB.out
      have HCC := Aside0.mk (find1_calls x.f0 x.f1 x.f2 A1 B c1 d ys gc wr hbg hr1 hl1 (Kd.C_below H1.out hB) HD.out)
      clear hbg hl1 hr1 hB hF
      have HXX : Aside0 (∃ h : j < l.length, x = l[j]'h) := ⟨⟨hjl, hxx⟩⟩
      obtain ⟨i1, hi1e⟩ : ∃ y : Int, wrap64 (i + 1) = y := ⟨_, rfl⟩
      have hi1w : IntKind.i64.wrap (i + 1) = i1 := (i64_w _).trans hi1e
      have HI1 := Aside0.mk (show i1 = i + 1 by rw [← hi1e]; have := HL.out; unfold wrap64; omega)
      have HIJ := Aside0.mk hij
      have HJL := Aside0.mk hjl
      have HJK := Aside0.mk hjk
      clear hij hjl hjk hi hxx HJ
      cases hq : eqB x.f0 ys with
      | true =>
        rw [hq] at HCC
        go_wp2_with (go_at_call 81; refine HCC.out.mono ?_; rintro e w1 ⟨rfl, hb1⟩; have HB1 := Aside0.mk hb1; clear hb1)
        go_ret
        refine ⟨?_, below_step HBB.out HB1.out⟩
        obtain ⟨hj, hx⟩ := HXX.out
        rw [HF.out, fI_hit l ys j hj (by rw [← hx]; exact hq), HIJ.out]
        rfl
      | false =>
        rw [hq] at HCC
        go_wp2_with (go_at_call 81; refine HCC.out.mono ?_; rintro e w1 ⟨rfl, hb1⟩; have HB1 := Aside0.mk hb1; clear hb1)
        go_roundg (l.length - (j + 1))
        case measure => have := HJL.out; have := HJK.out; omega
        case rel =>
          obtain ⟨hj, hx⟩ := HXX.out
          exact ⟨i1, rfl, ⟨j + 1, by rw [HI1.out, HIJ.out]; omega, by omega, below_step HBB.out HB1.out, by rw [HF.out, fI_step l ys j hj (by rw [← hx]; exact hq)]⟩⟩
    · have q0 : decide (i < (l.length : Int)) = false := decide_eq_false hi
      obtain ⟨j, hij, hjk, hB, hF⟩ := HJ.out
      have HN := Aside0.mk (show fI l ys 0 = -1 by rw [hF, List.drop_eq_nil_of_le (by omega)]; rfl)
      have HBB := Aside0.mk hB
      clear hij hjk hB hF HJ hi
      go_wp2_with fail
      go_ret
      exact ⟨by rw [HN.out]; rfl, HBB.out⟩
theorem find_calls (l : List S27) (ys : List Int) (A B : Option Addr) (c d : Nat) (w : World) (h0 : Kd.C k27 w A l.length l) (hl : l.length ≤ 1000) (h1 : Kd.C (Kd.int .u8) w B ys.length ys) (hd : ys.length ≤ d) :
    Calls Tryd.prog 43 #[.slice A l.length c, .slice B ys.length d] w fun e w' => e = .returned (.int .i64 (fI l ys 0)) ∧ Below w.heap.size w w' := by
  have HC := Aside0.mk (index_calls l ys A B c d w.heap.size (w.alloc (.cells #[.slice B ys.length d] 24 (0, 0))) (Kd.C_alloc h0 _) hl (blk_new w _) (Kd.C_alloc h1 _) hd)
  clear h0 hl h1 hd
  generalize fI l ys 0 = r at HC ⊢
  go_enter Tryd.func43, Tryd.ntmps43
  go_wp2_with (go_at_call 80; refine HC.out.mono ?_; rintro e w1 ⟨rfl, hb⟩; have HB := Aside0.mk hb; clear hb)
  go_ret
  exact ⟨rfl, below_step (below_alloc (Below.refl _ _) _) HB.out⟩
end Go.Proofs.YteekkpofcbcikaaDoor.HandWan
end
/- The comparison that spec.Wanted hands to slices.SortFunc. -/
section
namespace Go.Proofs.YteekkpofcbcikaaDoor.HandWan
open Go Go.RowKit Go.Proofs.YteekkpofcbcikaaDoorL Go.Proofs.YteekkpofcbcikaaDoorW.PrintWords Go.Proofs.YteekkpofcbcikaaDoorW.PrintLast Go.Proofs.YteekkpofcbcikaaDoorW.PrintMore Go.Proofs.YteekkpofcbcikaaDoor.PWan
attribute [local go_sem] max2_int min2_int max_two min_two max_three min_three max_four min_four
set_option linter.unusedVariables false
set_option linter.unusedSimpArgs false
/-! The comparison that spec.Wanted hands to slices.SortFunc. -/
theorem cmp_calls (xs ys : List Int) (p q : Int) (b d : Bool) (A B : Option Addr) (c e : Nat) (w : World) (h0 : Kd.C (Kd.int .u8) w A xs.length xs) (h1 : Kd.C (Kd.int .u8) w B ys.length ys) :
    Calls Tryd.prog 48 #[.agg #[.slice A xs.length c, .int .i32 p, .bool b], .agg #[.slice B ys.length e, .int .i32 q, .bool d]] w fun r w' => r = .returned (.int .i64 (cmpI xs ys)) ∧ w' = (w.alloc (.cells #[.slice A xs.length c, .int .i32 p, .bool b] 27 (0, 0))).alloc (.cells #[.slice B ys.length e, .int .i32 q, .bool d] 27 (0, 0)) := by
  have HC := Aside0.mk (compare_calls A B c e xs ys ((w.alloc (.cells #[.slice A xs.length c, .int .i32 p, .bool b] 27 (0, 0))).alloc (.cells #[.slice B ys.length e, .int .i32 q, .bool d] 27 (0, 0))) (Kd.C_alloc (Kd.C_alloc h0 _) _) (Kd.C_alloc (Kd.C_alloc h1 _) _))
  clear h0 h1
  generalize cmpI xs ys = r at HC ⊢
  go_enter Tryd.func48, Tryd.ntmps48
  go_wp2_with (go_at_call 49; refine HC.out.mono ?_; rintro e w1 ⟨rfl, rfl⟩)
  go_ret
  exact ⟨rfl, rfl⟩
end Go.Proofs.YteekkpofcbcikaaDoor.HandWan
end
/- slices.Clone at entries. -/
section
namespace Go.Proofs.YteekkpofcbcikaaDoor.HandWan
open Go Go.RowKit Go.Proofs.YteekkpofcbcikaaDoorL Go.Proofs.YteekkpofcbcikaaDoorW.PrintWords Go.Proofs.YteekkpofcbcikaaDoorW.PrintLast Go.Proofs.YteekkpofcbcikaaDoorW.PrintMore Go.Proofs.YteekkpofcbcikaaDoor.PWan
attribute [local go_sem] max2_int min2_int max_two min_two max_three min_three max_four min_four
set_option linter.unusedVariables false
set_option linter.unusedSimpArgs false
/-! slices.Clone at entries. -/
theorem cl_none {w : World} {l : List S27} (h : Kd.C k27 w none l.length l) : l = [] := by
  rcases Nat.eq_zero_or_pos l.length with h0 | h0
  · exact List.eq_nil_of_length_eq_zero h0
  · obtain ⟨ad, e, _⟩ := h.2.2 h0
    exact absurd e (by simp)
theorem clone_calls (A : Option Addr) (c : Nat) (l : List S27) (w : World) (h0 : Kd.C k27 w A l.length l) (hl : l.length ≤ 1000) :
    Calls Tryd.prog 46 #[.slice A l.length c] w fun e w' => ∃ v, e = .returned v ∧ Kd.N k27 27 w' w.heap.size (fun _ => True) v l ∧ Below w.heap.size w w' := by
  have qs : ∀ (w : World) (a : Option Addr) (n c n' c' : Nat), (binOp .eql 34 (.slice a n c) (.slice none n' c')).run Tryd.prog w = .ok (.bool a.isNone) w := fun w a n c n' c' => Lib.run_eql_slice_nil w _ _ a n c n' c' Tryd.underlying34
  have HB := Aside0.mk (Below.refl w.heap.size w)
  have HR0 := Aside0.mk h0
  have HL := Aside0.mk hl
  clear h0 hl
  cases A with
  | none =>
    have e0 := cl_none HR0.out
    subst e0
    clear HR0 HL
    go_enter Tryd.func46, Tryd.ntmps46
    go_wp2
    go_ret
    exact ⟨_, rfl, Kd.N_nil _ _ _ _ _, HB.out⟩
  | some a =>
    have HF := Aside0.mk (Kd.F_alloc (Kd.C_F k27_heap HR0.out) (.cells #[] 27 (0, 0)))
    obtain ⟨i0, hi, hz0, hz1, hz2⟩ := info_parts info27e
    have z27s : ∀ w, Sem.run Tryd.prog (Go.sizeOf 27) w = .ok 3 w := fun w => by simp [Go.sizeOf, typeInfo, hi, hz1]
    clear hi hz0 hz1 hz2
    go_enter Tryd.func46, Tryd.ntmps46
    go_wp2_with (at_builtin; refine Kd.N_append_rows k27 (w0 := w) w.heap.size rfl (.tmp 5) (.tmp 6) 34 27 (.agg #[.slice none 0 0, .int .i32 0, .bool false]) 32 rfl Tryd.underlying34 info27e rfl (by decide) (by decide) _ [] l (some a) l.length c (fun _ => True) (fun k => k < w.heap.size) rfl rfl ?aO ?aR ?aM (fun _ _ => trivial) ?aB ?aS ?aL ?_)
    case aO => exact Kd.R_N ⟨fun _ _ => trivial, [], World.ownsRow_made w #[] 0 (Nat.le_refl _) (Nat.zero_le _) rfl, Reps.none _ _⟩
    case aR => exact HF.out
    case aM => exact fun k hk => ⟨trivial, fun e => by have h2 : k = w.heap.size := Option.some.inj e; omega⟩
    case aB => exact below_alloc HB.out _
    case aS => exact below_size (below_alloc HB.out _)
    case aL => have := HL.out; simp only [List.length_nil]; omega
    intro v1 w1 hR hb hg hat
    have HR1 := Aside0.mk hR
    have HB1 := Aside0.mk hb
    clear hR hb hg hat
    go_wp2_with fail
    go_ret
    exact ⟨_, rfl, HR1.out, HB1.out⟩
end Go.Proofs.YteekkpofcbcikaaDoor.HandWan
end
/- The order of names. -/
section
namespace Go.Proofs.YteekkpofcbcikaaDoor.HandWan
open Go Go.RowKit Go.Proofs.YteekkpofcbcikaaDoorL Go.Proofs.YteekkpofcbcikaaDoorW.PrintWords Go.Proofs.YteekkpofcbcikaaDoorW.PrintLast Go.Proofs.YteekkpofcbcikaaDoorW.PrintMore Go.Proofs.YteekkpofcbcikaaDoor.PWan
attribute [local go_sem] max2_int min2_int max_two min_two max_three min_three max_four min_four
set_option linter.unusedVariables false
set_option linter.unusedSimpArgs false
/-! The order of names. -/
theorem cb_lt : ∀ a b : List UInt8, Lib.compareBytes a b < 0 ↔ a < b
  | [], [] => by simp [Lib.compareBytes]
  | [], _ :: _ => by simp [Lib.compareBytes]
  | _ :: _, [] => by simp [Lib.compareBytes]
  | x :: a, y :: b => by
    rw [List.cons_lt_cons_iff]
    unfold Lib.compareBytes
    by_cases h1 : x < y
    · simp [h1]
    · by_cases h2 : y < x
      · have h3 : x ≠ y := fun e => by subst e; exact h1 h2
        simp [h1, h2, h3]
      · have h3 : x = y := UInt8.le_antisymm (UInt8.not_lt.1 h2) (UInt8.not_lt.1 h1)
        subst h3
        simp [h1, cb_lt a b]
theorem cmpI_lt (x y : List Int) : cmpI x y < 0 ↔ Lib.bytesOf x < Lib.bytesOf y := by
  unfold cmpI
  rw [Lib.cmp_eq]
  exact cb_lt _ _
end Go.Proofs.YteekkpofcbcikaaDoor.HandWan
end
