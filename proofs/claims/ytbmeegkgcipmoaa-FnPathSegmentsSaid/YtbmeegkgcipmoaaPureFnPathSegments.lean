/- FnPathSegments: the segments of any text, and whether it is just a key, are those of the reference. -/
import Derived.Test.YtbmeegkgcipmoaaPFnPathSegmentsx8
import Derived.Lib.JoinSame2
namespace Go.Proofs.Ytbmeegkgcipmoaa.Pure
open Go.RowKit Go.Proofs.Ytbmeegkgcipmoaa.PFnPathSegments Go.Proofs.YtbmeegkgcipmoaaW.PrintWords Go.Proofs.YtbmeegkgcipmoaaW.PrintLast Go.Proofs.YtbmeegkgcipmoaaW.PrintMore

/-! bytes -/
theorem wrap64_id {x : Int} (h0 : -9223372036854775808 ≤ x) (h1 : x ≤ 9223372036854775807) : wrap64 x = x := by unfold wrap64; omega
theorem wsucc (j : Nat) (h : j < 9223372036854775807) : wrap64 ((j : Int) + 1) = ((j + 1 : Nat) : Int) := by rw [wrap64_id (by omega) (by omega)]; omega
theorem wpred (j : Nat) (h : j < 9223372036854775807) : wrap64 (((j + 1 : Nat) : Int) - 1) = (j : Int) := by rw [wrap64_id (by omega) (by omega)]; omega
def ofB (l : List UInt8) : ByteArray := ⟨l.toArray⟩
theorem ofB_data (l : List UInt8) : (ofB l).data.toList = l := by simp [ofB]
theorem ofB_list (l : List UInt8) : (ofB l).toList = l := by rw [Go.ByteArray.toList_eq, ofB_data]
theorem ofB_size (l : List UInt8) : (ofB l).size = l.length := by simp [ofB, ByteArray.size]
theorem eq_ofB (s : ByteArray) : s = ofB s.data.toList := by cases s; simp [ofB]
theorem size_len (s : ByteArray) : s.size = s.data.toList.length := rfl
theorem ofB_extract (l : List UInt8) (i j : Nat) : (ofB l).extract i j = ofB ((l.drop i).take (j - i)) := by
  rw [eq_ofB ((ofB l).extract i j), Go.Lib.extract_data, ofB_data]
theorem ofB_append (a b : List UInt8) : ofB a ++ ofB b = ofB (a ++ b) := by
  rw [eq_ofB (ofB a ++ ofB b), ByteArray.data_append, Array.toList_append, ofB_data, ofB_data]
theorem rdOf_ofB (X : List (List UInt8)) (i : Nat) (h : i < X.length) : rdOf ByteArray.empty (X.map ofB) (i : Int) = ofB X[i] := by
  unfold rdOf
  rw [Int.toNat_natCast, List.getD_eq_getElem?_getD, List.getElem?_map, List.getElem?_eq_getElem h]
  rfl
theorem drop_cons {α : Type} {xs : List α} {i : Nat} {t : α} {ts : List α} (h : xs.drop i = t :: ts) : ∃ hl : i < xs.length, xs[i] = t ∧ xs.drop (i + 1) = ts := by
  have hlt : i < xs.length := by
    rcases Nat.lt_or_ge i xs.length with h1 | h1
    · exact h1
    · rw [List.drop_eq_nil_of_le h1] at h; exact absurd h (by simp)
  rw [List.drop_eq_getElem_cons hlt] at h
  exact ⟨hlt, (List.cons.inj h).1, (List.cons.inj h).2⟩
def sl : ByteArray := ⟨#[47]⟩
theorem sl_ofB : sl = ofB [47] := rfl
theorem sl_size : ((⟨#[47]⟩ : ByteArray).size : Int) = 1 := rfl
theorem sl_list : (⟨#[47]⟩ : ByteArray).toList = [47] := ofB_list [47]

/-! splitting -/
open Go.Lib.Pa
def fi : List UInt8 → Option Nat
  | [] => none
  | c :: t => if c = 47 then some 0 else (fi t).map (· + 1)
theorem fi_none : ∀ l, fi l = none → els l = [l]
  | [], _ => rfl
  | c :: t, h => by
    unfold fi at h
    by_cases hc : c = 47
    · rw [if_pos hc] at h; exact absurd h (by simp)
    · rw [if_neg hc] at h
      have h' : fi t = none := by cases hf : fi t <;> simp_all
      rw [els, if_neg hc, fi_none t h']
theorem fi_some : ∀ l p, fi l = some p → p < l.length ∧ els l = l.take p :: els (l.drop (p + 1))
  | [], p, h => by exact absurd h (by simp [fi])
  | c :: t, p, h => by
    unfold fi at h
    by_cases hc : c = 47
    · rw [if_pos hc] at h
      obtain rfl := Option.some.inj h
      exact ⟨by simp, by rw [els, if_pos hc]; simp⟩
    · rw [if_neg hc] at h
      obtain ⟨q, hq, rfl⟩ : ∃ q, fi t = some q ∧ q + 1 = p := by
        cases hf : fi t with
        | none => rw [hf] at h; exact absurd h (by simp)
        | some q => rw [hf] at h; exact ⟨q, rfl, by simpa using h⟩
      obtain ⟨h1, h2⟩ := fi_some t q hq
      exact ⟨by simp; omega, by rw [els, if_neg hc, h2]; simp⟩
theorem els_len : ∀ l, (els l).length ≤ l.length + 1
  | [] => by simp [els]
  | c :: t => by
    have := els_len t
    rw [els]
    split
    · simp; omega
    · obtain ⟨e, r, h⟩ := els_ne t
      rw [h] at this ⊢
      simp at this ⊢; omega
theorem els_mem : ∀ l, ∀ e ∈ els l, e.length ≤ l.length
  | [], e, h => by simp [els] at h; subst h; simp
  | c :: t, e, h => by
    have ih := els_mem t
    rw [els] at h
    split at h
    · rcases List.mem_cons.1 h with h | h
      · subst h; simp
      · have := ih e h; simp; omega
    · obtain ⟨e0, r, h0⟩ := els_ne t
      rw [h0] at h ih
      rcases List.mem_cons.1 h with h | h
      · subst h; have := ih e0 List.mem_cons_self; simp; omega
      · have := ih e (List.mem_cons_of_mem _ h); simp; omega
theorem Index_loop (s : ByteArray) (hs : s.size ≤ 1000000000000) : ∀ (ts : List UInt8) (i k : Nat), s.data.toList.drop i = ts → ts.length < k → i ≤ s.size →
    path_zzIndex.l0 k s ⟨#[47]⟩ (i : Int) = some (match fi ts with | none => -1 | some p => ((i + p : Nat) : Int)) := by
  have hsz := size_len s
  intro ts
  induction ts with
  | nil =>
    intro i k hd hk hi
    obtain ⟨k, rfl⟩ : ∃ m, k = m + 1 := ⟨k - 1, by omega⟩
    have hle : s.size ≤ i := by rw [hsz]; exact List.drop_eq_nil_iff.1 hd
    rw [path_zzIndex.l0, sl_size, wsucc i (by omega), if_neg (by omega)]
    rfl
  | cons t ts ih =>
    intro i k hd hk hi
    obtain ⟨k, rfl⟩ : ∃ m, k = m + 1 := ⟨k - 1, by omega⟩
    simp only [List.length_cons] at hk
    obtain ⟨h1, h2, h3⟩ := drop_cons hd
    have e0 : ((i + 1 : Nat) : Int) ≤ (s.size : Int) := by omega
    have e1 : (i : Int) ≤ ((i + 1 : Nat) : Int) := by omega
    have e2 : (s.extract ((i : Int).toNat) (((i + 1 : Nat) : Int).toNat)).toList = [t] := by
      rw [Go.ByteArray.toList_eq, Go.Lib.extract_data, Int.toNat_natCast, Int.toNat_natCast, hd, show i + 1 - i = 1 by omega]; rfl
    rw [path_zzIndex.l0, sl_size, wsucc i (by omega), if_pos e0, if_pos (Int.natCast_nonneg _), if_pos e1, e2, sl_list, fi]
    by_cases hc : t = 47
    · rw [if_pos (by rw [hc]), if_pos hc]; simp
    · rw [if_neg (by simpa using hc), if_neg hc, ih (i + 1) k h3 (by omega) (by omega)]
      cases fi ts with
      | none => rfl
      | some p =>
        show some (((i + 1 + p : Nat)) : Int) = some (((i + (p + 1) : Nat)) : Int)
        rw [show i + 1 + p = i + (p + 1) by omega]
theorem Index_eq (l : List UInt8) (hs : l.length ≤ 1000000000000) (k : Nat) (hk : l.length < k) : path_zzIndex.f k (ofB l) ⟨#[47]⟩ = some (match fi l with | none => -1 | some p => (p : Int)) := by
  have := Index_loop (ofB l) (by rw [ofB_size]; exact hs) l 0 k (by rw [ofB_data]; rfl) hk (Nat.zero_le _)
  have e0 : ((0 : Nat) : Int) = 0 := rfl
  rw [e0] at this
  rw [path_zzIndex.f, this]
  cases fi l <;> simp
theorem Split_loop : ∀ (k : Nat) (l : List UInt8) (acc : List ByteArray), l.length + 1 < k → l.length ≤ 1000000000 → acc.length + l.length ≤ 1000000000 →
    path_zzSplit.l1 k (ofB l) ⟨#[47]⟩ acc = some (acc ++ (els l).map ofB) := by
  intro k
  induction k with
  | zero => intro l acc hk; omega
  | succ k ih =>
    intro l acc hk hl ha
    have e2 : acc.length < 8796093022208 := by omega
    rw [path_zzSplit.l1, Index_eq l (by omega) k (by omega), Option.bind_some]
    cases hf : fi l with
    | none =>
      show (if (-1 : Int) < 0 then _ else _) = _
      rw [if_pos (by omega), if_pos e2, fi_none l hf]; rfl
    | some p =>
      obtain ⟨h1, h2⟩ := fi_some l p hf
      show (if (p : Int) < 0 then _ else _) = _
      have e1 : (p : Int) ≤ ((ofB l).size : Int) := by rw [ofB_size]; omega
      have e3 : ((p + 1 : Nat) : Int) ≤ ((ofB l).size : Int) := by rw [ofB_size]; omega
      rw [if_neg (by omega), if_pos (Int.natCast_nonneg _), if_pos e1, if_pos e2, sl_size, wsucc p (by omega), if_pos (Int.natCast_nonneg _), if_pos e3, Int.toNat_natCast, Int.toNat_natCast, ofB_extract, ofB_extract, ofB_size]
      have e4 : (l.drop (p + 1)).take (l.length - (p + 1)) = l.drop (p + 1) := List.take_of_length_le (by simp)
      have e5 : (l.drop 0).take (p - 0) = l.take p := by simp
      rw [e4, e5, ih (l.drop (p + 1)) _ (by simp; omega) (by simp; omega) (by simp; omega), h2]
      simp
theorem zzSplit_eq (l : List UInt8) (hl : l.length ≤ 100000000) (k : Nat) (hk : l.length + 1 < k) : path_zzSplit.f k (ofB l) ⟨#[47]⟩ = some ((els l).map ofB) := by
  rw [path_zzSplit.f, if_neg (by rw [sl_size]; omega), Split_loop k l [] hk (by omega) (by simp; omega)]; rfl

/-! the reference's splitting -/
def gl (cur : List UInt8) (ts : List UInt8) : List (List UInt8) := match els ts with
  | e :: r => (cur ++ e) :: r
  | [] => [cur]
theorem gl_nil (ts : List UInt8) : gl [] ts = els ts := by
  obtain ⟨e, r, h⟩ := els_ne ts
  unfold gl; rw [h]; rfl
theorem bt_ofB (l : List UInt8) (i : Nat) (h : i < l.length) : bt (ofB l) (i : Int) = (l[i].toNat : Int) := by
  unfold bt
  rw [dif_pos (by rw [Int.toNat_natCast, ofB_size]; exact h)]
  simp [ofB, ByteArray.getElem_eq_getElem_data]
theorem byte47 (t : UInt8) : ((t.toNat : Int) = 47) ↔ t = 47 := by
  constructor
  · intro h
    have : t.toNat = 47 := by omega
    exact UInt8.toNat_inj.1 this
  · intro h; subst h; rfl
theorem pathSplit_loop (l : List UInt8) (hl : l.length ≤ 1000000000) : ∀ (ts : List UInt8) (i k : Nat) (P : List (List UInt8)) (cur : List UInt8), l.drop i = ts → ts.length < k → P.length ≤ i → cur.length ≤ i →
    spec_pathSplit.l0 k (ofB l) 47 ((P ++ [cur]).map ofB) (i : Int) = some ((P ++ gl cur ts).map ofB) := by
  intro ts
  induction ts with
  | nil =>
    intro i k P cur hd hk hP hc
    obtain ⟨k, rfl⟩ : ∃ m, k = m + 1 := ⟨k - 1, by omega⟩
    have hle : l.length ≤ i := List.drop_eq_nil_iff.1 hd
    rw [spec_pathSplit.l0, if_neg (by rw [ofB_size]; omega)]
    simp [gl, els]
  | cons t ts ih =>
    intro i k P cur hd hk hP hc
    obtain ⟨k, rfl⟩ : ∃ m, k = m + 1 := ⟨k - 1, by omega⟩
    simp only [List.length_cons] at hk
    obtain ⟨h1, h2, h3⟩ := drop_cons hd
    have e0 : (i : Int) < ((ofB l).size : Int) := by rw [ofB_size]; omega
    rw [spec_pathSplit.l0, if_pos e0, if_pos (Int.natCast_nonneg _), bt_ofB l i h1, h2, wsucc i (by omega)]
    by_cases hc47 : t = 47
    · have e2 : ((P ++ [cur]).map ofB).length < 8796093022208 := by simp; omega
      have e3 : (P ++ [cur]).map ofB ++ [(⟨#[]⟩ : ByteArray)] = ((P ++ [cur]) ++ [[]]).map ofB := by rw [List.map_append (l₁ := P ++ [cur])]; rfl
      rw [if_pos ((byte47 t).2 hc47), if_pos e2, e3, ih (i + 1) k (P ++ [cur]) [] h3 (by omega) (by simp; omega) (by simp), gl_nil]
      congr 2
      unfold gl
      rw [hc47, els_slash]
      simp
    · have e2 : (((P ++ [cur]).map ofB).length : Int) = ((P.length + 1 : Nat) : Int) := by simp
      have e3 : (P.length : Int) < ((P.length + 1 : Nat) : Int) := by omega
      have e4 : (i : Int) ≤ ((i + 1 : Nat) : Int) := by omega
      have e5 : ((i + 1 : Nat) : Int) ≤ ((ofB l).size : Int) := by rw [ofB_size]; omega
      have e6 : rdOf ByteArray.empty ((P ++ [cur]).map ofB) (P.length : Int) = ofB cur := by rw [rdOf_ofB _ _ (by simp)]; simp
      have e7 : (ofB l).extract i (i + 1) = ofB [t] := by rw [ofB_extract, hd, show i + 1 - i = 1 by omega]; rfl
      have e8 : ((P ++ [cur]).map ofB).set P.length (ofB (cur ++ [t])) = (P ++ [cur ++ [t]]).map ofB := by simp
      have e9 : (ofB cur).size + (i + 1 - i) ≤ 9223372036854775807 := by rw [ofB_size]; omega
      rw [if_neg (fun h => hc47 ((byte47 t).1 h)), e2, wpred P.length (by omega), if_pos (Int.natCast_nonneg _), if_pos e3, if_pos e4, if_pos e5, e6, Int.toNat_natCast, Int.toNat_natCast, if_pos e9, e7, ofB_append, Int.toNat_natCast, e8, ih (i + 1) k P (cur ++ [t]) h3 (by omega) (by omega) (by simp; omega)]
      congr 3
      unfold gl
      obtain ⟨e, r, h⟩ := els_ne ts
      rw [els, if_neg hc47, h]
      simp
theorem specSplit_eq (l : List UInt8) (hl : l.length ≤ 100000000) (k : Nat) (hk : l.length < k) : spec_Split.f k (ofB l) = some ((els l).map ofB) := by
  have h := pathSplit_loop l (by omega) l 0 k [] [] rfl hk (by simp) (by simp)
  have e0 : ((0 : Nat) : Int) = 0 := rfl
  rw [e0, gl_nil] at h
  have h' : spec_pathSplit.f k (ofB l) 47 = some ((els l).map ofB) := h
  rw [spec_Split.f, h', Option.bind_some]

/-! the reference's joining -/
def inter (L : List (List UInt8)) : List UInt8 := ([47] : List UInt8).intercalate L
def tailJ (L : List (List UInt8)) : List UInt8 := L.flatMap fun x => 47 :: x
theorem inter_cons : ∀ (r : List (List UInt8)) (x : List UInt8), inter (x :: r) = x ++ tailJ r
  | [], x => by rw [inter, J_one]; simp [tailJ]
  | y :: r, x => by
    have := inter_cons r y
    unfold inter at this ⊢
    rw [J_cons, this]
    simp [tailJ]
theorem tailJ_len (B : Nat) : ∀ (L : List (List UInt8)), (∀ x ∈ L, x.length ≤ B) → (tailJ L).length ≤ (B + 1) * L.length
  | [], _ => by simp [tailJ]
  | x :: r, h => by
    have h1 := tailJ_len B r (fun y hy => h y (List.mem_cons_of_mem _ hy))
    have h2 := h x List.mem_cons_self
    have e : tailJ (x :: r) = 47 :: x ++ tailJ r := by simp [tailJ]
    rw [e]
    simp only [List.length_append, List.length_cons, Nat.mul_add, Nat.mul_one]
    omega
theorem Join_loop (L : List (List UInt8)) (hL : ∀ x ∈ L, x.length ≤ 10000) (hn : L.length ≤ 10000) : ∀ (ts : List (List UInt8)) (i k : Nat) (acc : List UInt8), L.drop i = ts → 0 < i → ts.length < k → acc.length ≤ 10001 * i →
    spec_Join.l0 k (ofB acc) (L.map ofB) (L.length : Int) (i : Int) = some (ofB (acc ++ tailJ ts)) := by
  intro ts
  induction ts with
  | nil =>
    intro i k acc hd hi hk ha
    obtain ⟨k, rfl⟩ : ∃ m, k = m + 1 := ⟨k - 1, by omega⟩
    have hle : L.length ≤ i := List.drop_eq_nil_iff.1 hd
    rw [spec_Join.l0, if_neg (by omega)]
    simp [tailJ]
  | cons t ts ih =>
    intro i k acc hd hi hk ha
    obtain ⟨k, rfl⟩ : ∃ m, k = m + 1 := ⟨k - 1, by omega⟩
    simp only [List.length_cons] at hk
    obtain ⟨h1, h2, h3⟩ := drop_cons hd
    have ht := hL t (h2 ▸ List.getElem_mem h1)
    have e0 : (i : Int) < (L.length : Int) := by omega
    have e1 : (i : Int) < ((L.map ofB).length : Int) := by simp; omega
    have e2 : (i : Int) > 0 := by omega
    have e3 : (ofB acc).size + 1 ≤ 9223372036854775807 := by rw [ofB_size]; omega
    have e4 : ofB acc ++ (⟨#[47]⟩ : ByteArray) = ofB (acc ++ [47]) := ofB_append acc [47]
    have e5 : (ofB (acc ++ [47])).size + (ofB t).size ≤ 9223372036854775807 := by rw [ofB_size, ofB_size]; simp; omega
    rw [spec_Join.l0, if_pos e0, if_pos (Int.natCast_nonneg _), if_pos e1, if_pos e2, if_pos e3, rdOf_ofB L i h1, h2, e4, if_pos e5, ofB_append, wsucc i (by omega), ih (i + 1) k _ h3 (by omega) (by omega) (by simp; omega)]
    simp [tailJ]
theorem specJoin_eq (L : List (List UInt8)) (hL : ∀ x ∈ L, x.length ≤ 10000) (hn : L.length ≤ 10000) (k : Nat) (hk : L.length < k) : spec_Join.f k (L.map ofB) = some (ofB (inter L)) := by
  obtain ⟨k, rfl⟩ : ∃ m, k = m + 1 := ⟨k - 1, by omega⟩
  rw [spec_Join.f, List.length_map]
  cases L with
  | nil => rw [spec_Join.l0, if_neg (by simp)]; rfl
  | cons x r =>
    have hx := hL x List.mem_cons_self
    have e0 : (0 : Int) < (((x :: r).length : Nat) : Int) := by simp only [List.length_cons]; omega
    have e1 : (0 : Int) < ((((x :: r).map ofB).length : Nat) : Int) := by simp only [List.length_map, List.length_cons]; omega
    have e2 : rdOf ByteArray.empty ((x :: r).map ofB) 0 = ofB x := rfl
    have e3 : (⟨#[]⟩ : ByteArray).size + (ofB x).size ≤ 9223372036854775807 := by rw [ofB_size]; show 0 + x.length ≤ _; omega
    have e4 : (⟨#[]⟩ : ByteArray) ++ ofB x = ofB x := ofB_append [] x
    have e5 := wsucc 0 (by omega)
    have e6 : ((0 : Nat) : Int) = 0 := rfl
    rw [e6] at e5
    simp only [List.length_cons] at hk
    rw [spec_Join.l0, if_pos e0, if_pos (Int.le_refl 0), if_pos e1, if_neg (by omega), e2, if_pos e3, e4, e5, Join_loop (x :: r) hL hn r 1 k x rfl (by omega) (by omega) (by omega), inter_cons]

/-! equal lists -/
theorem EqualS_loop (L : List ByteArray) (hn : L.length ≤ 1000000000) : ∀ (ts : List ByteArray) (i k : Nat), L.drop i = ts → ts.length < k → slices_Equal_string_string.l0 k L L (L.length : Int) (i : Int) = some true := by
  intro ts
  induction ts with
  | nil =>
    intro i k hd hk
    obtain ⟨k, rfl⟩ : ∃ m, k = m + 1 := ⟨k - 1, by omega⟩
    have hle : L.length ≤ i := List.drop_eq_nil_iff.1 hd
    rw [slices_Equal_string_string.l0, if_neg (by omega)]
  | cons t ts ih =>
    intro i k hd hk
    obtain ⟨k, rfl⟩ : ∃ m, k = m + 1 := ⟨k - 1, by omega⟩
    simp only [List.length_cons] at hk
    obtain ⟨h1, h2, h3⟩ := drop_cons hd
    have e0 : (i : Int) < (L.length : Int) := by omega
    rw [slices_Equal_string_string.l0, if_pos e0, if_pos (Int.natCast_nonneg _), if_pos e0, if_pos e0, if_pos rfl, wsucc i (by omega), ih (i + 1) k h3 (by omega)]
theorem EqualS (L : List ByteArray) (hn : L.length ≤ 1000000000) (k : Nat) (hk : L.length < k) : slices_Equal_string_string.f k L L = some true := by
  rw [slices_Equal_string_string.f, if_pos rfl]
  exact EqualS_loop L hn L 0 k rfl hk

/-! the reference's cleaning -/
def fin (ro : Bool) (st : List (List UInt8)) : List UInt8 := if ro then 47 :: inter st.reverse else if inter st.reverse = [] then [46] else inter st.reverse
theorem cleanEls_fin (l : List UInt8) (h : l ≠ []) : cleanEls l = fin (l.head? == some 47) ((els l).foldl (cleanStep (l.head? == some 47)) []) := by
  rw [cleanEls, if_neg h]; rfl
theorem inter_ne (st : List (List UInt8)) (hs : ∀ x ∈ st, x ≠ []) (h : st ≠ []) : inter st.reverse ≠ [] := by
  cases hr : st.reverse with
  | nil => simp at hr; exact absurd hr h
  | cons x r =>
    rw [inter_cons]
    have hx : x ∈ st := by rw [← List.mem_reverse, hr]; exact List.mem_cons_self
    have := hs x hx
    simp [this]
theorem rev_len (st : List (List UInt8)) : ((st.reverse.map ofB).length : Int) = (st.length : Int) := by simp
theorem Clean_loop (ro : Bool) (E : List (List UInt8)) (hE : ∀ x ∈ E, x.length ≤ 3000) (hn : E.length ≤ 3001) : ∀ (ts : List (List UInt8)) (i k : Nat) (st : List (List UInt8)), E.drop i = ts → i + ts.length = E.length → 3 * ts.length + 3010 < k → st.length ≤ i → (∀ x ∈ st, x ≠ [] ∧ x.length ≤ 3000) → (ro = true → [46, 46] ∉ st) →
    spec_Clean.l0 k ro (st.reverse.map ofB) (E.map ofB) (E.length : Int) (i : Int) = some (ofB (fin ro (ts.foldl (cleanStep ro) st))) := by
  intro ts
  induction ts with
  | nil =>
    intro i k st hd hi hk hs hst hro
    obtain ⟨k, rfl⟩ : ∃ m, k = m + 1 := ⟨k - 1, by omega⟩
    simp only [List.length_nil] at hi hk
    have hj := specJoin_eq st.reverse (fun x hx => Nat.le_trans (hst x (List.mem_reverse.1 hx)).2 (by omega)) (by simp; omega) k (by simp; omega)
    have hlen : (inter st.reverse).length ≤ 10000000000 := by
      cases hr : st.reverse with
      | nil => simp [inter]
      | cons x r =>
        have hm : ∀ y ∈ x :: r, y.length ≤ 3000 := fun y hy => (hst y (by rw [← List.mem_reverse, hr]; exact hy)).2
        have h1 := tailJ_len 3000 r (fun y hy => hm y (List.mem_cons_of_mem _ hy))
        have h2 := hm x List.mem_cons_self
        have h3 : r.length + 1 = st.length := by have := congrArg List.length hr; simpa using this.symm
        rw [inter_cons, List.length_append]
        omega
    rw [spec_Clean.l0, if_neg (by omega), hj, List.foldl_nil]
    cases ro with
    | true =>
      have e1 : 1 + (ofB (inter st.reverse)).size ≤ 9223372036854775807 := by rw [ofB_size]; omega
      rw [if_pos rfl, Option.bind_some, if_pos e1]
      have e2 : (⟨#[47]⟩ : ByteArray) ++ ofB (inter st.reverse) = ofB (47 :: inter st.reverse) := ofB_append [47] _
      rw [e2]; rfl
    | false =>
      rw [if_neg (by decide), rev_len]
      by_cases h0 : st = []
      · subst h0
        rw [if_pos (by simp)]; rfl
      · have : 0 < st.length := List.length_pos_iff.2 h0
        rw [if_neg (by omega), Option.bind_some]
        unfold fin
        rw [if_neg (by decide), if_neg (inter_ne st (fun x hx => (hst x hx).1) h0)]
  | cons t ts ih =>
    intro i k st hd hi hk hs hst hro
    obtain ⟨k, rfl⟩ : ∃ m, k = m + 1 + 1 + 1 := ⟨k - 3, by omega⟩
    simp only [List.length_cons] at hi hk
    obtain ⟨h1, h2, h3⟩ := drop_cons hd
    have ht := hE t (h2 ▸ List.getElem_mem h1)
    have e0 : (i : Int) < (E.length : Int) := by omega
    have e1 : (i : Int) < ((E.map ofB).length : Int) := by simp; omega
    have e4 := wsucc i (by omega)
    have e5 : (st.reverse.map ofB).length < 8796093022208 := by simp; omega
    have eapp : st.reverse.map ofB ++ [ofB t] = (t :: st).reverse.map ofB := by simp
    rw [spec_Clean.l0, if_pos e0, if_pos (Int.natCast_nonneg _), if_pos e1, rdOf_ofB E i h1, h2, ofB_list, List.foldl_cons]
    by_cases c0 : t = []
    · rw [if_pos c0, spec_Clean.j2, if_pos rfl, e4, ih (i + 1) (k + 1) st h3 (by omega) (by omega) (by omega) hst hro, c0, step_nil]
    · rw [if_neg c0, spec_Clean.j2]
      by_cases c1 : t = [46]
      · rw [if_pos (by rw [c1]; rfl), e4, ih (i + 1) (k + 1) st h3 (by omega) (by omega) (by omega) hst hro, c1, step_dot]
      · rw [if_neg (by simpa using c1), ofB_list]
        by_cases c2 : t = [46, 46]
        · rw [if_pos c2, rev_len]
          cases st with
          | nil =>
            rw [if_neg (by simp), spec_Clean.j3, if_neg (by decide)]
            cases ro with
            | true =>
              rw [if_pos rfl, e4, ih (i + 1) k [] h3 (by omega) (by omega) (by simp) (by simp) (by simp), c2]; rfl
            | false =>
              rw [if_neg (by decide), if_pos e5, eapp, e4, ih (i + 1) k [t] h3 (by omega) (by omega) (by simp) (by intro x hx; simp at hx; subst hx; exact ⟨c0, ht⟩) (by simp), c2]; rfl
          | cons y r =>
            have hr1 : (((y :: r).length : Nat) : Int) > 0 := by simp only [List.length_cons]; omega
            have hr2 : wrap64 ((((y :: r).length : Nat) : Int) - 1) = (r.length : Int) := wpred r.length (by simp only [List.length_cons] at hs; omega)
            have hr3 : (r.length : Int) < (((y :: r).length : Nat) : Int) := by simp only [List.length_cons]; omega
            have hr3' : (r.length : Int) ≤ (((y :: r).length : Nat) : Int) := by omega
            have hr4 : rdOf ByteArray.empty ((y :: r).reverse.map ofB) (r.length : Int) = ofB y := by
              rw [rdOf_ofB _ _ (by simp)]
              simp
            have hr5 : ((y :: r).reverse.map ofB).take r.length = r.reverse.map ofB := by simp
            rw [if_pos hr1, hr2, if_pos (Int.natCast_nonneg _), if_pos hr3, hr4, ofB_list, spec_Clean.j3]
            by_cases c3 : y = [46, 46]
            · rw [if_neg (by simpa using c3)]
              cases ro with
              | true => exact absurd (by rw [c3]; exact List.mem_cons_self) (hro rfl)
              | false =>
                rw [if_neg (by decide), if_pos e5, eapp, e4, ih (i + 1) k (t :: y :: r) h3 (by omega) (by omega) (by simp only [List.length_cons] at hs ⊢; omega) (by
                  intro x hx
                  rcases List.mem_cons.1 hx with hx | hx
                  · subst hx; exact ⟨c0, ht⟩
                  · exact hst x hx) (by simp)]
                have : cleanStep false (y :: r) t = t :: y :: r := by simp [cleanStep, c2, c3]
                rw [this]
            · have : cleanStep ro (y :: r) t = r := by simp [cleanStep, c2, c3]
              rw [if_pos (by simpa using c3), rev_len, hr2, if_pos (Int.natCast_nonneg _), if_pos hr3', Int.toNat_natCast, hr5, e4, this, ih (i + 1) k r h3 (by omega) (by omega) (by simp only [List.length_cons] at hs; omega) (fun x hx => hst x (List.mem_cons_of_mem _ hx)) (fun h hm => hro h (List.mem_cons_of_mem _ hm))]
        · rw [if_neg c2, if_pos e5, eapp, e4, ih (i + 1) (k + 1) (t :: st) h3 (by omega) (by omega) (by simp only [List.length_cons]; omega) (by
            intro x hx
            rcases List.mem_cons.1 hx with hx | hx
            · subst hx; exact ⟨c0, ht⟩
            · exact hst x hx) (by
            intro h hm
            rcases List.mem_cons.1 hm with hm | hm
            · exact c2 hm.symm
            · exact hro h hm), step_elem ro st t c0 c1 c2]
theorem Clean_j0 (ro : Bool) (l : List UInt8) (hl : l.length ≤ 3000) (k : Nat) (hk : 20000 < k) : spec_Clean.j0 k (ofB l) ro = some (ofB (fin ro ((els l).foldl (cleanStep ro) []))) := by
  obtain ⟨k, rfl⟩ : ∃ m, k = m + 1 := ⟨k - 1, by omega⟩
  have h0 := els_len l
  have h1 := Clean_loop ro (els l) (fun x hx => Nat.le_trans (els_mem l x hx) hl) (by omega) (els l) 0 k [] rfl (by simp) (by omega) (by simp) (by simp) (by simp)
  have e0 : ((0 : Nat) : Int) = 0 := rfl
  rw [e0] at h1
  rw [spec_Clean.j0, specSplit_eq l (by omega) k (by omega), Option.bind_some, List.length_map]
  exact h1
theorem specClean_eq (l : List UInt8) (hl : l.length ≤ 3000) (k : Nat) (hk : 20000 < k) : spec_Clean.f k (ofB l) = some (ofB (cleanEls l)) := by
  rw [spec_Clean.f]
  cases l with
  | nil => rw [if_neg (by rw [ofB_size]; simp), Clean_j0 false [] (by simp) k hk]; rfl
  | cons c t =>
    have e0 : ((ofB (c :: t)).size : Int) > 0 := by rw [ofB_size]; simp only [List.length_cons]; omega
    have e1 : bt (ofB (c :: t)) 0 = (c.toNat : Int) := bt_ofB (c :: t) 0 (by simp)
    have e2 : ((c.toNat : Int) == 47) = ((c :: t).head? == some 47) := by
      by_cases h : c = 47
      · subst h; rfl
      · have : ¬ ((c.toNat : Int) = 47) := fun hh => h ((byte47 c).1 hh)
        rw [beq_eq_false_iff_ne.2 this]; simp [h]
    rw [if_pos e0, if_pos e0, e1, e2, Clean_j0 _ _ hl k hk, cleanEls_fin _ (by simp)]
theorem fin_len (ro : Bool) (st : List (List UInt8)) (h : ∀ x ∈ st, x.length ≤ 3000) (hn : st.length ≤ 3001) : (fin ro st).length ≤ 10000000 := by
  have hl : (inter st.reverse).length ≤ 9999999 := by
    cases hr : st.reverse with
    | nil => simp [inter]
    | cons x r =>
      have hm : ∀ y ∈ x :: r, y.length ≤ 3000 := fun y hy => h y (by rw [← List.mem_reverse, hr]; exact hy)
      have h1 := tailJ_len 3000 r (fun y hy => hm y (List.mem_cons_of_mem _ hy))
      have h2 := hm x List.mem_cons_self
      have h3 : r.length + 1 = st.length := by have := congrArg List.length hr; simpa using this.symm
      rw [inter_cons, List.length_append]
      omega
  unfold fin
  split
  · simp; omega
  · split
    · simp
    · omega
theorem fold_in (ro : Bool) : ∀ (E st : List (List UInt8)), (∀ x ∈ E, x.length ≤ 3000) → (∀ x ∈ st, x.length ≤ 3000) → (∀ x ∈ E.foldl (cleanStep ro) st, x.length ≤ 3000) ∧ (E.foldl (cleanStep ro) st).length ≤ st.length + E.length
  | [], st, _, h => ⟨h, by simp⟩
  | e :: E, st, hE, h => by
    have he := hE e List.mem_cons_self
    have hs : (∀ x ∈ cleanStep ro st e, x.length ≤ 3000) ∧ (cleanStep ro st e).length ≤ st.length + 1 := by
      unfold cleanStep
      split
      · exact ⟨h, by omega⟩
      · split
        · split
          · split
            · exact ⟨fun x hx => by rcases List.mem_cons.1 hx with hx | hx; (· subst hx; exact he); (· exact h x hx), by simp⟩
            · exact ⟨fun x hx => h x (List.mem_cons_of_mem _ hx), by simp; omega⟩
          · split
            · exact ⟨by simp, by simp⟩
            · exact ⟨fun x hx => by simp at hx; subst hx; exact he, by simp⟩
        · exact ⟨fun x hx => by rcases List.mem_cons.1 hx with hx | hx; (· subst hx; exact he); (· exact h x hx), by simp⟩
    have := fold_in ro E (cleanStep ro st e) (fun x hx => hE x (List.mem_cons_of_mem _ hx)) hs.1
    rw [List.foldl_cons]
    exact ⟨this.1, by have := this.2; simp; omega⟩
theorem cleanEls_len (l : List UInt8) (hl : l.length ≤ 3000) : (cleanEls l).length ≤ 10000000 := by
  by_cases h : l = []
  · subst h; simp [cleanEls]
  · have h0 := els_len l
    have := fold_in (l.head? == some 47) (els l) [] (fun x hx => Nat.le_trans (els_mem l x hx) hl) (by simp)
    rw [cleanEls_fin l h]
    exact fin_len _ _ this.1 (by have := this.2; simp at this; omega)

/-! segments -/
def segs (l : List UInt8) : List (List UInt8) := match els (cleanEls l) with
  | [] :: r => r
  | x => x
theorem Segs_eq (l : List UInt8) (hl : l.length ≤ 3000) (k : Nat) (hk : 20000000 < k) : path_Path_Segments.f k (ofB l) = some ((segs l).map ofB) ∧ spec_Segments.f k (ofB l) = some ((segs l).map ofB) := by
  have hc := cleanEls_len l hl
  have h1 : path_Clean.f (ofB l) = some (ofB (cleanEls l)) := by
    rw [path_Clean.f, if_pos (by rw [ofB_size]; omega), ofB_data]; rfl
  obtain ⟨e, r, he⟩ := els_ne (cleanEls l)
  have hz := zzSplit_eq (cleanEls l) (by omega) k (by omega)
  have hp := specSplit_eq (cleanEls l) (by omega) k (by omega)
  have e0 : (0 : Int) < (((e :: r).map ofB).length : Int) := by simp only [List.length_map, List.length_cons]; omega
  have e1 : (1 : Int) ≤ (((e :: r).map ofB).length : Int) := by omega
  have e2 : rdOf ByteArray.empty ((e :: r).map ofB) 0 = ofB e := rfl
  have e3 : ((e :: r).map ofB).drop (1 : Int).toNat = r.map ofB := rfl
  have hsg : segs l = if e = [] then r else e :: r := by
    unfold segs; rw [he]
    cases e <;> rfl
  rw [hsg]
  constructor
  · rw [path_Path_Segments.f, h1, Option.bind_some, hz, Option.bind_some, he, if_pos e0, e2, ofB_size, if_pos e1, e3]
    cases e with
    | nil => rfl
    | cons c t => rw [if_neg (by simp only [List.length_cons]; omega), if_neg (by simp)]
  · rw [spec_Segments.f, specClean_eq l hl k (by omega), Option.bind_some, hp, Option.bind_some, he, if_pos e0, e2, ofB_list, if_pos e1, e3]
    split <;> rfl
theorem segs_len (l : List UInt8) (hl : l.length ≤ 3000) : (segs l).length ≤ 10000001 := by
  have h := els_len (cleanEls l)
  have hc := cleanEls_len l hl
  unfold segs
  split
  · rename_i r he; rw [he] at h; simp at h; omega
  · omega
theorem implSegs_eq (l : List UInt8) (hl : l.length ≤ 3000) (k : Nat) (hk : 20000000 < k) : impl_PathSegments.f k (ofB l) = some ((segs l).map ofB) := by
  have := segs_len l hl
  rw [impl_PathSegments.f, (Segs_eq l hl k hk).1, Option.bind_some, slices_Clone_string_string.f, if_pos (by simp; omega), Option.bind_some]
theorem live (k : Nat) (hk : 60 ≤ k) : laws_segmentsLive.f k = some true := at_rounds laws_segmentsLive.mono hk (by decide +kernel)

theorem FnPathSegments : laws_FnPathSegments.Pure := by
  intro a0 _
  refine ⟨30000000, ?_⟩
  rw [laws_FnPathSegments.f]
  by_cases c1 : (a0.size : Int) > 2147483647
  · rw [if_pos c1]
  rw [if_neg c1]
  by_cases c2 : (a0.size : Int) > 2000
  · rw [if_pos c2, live _ (by omega), Option.bind_some]
  have hl : a0.data.toList.length ≤ 3000 := by rw [← size_len]; omega
  have hs := Segs_eq a0.data.toList hl 30000000 (by omega)
  have hi := implSegs_eq a0.data.toList hl 30000000 (by omega)
  have hn := segs_len a0.data.toList hl
  rw [← eq_ofB] at hs hi
  rw [if_neg c2, hi, Option.bind_some, hs.2, Option.bind_some, EqualS _ (by simp; omega) _ (by simp; omega), Option.bind_some, if_pos rfl]
  have hk : impl_PathIsKey.f 30000000 a0 = spec_JustKey.f 30000000 a0 := by
    rw [impl_PathIsKey.f, path_Path_IsJustAKey.f, spec_JustKey.f, hs.1, hs.2]
    simp only [Option.bind_some]
    split <;> first | rfl | (split <;> first | rfl | (split <;> rfl))
  obtain ⟨b, hb⟩ : ∃ b, spec_JustKey.f 30000000 a0 = some b := by
    rw [spec_JustKey.f, hs.2, Option.bind_some]
    by_cases c3 : ((((segs a0.data.toList).map ofB).length : Nat) : Int) = 2
    · rw [if_pos c3, if_pos (by omega)]
      split <;> exact ⟨_, rfl⟩
    · rw [if_neg c3]; exact ⟨_, rfl⟩
  rw [hk, hb, Option.bind_some, Option.bind_some, if_pos (by simp), live _ (by omega), Option.bind_some]

end Go.Proofs.Ytbmeegkgcipmoaa.Pure
