/- FnPathSplit: a text is what its parts between slashes are, joined; parts without slashes, joined, have these parts; both are those of the reference. -/
import Derived.Test.YtbmeegkgcipmoaaPFnPathSplitx9
import Derived.Lib.JoinSame2
namespace Go.Proofs.Ytbmeegkgcipmoaa.Pure
open Go.RowKit Go.Proofs.Ytbmeegkgcipmoaa.PFnPathSplit Go.Proofs.YtbmeegkgcipmoaaW.PrintWords Go.Proofs.YtbmeegkgcipmoaaW.PrintLast Go.Proofs.YtbmeegkgcipmoaaW.PrintMore

/-! bytes -/
theorem wrap64_id {x : Int} (h0 : -9223372036854775808 ≤ x) (h1 : x ≤ 9223372036854775807) : wrap64 x = x := by unfold wrap64; omega
theorem wsucc (j : Nat) (h : j < 9223372036854775807) : wrap64 ((j : Int) + 1) = ((j + 1 : Nat) : Int) := by rw [wrap64_id (by omega) (by omega)]; omega
theorem wpred (j : Nat) (h : j < 9223372036854775807) : wrap64 (((j + 1 : Nat) : Int) - 1) = (j : Int) := by rw [wrap64_id (by omega) (by omega)]; omega
def ofB (l : List UInt8) : ByteArray := ⟨l.toArray⟩
theorem ofB_data (l : List UInt8) : (ofB l).data.toList = l := by simp [ofB]
theorem ofB_list (l : List UInt8) : (ofB l).toList = l := by rw [Go.ByteArray.toList_eq, ofB_data]
theorem ofB_size (l : List UInt8) : (ofB l).size = l.length := by simp [ofB, ByteArray.size]
theorem eq_ofB (s : ByteArray) : s = ofB s.data.toList := by cases s; simp [ofB]
theorem size_len (s : ByteArray) : s.size = s.data.toList.length := rfl
theorem ofB_extract (l : List UInt8) (i j : Nat) : (ofB l).extract i j = ofB ((l.drop i).take (j - i)) := by
  rw [eq_ofB ((ofB l).extract i j), Go.Lib.extract_data, ofB_data]
theorem ofB_append (a b : List UInt8) : ofB a ++ ofB b = ofB (a ++ b) := by
  rw [eq_ofB (ofB a ++ ofB b), ByteArray.data_append, Array.toList_append, ofB_data, ofB_data]
theorem rdOf_ofB (X : List (List UInt8)) (i : Nat) (h : i < X.length) : rdOf ByteArray.empty (X.map ofB) (i : Int) = ofB X[i] := by
  unfold rdOf
  rw [Int.toNat_natCast, List.getD_eq_getElem?_getD, List.getElem?_map, List.getElem?_eq_getElem h]
  rfl
theorem drop_cons {α : Type} {xs : List α} {i : Nat} {t : α} {ts : List α} (h : xs.drop i = t :: ts) : ∃ hl : i < xs.length, xs[i] = t ∧ xs.drop (i + 1) = ts := by
  have hlt : i < xs.length := by
    rcases Nat.lt_or_ge i xs.length with h1 | h1
    · exact h1
    · rw [List.drop_eq_nil_of_le h1] at h; exact absurd h (by simp)
  rw [List.drop_eq_getElem_cons hlt] at h
  exact ⟨hlt, (List.cons.inj h).1, (List.cons.inj h).2⟩
def sl : ByteArray := ⟨#[47]⟩
theorem sl_ofB : sl = ofB [47] := rfl
theorem sl_size : ((⟨#[47]⟩ : ByteArray).size : Int) = 1 := rfl
theorem sl_list : (⟨#[47]⟩ : ByteArray).toList = [47] := ofB_list [47]

/-! splitting -/
open Go.Lib.Pa
def fi : List UInt8 → Option Nat
  | [] => none
  | c :: t => if c = 47 then some 0 else (fi t).map (· + 1)
theorem fi_none : ∀ l, fi l = none → els l = [l]
  | [], _ => rfl
  | c :: t, h => by
    unfold fi at h
    by_cases hc : c = 47
    · rw [if_pos hc] at h; exact absurd h (by simp)
    · rw [if_neg hc] at h
      have h' : fi t = none := by cases hf : fi t <;> simp_all
      rw [els, if_neg hc, fi_none t h']
theorem fi_some : ∀ l p, fi l = some p → p < l.length ∧ els l = l.take p :: els (l.drop (p + 1))
  | [], p, h => by exact absurd h (by simp [fi])
  | c :: t, p, h => by
    unfold fi at h
    by_cases hc : c = 47
    · rw [if_pos hc] at h
      obtain rfl := Option.some.inj h
      exact ⟨by simp, by rw [els, if_pos hc]; simp⟩
    · rw [if_neg hc] at h
      obtain ⟨q, hq, rfl⟩ : ∃ q, fi t = some q ∧ q + 1 = p := by
        cases hf : fi t with
        | none => rw [hf] at h; exact absurd h (by simp)
        | some q => rw [hf] at h; exact ⟨q, rfl, by simpa using h⟩
      obtain ⟨h1, h2⟩ := fi_some t q hq
      exact ⟨by simp; omega, by rw [els, if_neg hc, h2]; simp⟩
theorem els_len : ∀ l, (els l).length ≤ l.length + 1
  | [] => by simp [els]
  | c :: t => by
    have := els_len t
    rw [els]
    split
    · simp; omega
    · obtain ⟨e, r, h⟩ := els_ne t
      rw [h] at this ⊢
      simp at this ⊢; omega
theorem els_mem : ∀ l, ∀ e ∈ els l, e.length ≤ l.length
  | [], e, h => by simp [els] at h; subst h; simp
  | c :: t, e, h => by
    have ih := els_mem t
    rw [els] at h
    split at h
    · rcases List.mem_cons.1 h with h | h
      · subst h; simp
      · have := ih e h; simp; omega
    · obtain ⟨e0, r, h0⟩ := els_ne t
      rw [h0] at h ih
      rcases List.mem_cons.1 h with h | h
      · subst h; have := ih e0 List.mem_cons_self; simp; omega
      · have := ih e (List.mem_cons_of_mem _ h); simp; omega
theorem Index_loop (s : ByteArray) (hs : s.size ≤ 1000000000000) : ∀ (ts : List UInt8) (i k : Nat), s.data.toList.drop i = ts → ts.length < k → i ≤ s.size →
    path_zzIndex.l0 k s ⟨#[47]⟩ (i : Int) = some (match fi ts with | none => -1 | some p => ((i + p : Nat) : Int)) := by
  have hsz := size_len s
  intro ts
  induction ts with
  | nil =>
    intro i k hd hk hi
    obtain ⟨k, rfl⟩ : ∃ m, k = m + 1 := ⟨k - 1, by omega⟩
    have hle : s.size ≤ i := by rw [hsz]; exact List.drop_eq_nil_iff.1 hd
    rw [path_zzIndex.l0, sl_size, wsucc i (by omega), if_neg (by omega)]
    rfl
  | cons t ts ih =>
    intro i k hd hk hi
    obtain ⟨k, rfl⟩ : ∃ m, k = m + 1 := ⟨k - 1, by omega⟩
    simp only [List.length_cons] at hk
    obtain ⟨h1, h2, h3⟩ := drop_cons hd
    have e0 : ((i + 1 : Nat) : Int) ≤ (s.size : Int) := by omega
    have e1 : (i : Int) ≤ ((i + 1 : Nat) : Int) := by omega
    have e2 : (s.extract ((i : Int).toNat) (((i + 1 : Nat) : Int).toNat)).toList = [t] := by
      rw [Go.ByteArray.toList_eq, Go.Lib.extract_data, Int.toNat_natCast, Int.toNat_natCast, hd, show i + 1 - i = 1 by omega]; rfl
    rw [path_zzIndex.l0, sl_size, wsucc i (by omega), if_pos e0, if_pos (Int.natCast_nonneg _), if_pos e1, e2, sl_list, fi]
    by_cases hc : t = 47
    · rw [if_pos (by rw [hc]), if_pos hc]; simp
    · rw [if_neg (by simpa using hc), if_neg hc, ih (i + 1) k h3 (by omega) (by omega)]
      cases fi ts with
      | none => rfl
      | some p =>
        show some (((i + 1 + p : Nat)) : Int) = some (((i + (p + 1) : Nat)) : Int)
        rw [show i + 1 + p = i + (p + 1) by omega]
theorem Index_eq (l : List UInt8) (hs : l.length ≤ 1000000000000) (k : Nat) (hk : l.length < k) : path_zzIndex.f k (ofB l) ⟨#[47]⟩ = some (match fi l with | none => -1 | some p => (p : Int)) := by
  have := Index_loop (ofB l) (by rw [ofB_size]; exact hs) l 0 k (by rw [ofB_data]; rfl) hk (Nat.zero_le _)
  have e0 : ((0 : Nat) : Int) = 0 := rfl
  rw [e0] at this
  rw [path_zzIndex.f, this]
  cases fi l <;> simp
theorem Split_loop : ∀ (k : Nat) (l : List UInt8) (acc : List ByteArray), l.length + 1 < k → l.length ≤ 1000000000 → acc.length + l.length ≤ 1000000000 →
    path_zzSplit.l1 k (ofB l) ⟨#[47]⟩ acc = some (acc ++ (els l).map ofB) := by
  intro k
  induction k with
  | zero => intro l acc hk; omega
  | succ k ih =>
    intro l acc hk hl ha
    have e2 : acc.length < 8796093022208 := by omega
    rw [path_zzSplit.l1, Index_eq l (by omega) k (by omega), Option.bind_some]
    cases hf : fi l with
    | none =>
      show (if (-1 : Int) < 0 then _ else _) = _
      rw [if_pos (by omega), if_pos e2, fi_none l hf]; rfl
    | some p =>
      obtain ⟨h1, h2⟩ := fi_some l p hf
      show (if (p : Int) < 0 then _ else _) = _
      have e1 : (p : Int) ≤ ((ofB l).size : Int) := by rw [ofB_size]; omega
      have e3 : ((p + 1 : Nat) : Int) ≤ ((ofB l).size : Int) := by rw [ofB_size]; omega
      rw [if_neg (by omega), if_pos (Int.natCast_nonneg _), if_pos e1, if_pos e2, sl_size, wsucc p (by omega), if_pos (Int.natCast_nonneg _), if_pos e3, Int.toNat_natCast, Int.toNat_natCast, ofB_extract, ofB_extract, ofB_size]
      have e4 : (l.drop (p + 1)).take (l.length - (p + 1)) = l.drop (p + 1) := List.take_of_length_le (by simp)
      have e5 : (l.drop 0).take (p - 0) = l.take p := by simp
      rw [e4, e5, ih (l.drop (p + 1)) _ (by simp; omega) (by simp; omega) (by simp; omega), h2]
      simp
theorem zzSplit_eq (l : List UInt8) (hl : l.length ≤ 100000000) (k : Nat) (hk : l.length + 1 < k) : path_zzSplit.f k (ofB l) ⟨#[47]⟩ = some ((els l).map ofB) := by
  rw [path_zzSplit.f, if_neg (by rw [sl_size]; omega), Split_loop k l [] hk (by omega) (by simp; omega)]; rfl

/-! the reference's splitting -/
def gl (cur : List UInt8) (ts : List UInt8) : List (List UInt8) := match els ts with
  | e :: r => (cur ++ e) :: r
  | [] => [cur]
theorem gl_nil (ts : List UInt8) : gl [] ts = els ts := by
  obtain ⟨e, r, h⟩ := els_ne ts
  unfold gl; rw [h]; rfl
theorem bt_ofB (l : List UInt8) (i : Nat) (h : i < l.length) : bt (ofB l) (i : Int) = (l[i].toNat : Int) := by
  unfold bt
  rw [dif_pos (by rw [Int.toNat_natCast, ofB_size]; exact h)]
  simp [ofB, ByteArray.getElem_eq_getElem_data]
theorem byte47 (t : UInt8) : ((t.toNat : Int) = 47) ↔ t = 47 := by
  constructor
  · intro h
    have : t.toNat = 47 := by omega
    exact UInt8.toNat_inj.1 this
  · intro h; subst h; rfl
theorem pathSplit_loop (l : List UInt8) (hl : l.length ≤ 1000000000) : ∀ (ts : List UInt8) (i k : Nat) (P : List (List UInt8)) (cur : List UInt8), l.drop i = ts → ts.length < k → P.length ≤ i → cur.length ≤ i →
    spec_pathSplit.l0 k (ofB l) 47 ((P ++ [cur]).map ofB) (i : Int) = some ((P ++ gl cur ts).map ofB) := by
  intro ts
  induction ts with
  | nil =>
    intro i k P cur hd hk hP hc
    obtain ⟨k, rfl⟩ : ∃ m, k = m + 1 := ⟨k - 1, by omega⟩
    have hle : l.length ≤ i := List.drop_eq_nil_iff.1 hd
    rw [spec_pathSplit.l0, if_neg (by rw [ofB_size]; omega)]
    simp [gl, els]
  | cons t ts ih =>
    intro i k P cur hd hk hP hc
    obtain ⟨k, rfl⟩ : ∃ m, k = m + 1 := ⟨k - 1, by omega⟩
    simp only [List.length_cons] at hk
    obtain ⟨h1, h2, h3⟩ := drop_cons hd
    have e0 : (i : Int) < ((ofB l).size : Int) := by rw [ofB_size]; omega
    rw [spec_pathSplit.l0, if_pos e0, if_pos (Int.natCast_nonneg _), bt_ofB l i h1, h2, wsucc i (by omega)]
    by_cases hc47 : t = 47
    · have e2 : ((P ++ [cur]).map ofB).length < 8796093022208 := by simp; omega
      have e3 : (P ++ [cur]).map ofB ++ [(⟨#[]⟩ : ByteArray)] = ((P ++ [cur]) ++ [[]]).map ofB := by rw [List.map_append (l₁ := P ++ [cur])]; rfl
      rw [if_pos ((byte47 t).2 hc47), if_pos e2, e3, ih (i + 1) k (P ++ [cur]) [] h3 (by omega) (by simp; omega) (by simp), gl_nil]
      congr 2
      unfold gl
      rw [hc47, els_slash]
      simp
    · have e2 : (((P ++ [cur]).map ofB).length : Int) = ((P.length + 1 : Nat) : Int) := by simp
      have e3 : (P.length : Int) < ((P.length + 1 : Nat) : Int) := by omega
      have e4 : (i : Int) ≤ ((i + 1 : Nat) : Int) := by omega
      have e5 : ((i + 1 : Nat) : Int) ≤ ((ofB l).size : Int) := by rw [ofB_size]; omega
      have e6 : rdOf ByteArray.empty ((P ++ [cur]).map ofB) (P.length : Int) = ofB cur := by rw [rdOf_ofB _ _ (by simp)]; simp
      have e7 : (ofB l).extract i (i + 1) = ofB [t] := by rw [ofB_extract, hd, show i + 1 - i = 1 by omega]; rfl
      have e8 : ((P ++ [cur]).map ofB).set P.length (ofB (cur ++ [t])) = (P ++ [cur ++ [t]]).map ofB := by simp
      have e9 : (ofB cur).size + (i + 1 - i) ≤ 9223372036854775807 := by rw [ofB_size]; omega
      rw [if_neg (fun h => hc47 ((byte47 t).1 h)), e2, wpred P.length (by omega), if_pos (Int.natCast_nonneg _), if_pos e3, if_pos e4, if_pos e5, e6, Int.toNat_natCast, Int.toNat_natCast, if_pos e9, e7, ofB_append, Int.toNat_natCast, e8, ih (i + 1) k P (cur ++ [t]) h3 (by omega) (by omega) (by simp; omega)]
      congr 3
      unfold gl
      obtain ⟨e, r, h⟩ := els_ne ts
      rw [els, if_neg hc47, h]
      simp
theorem specSplit_eq (l : List UInt8) (hl : l.length ≤ 100000000) (k : Nat) (hk : l.length < k) : spec_Split.f k (ofB l) = some ((els l).map ofB) := by
  have h := pathSplit_loop l (by omega) l 0 k [] [] rfl hk (by simp) (by simp)
  have e0 : ((0 : Nat) : Int) = 0 := rfl
  rw [e0, gl_nil] at h
  have h' : spec_pathSplit.f k (ofB l) 47 = some ((els l).map ofB) := h
  rw [spec_Split.f, h', Option.bind_some]

/-! the reference's joining -/
def inter (L : List (List UInt8)) : List UInt8 := ([47] : List UInt8).intercalate L
def tailJ (L : List (List UInt8)) : List UInt8 := L.flatMap fun x => 47 :: x
theorem inter_cons : ∀ (r : List (List UInt8)) (x : List UInt8), inter (x :: r) = x ++ tailJ r
  | [], x => by rw [inter, J_one]; simp [tailJ]
  | y :: r, x => by
    have := inter_cons r y
    unfold inter at this ⊢
    rw [J_cons, this]
    simp [tailJ]
theorem tailJ_len (B : Nat) : ∀ (L : List (List UInt8)), (∀ x ∈ L, x.length ≤ B) → (tailJ L).length ≤ (B + 1) * L.length
  | [], _ => by simp [tailJ]
  | x :: r, h => by
    have h1 := tailJ_len B r (fun y hy => h y (List.mem_cons_of_mem _ hy))
    have h2 := h x List.mem_cons_self
    have e : tailJ (x :: r) = 47 :: x ++ tailJ r := by simp [tailJ]
    rw [e]
    simp only [List.length_append, List.length_cons, Nat.mul_add, Nat.mul_one]
    omega
theorem Join_loop (L : List (List UInt8)) (hL : ∀ x ∈ L, x.length ≤ 10000) (hn : L.length ≤ 10000) : ∀ (ts : List (List UInt8)) (i k : Nat) (acc : List UInt8), L.drop i = ts → 0 < i → ts.length < k → acc.length ≤ 10001 * i →
    spec_Join.l0 k (ofB acc) (L.map ofB) (L.length : Int) (i : Int) = some (ofB (acc ++ tailJ ts)) := by
  intro ts
  induction ts with
  | nil =>
    intro i k acc hd hi hk ha
    obtain ⟨k, rfl⟩ : ∃ m, k = m + 1 := ⟨k - 1, by omega⟩
    have hle : L.length ≤ i := List.drop_eq_nil_iff.1 hd
    rw [spec_Join.l0, if_neg (by omega)]
    simp [tailJ]
  | cons t ts ih =>
    intro i k acc hd hi hk ha
    obtain ⟨k, rfl⟩ : ∃ m, k = m + 1 := ⟨k - 1, by omega⟩
    simp only [List.length_cons] at hk
    obtain ⟨h1, h2, h3⟩ := drop_cons hd
    have ht := hL t (h2 ▸ List.getElem_mem h1)
    have e0 : (i : Int) < (L.length : Int) := by omega
    have e1 : (i : Int) < ((L.map ofB).length : Int) := by simp; omega
    have e2 : (i : Int) > 0 := by omega
    have e3 : (ofB acc).size + 1 ≤ 9223372036854775807 := by rw [ofB_size]; omega
    have e4 : ofB acc ++ (⟨#[47]⟩ : ByteArray) = ofB (acc ++ [47]) := ofB_append acc [47]
    have e5 : (ofB (acc ++ [47])).size + (ofB t).size ≤ 9223372036854775807 := by rw [ofB_size, ofB_size]; simp; omega
    rw [spec_Join.l0, if_pos e0, if_pos (Int.natCast_nonneg _), if_pos e1, if_pos e2, if_pos e3, rdOf_ofB L i h1, h2, e4, if_pos e5, ofB_append, wsucc i (by omega), ih (i + 1) k _ h3 (by omega) (by omega) (by simp; omega)]
    simp [tailJ]
theorem specJoin_eq (L : List (List UInt8)) (hL : ∀ x ∈ L, x.length ≤ 10000) (hn : L.length ≤ 10000) (k : Nat) (hk : L.length < k) : spec_Join.f k (L.map ofB) = some (ofB (inter L)) := by
  obtain ⟨k, rfl⟩ : ∃ m, k = m + 1 := ⟨k - 1, by omega⟩
  rw [spec_Join.f, List.length_map]
  cases L with
  | nil => rw [spec_Join.l0, if_neg (by simp)]; rfl
  | cons x r =>
    have hx := hL x List.mem_cons_self
    have e0 : (0 : Int) < (((x :: r).length : Nat) : Int) := by simp only [List.length_cons]; omega
    have e1 : (0 : Int) < ((((x :: r).map ofB).length : Nat) : Int) := by simp only [List.length_map, List.length_cons]; omega
    have e2 : rdOf ByteArray.empty ((x :: r).map ofB) 0 = ofB x := rfl
    have e3 : (⟨#[]⟩ : ByteArray).size + (ofB x).size ≤ 9223372036854775807 := by rw [ofB_size]; show 0 + x.length ≤ _; omega
    have e4 : (⟨#[]⟩ : ByteArray) ++ ofB x = ofB x := ofB_append [] x
    have e5 := wsucc 0 (by omega)
    have e6 : ((0 : Nat) : Int) = 0 := rfl
    rw [e6] at e5
    simp only [List.length_cons] at hk
    rw [spec_Join.l0, if_pos e0, if_pos (Int.le_refl 0), if_pos e1, if_neg (by omega), e2, if_pos e3, e4, e5, Join_loop (x :: r) hL hn r 1 k x rfl (by omega) (by omega) (by omega), inter_cons]

/-! equal lists -/
theorem EqualS_loop (L : List ByteArray) (hn : L.length ≤ 1000000000) : ∀ (ts : List ByteArray) (i k : Nat), L.drop i = ts → ts.length < k → slices_Equal_string_string.l0 k L L (L.length : Int) (i : Int) = some true := by
  intro ts
  induction ts with
  | nil =>
    intro i k hd hk
    obtain ⟨k, rfl⟩ : ∃ m, k = m + 1 := ⟨k - 1, by omega⟩
    have hle : L.length ≤ i := List.drop_eq_nil_iff.1 hd
    rw [slices_Equal_string_string.l0, if_neg (by omega)]
  | cons t ts ih =>
    intro i k hd hk
    obtain ⟨k, rfl⟩ : ∃ m, k = m + 1 := ⟨k - 1, by omega⟩
    simp only [List.length_cons] at hk
    obtain ⟨h1, h2, h3⟩ := drop_cons hd
    have e0 : (i : Int) < (L.length : Int) := by omega
    rw [slices_Equal_string_string.l0, if_pos e0, if_pos (Int.natCast_nonneg _), if_pos e0, if_pos e0, if_pos rfl, wsucc i (by omega), ih (i + 1) k h3 (by omega)]
theorem EqualS (L : List ByteArray) (hn : L.length ≤ 1000000000) (k : Nat) (hk : L.length < k) : slices_Equal_string_string.f k L L = some true := by
  rw [slices_Equal_string_string.f, if_pos rfl]
  exact EqualS_loop L hn L 0 k rfl hk
theorem live (k : Nat) (hk : 60 ≤ k) : laws_segmentsLive.f k = some true := at_rounds laws_segmentsLive.mono hk (by decide +kernel)

theorem inter_els : ∀ l : List UInt8, inter (els l) = l
  | [] => rfl
  | c :: t => by
    have ih := inter_els t
    obtain ⟨e, r, h⟩ := els_ne t
    rw [h, inter_cons] at ih
    rw [els, h]
    by_cases hc : c = 47
    · simp only [if_pos hc]
      rw [inter_cons, hc]
      simp [tailJ] at ih ⊢
      exact ih
    · simp only [if_neg hc]
      rw [inter_cons, List.cons_append, ih]
theorem els_one (x : List UInt8) (h : (els x).length ≤ 1) : els x = [x] := by
  cases hf : fi x with
  | none => exact fi_none x hf
  | some p =>
    obtain ⟨_, h2⟩ := fi_some x p hf
    obtain ⟨e, r, h3⟩ := els_ne (x.drop (p + 1))
    rw [h2, h3] at h
    simp at h
theorem flat_one : ∀ X : List (List UInt8), (∀ x ∈ X, els x = [x]) → X.flatMap els = X
  | [], _ => rfl
  | x :: X, h => by
    rw [List.flatMap_cons, h x List.mem_cons_self, flat_one X (fun y hy => h y (List.mem_cons_of_mem _ hy))]; rfl
theorem map_ofB (l : List ByteArray) : l = (l.map (·.data.toList)).map ofB := by
  rw [List.map_map]
  conv => lhs; rw [← List.map_id l]
  apply List.map_congr_left
  intro x _
  exact eq_ofB x
theorem implSplit_eq (l : List UInt8) (hl : l.length ≤ 100000000) (k : Nat) (hk : l.length + 1 < k) : impl_PathSplit.f k (ofB l) = some ((els l).map ofB) := by
  have h := els_len l
  rw [impl_PathSplit.f, path_SplitList.f, zzSplit_eq l hl k hk, Option.bind_some, Option.bind_some, slices_Clone_string_string.f, if_pos (by simp; omega), Option.bind_some]
theorem implJoined_eq (X : List (List UInt8)) (hX : ∀ x ∈ X, x.length ≤ 10000) (hn : X.length ≤ 10000) : impl_PathJoined.f (X.map ofB) = some (ofB (inter X)) := by
  have e1 : (X.map ofB).map (·.data.toList) = X := by
    rw [List.map_map]
    conv => rhs; rw [← List.map_id X]
    exact List.map_congr_left fun x _ => ofB_data x
  have e2 : Go.Lib.join X (⟨#[47]⟩ : ByteArray).data.toList = inter X := rfl
  have e3 : (inter X).length ≤ 1000000000 := by
    cases X with
    | nil => simp [inter]
    | cons x r =>
      have h1 := tailJ_len 10000 r (fun y hy => hX y (List.mem_cons_of_mem _ hy))
      have h2 := hX x List.mem_cons_self
      simp only [List.length_cons] at hn
      rw [inter_cons, List.length_append]
      omega
  rw [impl_PathJoined.f, slices_Clone_string_string.f, if_pos (by simp; omega), Option.bind_some, path_Join.f, strings_Join.f, e1, e2, if_pos ⟨by simp; omega, by omega⟩, Option.bind_some, Option.bind_some]
  rfl
theorem Fits_loop (L : List ByteArray) (hn : L.length ≤ 2147483647) : ∀ (ts : List ByteArray) (i k : Nat), L.drop i = ts → ts.length < k → ∃ b, laws_zzFits6.l0 k L (L.length : Int) (i : Int) = some b := by
  intro ts
  induction ts with
  | nil =>
    intro i k hd hk
    obtain ⟨k, rfl⟩ : ∃ m, k = m + 1 := ⟨k - 1, by omega⟩
    have hle : L.length ≤ i := List.drop_eq_nil_iff.1 hd
    exact ⟨true, by rw [laws_zzFits6.l0, if_neg (by omega)]⟩
  | cons t ts ih =>
    intro i k hd hk
    obtain ⟨k, rfl⟩ : ∃ m, k = m + 1 := ⟨k - 1, by omega⟩
    simp only [List.length_cons] at hk
    obtain ⟨h1, h2, h3⟩ := drop_cons hd
    have e0 : (i : Int) < (L.length : Int) := by omega
    obtain ⟨b, hb⟩ := ih (i + 1) k h3 (by omega)
    rw [laws_zzFits6.l0, if_pos e0, if_pos (Int.natCast_nonneg _), if_pos e0, wsucc i (by omega), hb]
    split <;> exact ⟨_, rfl⟩
theorem Fits (L : List ByteArray) (k : Nat) (hk : L.length < k) : ∃ b, laws_zzFits6.f k L = some b := by
  rw [laws_zzFits6.f]
  by_cases h : (L.length : Int) > 2147483647
  · exact ⟨false, by rw [if_pos h]⟩
  · rw [if_neg h]
    exact Fits_loop L (by omega) L 0 k rfl hk
theorem rdOf_get (L : List ByteArray) (i : Nat) (h : i < L.length) : rdOf ByteArray.empty L (i : Int) = L[i] := by
  unfold rdOf
  rw [Int.toNat_natCast, List.getD_eq_getElem?_getD, List.getElem?_eq_getElem h]
  rfl
theorem Has1_loop (L : List ByteArray) (hn : L.length ≤ 1000000) : ∀ (ts : List ByteArray) (i k : Nat), L.drop i = ts → ts.length < k → ∃ r, slices_IndexFunc_string_string_FnPathSplit_1.l0 k L (L.length : Int) (i : Int) = some r ∧ (r < 0 → ∀ x ∈ ts, x.size ≤ 100) := by
  intro ts
  induction ts with
  | nil =>
    intro i k hd hk
    obtain ⟨k, rfl⟩ : ∃ m, k = m + 1 := ⟨k - 1, by omega⟩
    have hle : L.length ≤ i := List.drop_eq_nil_iff.1 hd
    exact ⟨-1, by rw [slices_IndexFunc_string_string_FnPathSplit_1.l0, if_neg (by omega)], fun _ x hx => by simp at hx⟩
  | cons t ts ih =>
    intro i k hd hk
    obtain ⟨k, rfl⟩ : ∃ m, k = m + 1 := ⟨k - 1, by omega⟩
    simp only [List.length_cons] at hk
    obtain ⟨h1, h2, h3⟩ := drop_cons hd
    have e0 : (i : Int) < (L.length : Int) := by omega
    obtain ⟨r, hr, hr2⟩ := ih (i + 1) k h3 (by omega)
    rw [slices_IndexFunc_string_string_FnPathSplit_1.l0, if_pos e0, if_pos (Int.natCast_nonneg _), if_pos e0, rdOf_get L i h1, h2, laws_FnPathSplit_1.f, Option.bind_some]
    by_cases hc : (t.size : Int) > 100
    · rw [if_pos (by simpa using hc)]
      exact ⟨_, rfl, fun h => by omega⟩
    · rw [if_neg (by simpa using hc), wsucc i (by omega), hr]
      exact ⟨r, rfl, fun h x hx => by
        rcases List.mem_cons.1 hx with hx | hx
        · subst hx; omega
        · exact hr2 h x hx⟩
theorem Has1 (L : List ByteArray) (hn : L.length ≤ 1000000) (k : Nat) (hk : L.length < k) : ∃ b, slices_ContainsFunc_string_string_FnPathSplit_1.f k L () = some b ∧ (b = false → ∀ x ∈ L, x.size ≤ 100) := by
  obtain ⟨r, hr, h⟩ := Has1_loop L hn L 0 k rfl hk
  have e0 : ((0 : Nat) : Int) = 0 := rfl
  rw [e0] at hr
  rw [slices_ContainsFunc_string_string_FnPathSplit_1.f, slices_IndexFunc_string_string_FnPathSplit_1.f, hr, Option.bind_some]
  exact ⟨_, rfl, fun hb => h (by have := of_decide_eq_false hb; omega)⟩
theorem Has2_loop (X : List (List UInt8)) (hX : ∀ x ∈ X, x.length ≤ 100) (hn : X.length ≤ 1000000) : ∀ (ts : List (List UInt8)) (i k : Nat), X.drop i = ts → ts.length + 200 < k → ∃ r, slices_IndexFunc_string_string_FnPathSplit_2.l0 k (X.map ofB) (X.length : Int) (i : Int) = some r ∧ (r < 0 → ∀ x ∈ ts, els x = [x]) := by
  intro ts
  induction ts with
  | nil =>
    intro i k hd hk
    obtain ⟨k, rfl⟩ : ∃ m, k = m + 1 := ⟨k - 1, by omega⟩
    have hle : X.length ≤ i := List.drop_eq_nil_iff.1 hd
    exact ⟨-1, by rw [slices_IndexFunc_string_string_FnPathSplit_2.l0, if_neg (by omega)], fun _ x hx => by simp at hx⟩
  | cons t ts ih =>
    intro i k hd hk
    obtain ⟨k, rfl⟩ : ∃ m, k = m + 1 := ⟨k - 1, by omega⟩
    simp only [List.length_cons] at hk
    obtain ⟨h1, h2, h3⟩ := drop_cons hd
    have e0 : (i : Int) < (X.length : Int) := by omega
    have e1 : (i : Int) < ((X.map ofB).length : Int) := by simp; omega
    have ht := hX t (h2 ▸ List.getElem_mem h1)
    obtain ⟨r, hr, hr2⟩ := ih (i + 1) k h3 (by omega)
    rw [slices_IndexFunc_string_string_FnPathSplit_2.l0, if_pos e0, if_pos (Int.natCast_nonneg _), if_pos e1, rdOf_ofB X i h1, h2, laws_FnPathSplit_2.f, specSplit_eq t (by omega) k (by omega), Option.bind_some, Option.bind_some, List.length_map]
    by_cases hc : ((els t).length : Int) > 1
    · rw [if_pos (by simpa using hc)]
      exact ⟨_, rfl, fun h => by omega⟩
    · rw [if_neg (by simpa using hc), wsucc i (by omega), hr]
      exact ⟨r, rfl, fun h x hx => by
        rcases List.mem_cons.1 hx with hx | hx
        · subst hx; exact els_one x (by omega)
        · exact hr2 h x hx⟩
theorem Has2 (X : List (List UInt8)) (hX : ∀ x ∈ X, x.length ≤ 100) (hn : X.length ≤ 1000000) (k : Nat) (hk : X.length + 200 < k) : ∃ b, slices_ContainsFunc_string_string_FnPathSplit_2.f k (X.map ofB) () = some b ∧ (b = false → ∀ x ∈ X, els x = [x]) := by
  obtain ⟨r, hr, h⟩ := Has2_loop X hX hn X 0 k rfl hk
  have e0 : ((0 : Nat) : Int) = 0 := rfl
  rw [e0] at hr
  rw [slices_ContainsFunc_string_string_FnPathSplit_2.f, slices_IndexFunc_string_string_FnPathSplit_2.f, List.length_map, hr, Option.bind_some]
  exact ⟨_, rfl, fun hb => h (by have := of_decide_eq_false hb; omega)⟩

theorem FnPathSplit : laws_FnPathSplit.Pure := by
  intro a0 l1 _ _
  obtain ⟨k, hk⟩ : ∃ k, k = l1.length + 1000000 := ⟨_, rfl⟩
  refine ⟨k + 1 + 1 + 1 + 1, ?_⟩
  rw [laws_FnPathSplit.f]
  by_cases c1 : (a0.size : Int) > 2147483647
  · rw [if_pos c1, laws_FnPathSplit.j0, if_pos rfl]
  rw [if_neg c1]
  obtain ⟨b, hb⟩ := Fits l1 (k + 1 + 1 + 1 + 1) (by omega)
  rw [hb, Option.bind_some, laws_FnPathSplit.j0]
  cases b with
  | false => rw [if_pos (by decide)]
  | true =>
    have hdone : laws_FnPathSplit.j1 (k + 1 + 1 + 1) a0 l1 true = some true := by rw [laws_FnPathSplit.j1, if_pos rfl, live _ (by omega), Option.bind_some]
    rw [if_neg (by decide)]
    by_cases c2 : (a0.size : Int) > 2000
    · rw [if_pos c2, hdone]
    rw [if_neg c2]
    by_cases c3 : (l1.length : Int) > 100
    · rw [if_pos c3, hdone]
    rw [if_neg c3]
    obtain ⟨b, hb, hb2⟩ := Has1 l1 (by omega) (k + 1 + 1 + 1) (by omega)
    rw [hb, Option.bind_some]
    cases b with
    | true => rw [hdone]
    | false =>
      have hs := hb2 rfl
      obtain ⟨X, hX⟩ : ∃ X, X = l1.map (·.data.toList) := ⟨_, rfl⟩
      have hl : l1 = X.map ofB := by rw [hX]; exact map_ofB l1
      have hXl : X.length = l1.length := by rw [hX, List.length_map]
      have hXs : ∀ x ∈ X, x.length ≤ 100 := by
        intro x hx
        rw [hX] at hx
        obtain ⟨y, hy, rfl⟩ := List.mem_map.1 hx
        exact hs y hy
      obtain ⟨s, hs0⟩ : ∃ s, s = a0.data.toList := ⟨_, rfl⟩
      have ha : a0 = ofB s := by rw [hs0]; exact eq_ofB a0
      have hsl : s.length ≤ 2000 := by rw [hs0, ← size_len]; omega
      have hel := els_len s
      have hem := els_mem s
      subst ha
      rw [hl]
      have hlive := live (k + 1 + 1) (by omega)
      have hj := implJoined_eq X (fun x hx => Nat.le_trans (hXs x hx) (by omega)) (by omega)
      have h3 : laws_FnPathSplit.j3 (k + 1) (X.map ofB) false = some true := by rw [laws_FnPathSplit.j3, if_neg (by decide), live k (by omega), Option.bind_some]
      have h2 : laws_FnPathSplit.j2 (k + 1 + 1) (X.map ofB) false = some true := by
        rw [laws_FnPathSplit.j2, if_neg (by decide)]
        by_cases c4 : ((X.map ofB).length : Int) > 0
        · rw [if_pos c4]
          obtain ⟨b, hb, hb2⟩ := Has2 X hXs (by omega) (k + 1) (by omega)
          rw [hb, Option.bind_some]
          cases b with
          | true => exact h3
          | false =>
            have hone := hb2 rfl
            have hX0 : X ≠ [] := by
              intro h
              rw [h] at c4
              simp at c4
            obtain ⟨y, Y, hYX⟩ : ∃ y Y, X = y :: Y := by
              cases X with
              | nil => exact absurd rfl hX0
              | cons y Y => exact ⟨y, Y, rfl⟩
            have hel2 : els (inter X) = X := by
              have h1 : els (inter (y :: Y)) = (y :: Y).flatMap els := els_J y Y
              rw [hYX, h1, ← hYX]
              exact flat_one X hone
            have hil : (inter X).length ≤ 1000000 := by
              have h1 := tailJ_len 100 Y (fun z hz => hXs z (by rw [hYX]; exact List.mem_cons_of_mem _ hz))
              have h2 := hXs y (by rw [hYX]; exact List.mem_cons_self)
              have h3 : Y.length + 1 = X.length := by rw [hYX]; rfl
              rw [hYX, inter_cons, List.length_append]
              omega
            have hil2 : (inter X).length + 1 < k := by
              have h1 := tailJ_len 100 Y (fun z hz => hXs z (by rw [hYX]; exact List.mem_cons_of_mem _ hz))
              have h2 := hXs y (by rw [hYX]; exact List.mem_cons_self)
              have h3 : Y.length + 1 = X.length := by rw [hYX]; rfl
              rw [hYX, inter_cons, List.length_append]
              omega
            show laws_FnPathSplit.j3 (k + 1) (X.map ofB) true = some true
            rw [laws_FnPathSplit.j3, if_pos rfl, hj, Option.bind_some, implSplit_eq (inter X) (by omega) k (by omega), Option.bind_some, hel2, EqualS _ (by simp; omega) k (by simp; omega), Option.bind_some, if_pos rfl, live k (by omega), Option.bind_some]
        · rw [if_neg c4]; exact h3
      rw [laws_FnPathSplit.j1, if_neg (by decide), implSplit_eq s (by omega) (k + 1 + 1) (by omega), Option.bind_some, specSplit_eq s (by omega) (k + 1 + 1) (by omega), Option.bind_some, EqualS _ (by simp; omega) _ (by simp; omega), Option.bind_some, if_pos rfl, implJoined_eq (els s) (fun x hx => Nat.le_trans (hem x hx) (by omega)) (by omega), Option.bind_some, inter_els, if_pos rfl, hj, Option.bind_some, specJoin_eq X (fun x hx => Nat.le_trans (hXs x hx) (by omega)) (by omega) (k + 1 + 1) (by omega), Option.bind_some, bne_self_eq_false]
      exact h2

end Go.Proofs.Ytbmeegkgcipmoaa.Pure
