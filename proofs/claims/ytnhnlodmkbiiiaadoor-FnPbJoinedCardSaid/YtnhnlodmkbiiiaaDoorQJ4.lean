/- Two messages of merkledag, one behind the other, are read as one: plain lists and numbers. -/
import Derived.Test.YtnhnlodmkbiiiaaDoorQJD
import Derived.Test.YtnhnlodmkbiiiaaDoorQG10
import Derived.Test.YtnhnlodmkbiiiaaDoorQPPbJoinx2
import Derived.Test.YtnhnlodmkbiiiaaDoorQPPbJoinx3
import Derived.Test.YtnhnlodmkbiiiaaDoorQPPbJoinx7
import Derived.Test.YtnhnlodmkbiiiaaDoorQPPbJoinx9
namespace Go.Proofs.YtnhnlodmkbiiiaaDoor.HandPj
open Go Go.RowKit Go.Proofs.YtnhnlodmkbiiiaaDoorL Go.Proofs.YtnhnlodmkbiiiaaDoorW.PrintWords Go.Proofs.YtnhnlodmkbiiiaaDoorW.PrintLast Go.Proofs.YtnhnlodmkbiiiaaDoorW.PrintMore Go.Proofs.YtnhnlodmkbiiiaaDoor.HandFields Go.Proofs.YtnhnlodmkbiiiaaDoor.PPbJoin
attribute [local go_sem] max2_int min2_int max_two min_two max_three min_three max_four min_four
set_option linter.unusedVariables false
set_option linter.unusedSimpArgs false
open Go.Proofs.YtnhnlodmkbiiiaaDoor.HandPb (mkL mlink hsF' nmF' tsF' mlink_mkL hsF_len2 nmF_len2 tsF_len2 mlink_bytes mkL_fit um_mlink uv_by rdv9 rdv_key or128)
theorem uvar_loopJ : ∀ (n k v : Nat) (acc : List Int), v < 128 ^ (n + 1) → acc.length ≤ 100 → n ≤ 20 → n + acc.length ≤ 100 → n < k → spec_Uvarint.l0 k (v : Int) acc = some (acc ++ uvF n v)
 | n, k, v, acc, hv, ha, hn, hna, hk => by
  obtain ⟨k, rfl⟩ : ∃ m, k = m + 1 := ⟨k - 1, by omega⟩
  unfold spec_Uvarint.l0
  by_cases h : v < 128
  ·have e : uvF n v = [(v : Int)] := by
    match n with
    | 0 => rfl
    | n + 1 => unfold uvF; rw [if_pos h]
   rw [e, if_neg (by omega), if_pos (by omega), show (v : Int) % 256 = (v : Int) by omega]
  ·match n with
   | 0 => simp at hv; omega
   | n + 1 =>
    have e : uvF (n + 1) v = ((v % 128 + 128 : Nat) : Int) :: uvF n (v / 128) := by
     conv => { lhs; unfold uvF }
     rw [if_neg h]
    have hd : v / 128 < 128 ^ (n + 1) := by rw [Nat.div_lt_iff_lt_mul (by decide), ← Nat.pow_succ]; exact hv
    have p1 : (v : Int) ≥ 128 := by omega
    have p2 : acc.length < 140737488355328 := by omega
    have p3 : (v : Int) / 128 = ((v / 128 : Nat) : Int) := by omega
    have p4 : (acc ++ [((v % 128 + 128 : Nat) : Int)]).length = acc.length + 1 := by simp
    have p5 : (acc ++ [((v % 128 + 128 : Nat) : Int)]).length ≤ 100 := by omega
    have p6 : n + (acc ++ [((v % 128 + 128 : Nat) : Int)]).length ≤ 100 := by omega
    have p7 : n ≤ 20 := by omega
    have p8 : n < k := by omega
    clear hv
    rw [e, if_pos p1, if_pos p2, or128, p3, uvar_loopJ n k (v / 128) _ hd p5 p7 p6 p8, List.append_assoc]
    rfl
theorem uvar_eqJ (k v : Nat) (h : v < 2 ^ 64) (hk : 11 ≤ k) : spec_Uvarint.f k (v : Int) = some (uv v) := by
 unfold spec_Uvarint.f
 exact uvar_loopJ 10 k v [] (Nat.lt_of_lt_of_le h (by decide)) (by decide) (by decide) (by decide) (by omega)
theorem pbField_eqJ (k : Nat) (hk : 11 ≤ k) (a t : Int) (xs : List Int) (hx : xs.length ≤ 1000000) (ht : Go.bits .or .u8 ((a * 8) % 256) 2 = t) : spec_pbField.f k a xs = some (t :: (uv xs.length ++ xs)) := by
 unfold spec_pbField.f
 have hl := uv_len xs.length (by omega)
 rw [Option.bind_some, ht, words_u64 _ (by omega) (by omega), uvar_eqJ _ _ (by omega) hk, Option.bind_some, if_pos (by rw [List.length_singleton]; omega), Option.bind_some]
 rw [if_pos (by rw [List.length_append, List.length_singleton]; omega)]
 rfl
/-- A plain link as the fields that are there. -/
def mS (p : S27) : Lnk := mkL p.f0 p.f1 p.f2 p.f3 p.f4 p.f5.toNat
structure OkS (p : S27) : Prop where
 h : p.f3.length ≤ 100
 n : p.f4.size ≤ 100
 t0 : 0 ≤ p.f5
 t1 : p.f5 < 18446744073709551616
 b : ∀ x ∈ p.f3, 0 ≤ x ∧ x ≤ 255
theorem mS_len (p : S27) (hp : OkS p) : (mlink (mS p)).length ≤ 233 := by
 have h0 := hp.t0
 have h1 := hp.t1
 have e0 := hsF_len2 p.f0 p.f3 hp.h
 have e1 := nmF_len2 p.f1 p.f4 hp.n
 have e2 := tsF_len2 p.f2 p.f5.toNat (by omega)
 unfold mS
 rw [mlink_mkL, List.length_append, List.length_append]
 omega
theorem bytes_eqJ (p : S27) (hp : OkS p) : spec_PbLinkBytes.f p.f0 p.f1 p.f2 p.f3 p.f4 p.f5 = some (mlink (mS p)) := by
 have h0 := hp.h; have h1 := hp.n; have h2 := hp.t0; have h3 := hp.t1
 unfold spec_PbLinkBytes.f
 rw [if_pos ⟨by omega, by omega, h2, h3⟩]
 rfl
def lkF (p : S27) : List Int := 18 :: (uv (mlink (mS p)).length ++ mlink (mS p))
def lksF (ls : List S27) : List Int := (ls.map lkF).flatten
def dtF (h : Bool) (d : List Int) : List Int := if h = true then 10 :: (uv d.length ++ d) else []
def pbF (h : Bool) (d : List Int) (ls : List S27) : List Int := lksF ls ++ dtF h d
theorem lkF_len (p : S27) (hp : OkS p) : (lkF p).length ≤ 250 := by
 have h := mS_len p hp
 have h2 := uv_len (mlink (mS p)).length (by omega)
 unfold lkF
 rw [List.length_cons, List.length_append]
 omega
theorem lksF_len : ∀ ls : List S27, (∀ p ∈ ls, OkS p) → (lksF ls).length ≤ 250 * ls.length
 | [], _ => by simp [lksF]
 | p :: ls, h => by
  have h1 := lkF_len p (h p (by simp))
  have h2 := lksF_len ls (fun q hq => h q (by simp [hq]))
  unfold lksF at h2 ⊢
  rw [List.map_cons, List.flatten_cons, List.length_append, List.length_cons]
  omega
theorem dtF_len (h : Bool) (d : List Int) (hd : d.length ≤ 500) : (dtF h d).length ≤ 520 := by
 have h2 := uv_len d.length (by omega)
 unfold dtF
 cases h
 ·simp
 ·rw [if_pos rfl, List.length_cons, List.length_append]; omega
theorem drop_map_cons {ls : List S27} {i : Nat} (h : i < ls.length) : lksF (ls.drop i) = lkF ls[i] ++ lksF (ls.drop (i + 1)) := by
 rw [List.drop_eq_getElem_cons h]
 rfl
theorem rd_T27_at {ls : List S27} {i : Nat} (h : i < ls.length) : rd_T27 ls (i : Int) = ls[i] := by
 unfold rd_T27
 rw [Int.toNat_natCast, List.getD_eq_getElem?_getD, List.getElem?_eq_getElem h]
 rfl
theorem wrap_next (i : Nat) (h : i < 4611686018427387904) : wrap64 ((i : Int) + 1) = ((i + 1 : Nat) : Int) := by unfold wrap64; omega
theorem pbBytes_loop (hd : Bool) (d : List Int) (ls : List S27) (hok : ∀ p ∈ ls, OkS p) (hl : ls.length ≤ 20) (hdl : d.length ≤ 500) : ∀ (m k i : Nat) (acc : List Int), i + m = ls.length → m + 12 ≤ k → acc.length ≤ 250 * i → spec_PbBytes.l0 k acc ls (ls.length : Int) (i : Int) hd d ls = some (acc ++ pbF hd d (ls.drop i))
 | m, k, i, acc, hm, hk, ha => by
  obtain ⟨k, rfl⟩ : ∃ q, k = q + 1 := ⟨k - 1, by omega⟩
  unfold spec_PbBytes.l0
  match m, hm, hk with
  | 0, hm, hk =>
   rw [if_neg (by omega), List.drop_of_length_le (by omega)]
   unfold pbF dtF lksF
   cases hd
   ·rw [if_neg (by decide), if_neg (by decide)]; simp
   ·have h2 := uv_len d.length (by omega)
    rw [if_pos rfl, if_pos rfl, pbField_eqJ k (by omega) 1 10 d (by omega) (by decide +kernel), Option.bind_some, if_pos (by rw [List.length_cons, List.length_append]; omega)]
    simp
  | m + 1, hm, hk =>
   have hi : i < ls.length := by omega
   have hp := hok _ (List.getElem_mem hi)
   have h1 := mS_len _ hp
   have h2 := lkF_len _ hp
   rw [if_pos (by omega), if_pos (by omega), if_pos (by omega), rd_T27_at hi, bytes_eqJ _ hp, Option.bind_some, pbField_eqJ k (by omega) 2 18 _ (by omega) (by decide +kernel), Option.bind_some]
   rw [show (18 : Int) :: (uv (mlink (mS ls[i])).length ++ mlink (mS ls[i])) = lkF ls[i] from rfl, if_pos (by omega), wrap_next i (by omega)]
   rw [pbBytes_loop hd d ls hok hl hdl m k (i + 1) (acc ++ lkF ls[i]) (by omega) (by omega) (by rw [List.length_append]; omega)]
   unfold pbF
   rw [drop_map_cons hi, List.append_assoc, List.append_assoc]
theorem pbBytes_eq (hd : Bool) (d : List Int) (ls : List S27) (hok : ∀ p ∈ ls, OkS p) (hl : ls.length ≤ 20) (hdl : d.length ≤ 500) : spec_PbBytes.f 40 hd d ls = some (pbF hd d ls) := by
 unfold spec_PbBytes.f
 have := pbBytes_loop hd d ls hok hl hdl ls.length 40 0 [] (by omega) (by omega) (by simp)
 rw [List.nil_append, List.drop_zero] at this
 exact this
/-! ### What is written is read back -/
theorem umN_dt (k : Nat) (d rest : List Int) (hd : d.length ≤ 500) (s : Nde) : umN (k + 1) (dtF true d ++ rest) s = umN k rest { s with data := some d } := by
 have hne : dtF true d ++ rest ≠ [] := by simp [dtF]
 have hkey : rdv 10 (dtF true d ++ rest) = some (some (10, uv d.length ++ (d ++ rest))) := by have := rdv_key 10 (by decide) 9 (uv d.length ++ (d ++ rest)); simpa [dtF] using this
 conv => { lhs; unfold umN }
 rw [if_neg hne, hkey, Option.bind_some]
 dsimp only
 rw [if_pos rfl, rdv9 d.length (by omega), Option.bind_some]
 dsimp only
 rw [if_pos (by simp), List.drop_left, List.take_left]
theorem umN_lk (k : Nat) (p : S27) (hp : OkS p) (rest : List Int) (s : Nde) : umN (k + 1) (lkF p ++ rest) s = umN k rest { s with links := s.links ++ [mS p] } := by
 have h1 := mS_len p hp
 have hne : lkF p ++ rest ≠ [] := by simp [lkF]
 have hkey : rdv 10 (lkF p ++ rest) = some (some (18, uv (mlink (mS p)).length ++ (mlink (mS p) ++ rest))) := by have := rdv_key 18 (by decide) 9 (uv (mlink (mS p)).length ++ (mlink (mS p) ++ rest)); simpa [lkF] using this
 have hul : umL 4 (mlink (mS p)) ⟨none, none, none⟩ = some (some (mS p)) := um_mlink _ (mkL_fit (by have := hp.h; omega) (by have := hp.n; omega) (by have := hp.t0; have := hp.t1; omega))
 conv => { lhs; unfold umN }
 rw [if_neg hne, hkey, Option.bind_some]
 dsimp only
 rw [if_neg (by decide), if_pos rfl, rdv9 _ (by omega), Option.bind_some]
 dsimp only
 rw [if_pos (by simp), List.drop_left, List.take_left, hul]
theorem umN_lks : ∀ (ls : List S27), (∀ p ∈ ls, OkS p) → ∀ (k : Nat) (rest : List Int) (s : Nde), umN (k + ls.length) (lksF ls ++ rest) s = umN k rest { s with links := s.links ++ ls.map mS }
 | [], _, k, rest, s => by simp [lksF]
 | p :: ls, h, k, rest, s => by
  have e : lksF (p :: ls) ++ rest = lkF p ++ (lksF ls ++ rest) := by unfold lksF; rw [List.map_cons, List.flatten_cons, List.append_assoc]
  rw [e, List.length_cons, ← Nat.add_assoc, umN_lk _ p (h p (by simp)), umN_lks ls (fun q hq => h q (by simp [hq]))]
  simp
def dOr (h : Bool) (d : List Int) (o : Option (List Int)) : Option (List Int) := if h = true then some d else o
theorem umN_pb (k : Nat) (hd : Bool) (d : List Int) (ls : List S27) (hok : ∀ p ∈ ls, OkS p) (hdl : d.length ≤ 500) (rest : List Int) (s : Nde) (R : Option (Option Nde)) : umN k rest { s with links := s.links ++ ls.map mS, data := dOr hd d s.data } = R → ∃ k', umN k' (pbF hd d ls ++ rest) s = R := by
 intro h
 unfold pbF
 cases hd
 ·refine ⟨k + ls.length, ?_⟩
  rw [List.append_assoc, umN_lks ls hok]
  exact h
 ·refine ⟨k + 1 + ls.length, ?_⟩
  rw [List.append_assoc, umN_lks ls hok, umN_dt _ _ _ hdl]
  exact h
def tt (ha : Bool) (da : List Int) (la : List S27) (hb : Bool) (db : List Int) (lb : List S27) : Nde := ⟨la.map mS ++ lb.map mS, dOr hb db (dOr ha da none)⟩
theorem umN_two (ha hb : Bool) (da db : List Int) (la lb : List S27) (oka : ∀ p ∈ la, OkS p) (okb : ∀ p ∈ lb, OkS p) (hda : da.length ≤ 500) (hdb : db.length ≤ 500) : ∃ k, umN k (pbF ha da la ++ pbF hb db lb) ⟨[], none⟩ = some (some (tt ha da la hb db lb)) := by
 obtain ⟨k1, h1⟩ := umN_pb 1 hb db lb okb hdb [] ⟨la.map mS, dOr ha da none⟩ (some (some (tt ha da la hb db lb))) (by unfold umN; rw [if_pos rfl]; rfl)
 rw [List.append_nil] at h1
 exact umN_pb k1 ha da la oka hda _ ⟨[], none⟩ _ (by rw [List.nil_append]; exact h1)
open Go.Proofs.YtnhnlodmkbiiiaaDoor.HandPb (strOfNums_bytesOf)
/-! ### The same node -/
theorem same_reflJ (l : List Int) : spec_SameBytes.f l l = some true := by unfold spec_SameBytes.f; rw [beq_self_eq_true]
theorem sameLinkJ (p : S27) (h0 : 0 ≤ p.f5) : spec_PbSameLink.f (toS (mS p)).f0 (toS (mS p)).f1 (toS (mS p)).f2 (toS (mS p)).f3 (toS (mS p)).f4 (toS (mS p)).f5 p.f0 p.f1 p.f2 p.f3 p.f4 p.f5 = some true := by
 obtain ⟨b0, b1, b2, xs, st, z⟩ := p
 obtain ⟨m, rfl⟩ := Int.eq_ofNat_of_zero_le h0
 simp only [toS, mS, Int.toNat_natCast]
 cases b0 <;> cases b1 <;> cases b2 <;> simp [spec_PbSameLink.f, spec_PbPlain.f, same_reflJ, mkL, strOfNums_bytesOf, beq_self_eq_true] <;> rfl
theorem same_loop (h h' : Bool) (d d' : List Int) (ls : List S27) (hok : ∀ p ∈ ls, 0 ≤ p.f5) (hl : ls.length ≤ 4611686018427387000) : ∀ (m k i : Nat), i + m = ls.length → m < k → spec_PbSame.l0 k (ls.length : Int) (i : Int) h d (ls.map (fun p => toS (mS p))) h' d' ls = some true
 | m, k, i, hm, hk => by
  obtain ⟨k, rfl⟩ : ∃ q, k = q + 1 := ⟨k - 1, by omega⟩
  unfold spec_PbSame.l0
  match m, hm, hk with
  | 0, hm, hk => rw [if_neg (by omega)]
  | m + 1, hm, hk =>
   have hi : i < ls.length := by omega
   have hi2 : i < (ls.map (fun p => toS (mS p))).length := by rw [List.length_map]; exact hi
   rw [if_pos (by omega), if_pos (by omega), if_pos (by omega), if_pos (by omega), rd_T27_at hi, rd_T27_at hi2, List.getElem_map, sameLinkJ _ (hok _ (List.getElem_mem hi)), Option.bind_some, if_pos rfl, wrap_next i (by omega)]
   exact same_loop h h' d d' ls hok hl m k (i + 1) (by omega) (by omega)
theorem same_eq (h : Bool) (d d' : List Int) (hd : h = true → d = d') (ls : List S27) (hok : ∀ p ∈ ls, 0 ≤ p.f5) (hl : ls.length ≤ 4611686018427387000) : spec_PbSame.f (ls.length + 2) h d (ls.map (fun p => toS (mS p))) h d' ls = some true := by
 have hb : ((((ls.map (fun p => toS (mS p))).length : Nat) : Int) != (ls.length : Int)) = false := by rw [List.length_map]; simp
 have hj : spec_PbSame.j0 (ls.length + 2) false h d (ls.map (fun p => toS (mS p))) h d' ls = some true := by
  simp only [spec_PbSame.j0]
  rw [if_neg (by decide), List.length_map]
  exact same_loop h h d d' ls hok hl ls.length (ls.length + 1) 0 (by omega) (by omega)
 unfold spec_PbSame.f
 rw [if_neg (by rw [bne_self_eq_false]; decide), hb]
 cases h
 ·rw [if_neg (by decide)]; exact hj
 ·obtain rfl := hd rfl
  rw [if_pos rfl, same_reflJ, Option.bind_some, if_pos rfl]
  exact hj
/-! ### The bounds -/
theorem fits22 (p : S27) : ∃ r, laws_zzFits22.f p.f0 p.f1 p.f2 p.f3 p.f4 p.f5 = some r := by
 unfold laws_zzFits22.f
 by_cases h0 : (p.f3.length : Int) > 2147483647
 ·rw [if_pos h0]; exact ⟨_, rfl⟩
 ·rw [if_neg h0]
  by_cases h1 : (p.f4.size : Int) > 2147483647
  ·rw [if_pos h1]; exact ⟨_, rfl⟩
  ·rw [if_neg h1]; exact ⟨_, rfl⟩
theorem fits_loop (ls : List S27) (hl : ls.length ≤ 2147483647) : ∀ (m k i : Nat), i + m = ls.length → m < k → ∃ r, laws_zzFits21.l0 k ls (ls.length : Int) (i : Int) = some r
 | m, k, i, hm, hk => by
  obtain ⟨k, rfl⟩ : ∃ q, k = q + 1 := ⟨k - 1, by omega⟩
  unfold laws_zzFits21.l0
  match m, hm, hk with
  | 0, hm, hk => rw [if_neg (by omega)]; exact ⟨_, rfl⟩
  | m + 1, hm, hk =>
   have hi : i < ls.length := by omega
   obtain ⟨r, hr⟩ := fits22 ls[i]
   rw [if_pos (by omega), if_pos (by omega), if_pos (by omega), rd_T27_at hi, hr, Option.bind_some, wrap_next i (by omega)]
   cases r
   ·rw [if_neg (by decide)]; exact ⟨_, rfl⟩
   ·rw [if_pos rfl]; exact fits_loop ls hl m k (i + 1) (by omega) (by omega)
theorem fits_eq (h : Bool) (d : List Int) (ls : List S27) : ∃ k r, laws_zzFits20.f k h d ls = some r ∧ (r = true → d.length ≤ 2147483647 ∧ ls.length ≤ 2147483647) := by
 refine ⟨ls.length + 2, ?_⟩
 unfold laws_zzFits20.f
 by_cases h0 : (d.length : Int) > 2147483647
 ·rw [if_pos h0]; exact ⟨_, rfl, fun e => by cases e⟩
 ·rw [if_neg h0]
  unfold laws_zzFits21.f
  by_cases h1 : (ls.length : Int) > 2147483647
  ·rw [if_pos h1, Option.bind_some, if_neg (by decide)]; exact ⟨_, rfl, fun e => by cases e⟩
  ·rw [if_neg h1]
   obtain ⟨r, hr⟩ := fits_loop ls (by omega) ls.length (ls.length + 2) 0 (by omega) (by omega)
   have hr' : laws_zzFits21.l0 (ls.length + 2) ls (ls.length : Int) 0 = some r := hr
   rw [hr', Option.bind_some]
   cases r
   ·rw [if_neg (by decide)]; exact ⟨_, rfl, fun e => by cases e⟩
   ·rw [if_pos rfl]; exact ⟨_, rfl, fun _ => ⟨by omega, by omega⟩⟩
theorem small_loop (ls : List S27) (hl : ls.length ≤ 2147483647) : ∀ (m k i : Nat), i + m = ls.length → m < k → ∃ r, laws_pbSmall.l0 k ls (ls.length : Int) (i : Int) = some r ∧ (r = true → ∀ p ∈ ls.drop i, p.f3.length ≤ 100 ∧ p.f4.size ≤ 100)
 | m, k, i, hm, hk => by
  obtain ⟨k, rfl⟩ : ∃ q, k = q + 1 := ⟨k - 1, by omega⟩
  unfold laws_pbSmall.l0
  match m, hm, hk with
  | 0, hm, hk => rw [if_neg (by omega), List.drop_of_length_le (by omega)]; exact ⟨_, rfl, fun _ p hp => by cases hp⟩
  | m + 1, hm, hk =>
   have hi : i < ls.length := by omega
   rw [if_pos (by omega), if_pos (by omega), if_pos (by omega), rd_T27_at hi, wrap_next i (by omega)]
   by_cases h0 : (ls[i].f3.length : Int) > 100
   ·rw [if_pos h0]; exact ⟨_, rfl, fun e => by cases e⟩
   ·rw [if_neg h0]
    by_cases h1 : (ls[i].f4.size : Int) > 100
    ·rw [if_pos h1]; exact ⟨_, rfl, fun e => by cases e⟩
    ·rw [if_neg h1]
     obtain ⟨r, hr, hb⟩ := small_loop ls hl m k (i + 1) (by omega) (by omega)
     refine ⟨r, hr, fun e p hp => ?_⟩
     rw [List.drop_eq_getElem_cons hi] at hp
     rcases List.mem_cons.1 hp with rfl | hp
     ·exact ⟨by omega, by omega⟩
     ·exact hb e p hp
theorem small_eq (h : Bool) (d : List Int) (ls : List S27) (hl : ls.length ≤ 2147483647) : ∃ k r, laws_pbSmall.f k h d ls = some r ∧ (r = true → d.length ≤ 500 ∧ ls.length ≤ 20 ∧ ∀ p ∈ ls, p.f3.length ≤ 100 ∧ p.f4.size ≤ 100) := by
 refine ⟨ls.length + 3, ?_⟩
 unfold laws_pbSmall.f
 by_cases h0 : (d.length : Int) > 500
 ·rw [if_pos h0]
  simp only [laws_pbSmall.j0]
  rw [if_pos trivial]; exact ⟨_, rfl, fun e => by cases e⟩
 ·rw [if_neg h0]
  simp only [laws_pbSmall.j0]
  by_cases h1 : (ls.length : Int) > 20
  ·rw [decide_eq_true h1, if_pos rfl]; exact ⟨_, rfl, fun e => by cases e⟩
  ·rw [decide_eq_false h1, if_neg (by decide)]
   obtain ⟨r, hr, hb⟩ := small_loop ls hl ls.length (ls.length + 2) 0 (by omega) (by omega)
   refine ⟨r, hr, fun e => ⟨by omega, by omega, fun p hp => hb e p (by rw [List.drop_zero]; exact hp)⟩⟩
theorem tt_links (ha hb : Bool) (da db : List Int) (la lb : List S27) : (tt ha da la hb db lb).links.map toS = (la ++ lb).map (fun p => toS (mS p)) := by
 unfold tt
 simp [List.map_append, List.map_map, Function.comp_def]
theorem tt_has (ha hb : Bool) (da db : List Int) (la lb : List S27) : (tt ha da la hb db lb).data.isSome = (ha || hb) := by
 unfold tt dOr
 cases ha <;> cases hb <;> rfl
theorem tt_data (ha hb : Bool) (da db : List Int) (la lb : List S27) : (ha || hb) = true → (tt ha da la hb db lb).data.getD [] = if hb = true then db else da := by
 unfold tt dOr
 cases ha <;> cases hb <;> intro h <;> first | rfl | cases h
theorem pbF_len (h : Bool) (d : List Int) (ls : List S27) (hok : ∀ p ∈ ls, OkS p) (hl : ls.length ≤ 20) (hd : d.length ≤ 500) : (pbF h d ls).length ≤ 6000 := by
 have h1 := lksF_len ls hok
 have h2 := dtF_len h d hd
 unfold pbF
 rw [List.length_append]
 omega
theorem pbF_byte (h : Bool) (d : List Int) (ls : List S27) (hok : ∀ p ∈ ls, OkS p) (hd : d.length ≤ 500) (hb : ∀ x ∈ d, 0 ≤ x ∧ x ≤ 255) : ∀ x ∈ pbF h d ls, 0 ≤ x ∧ x ≤ 255 := by
 intro x hx
 unfold pbF at hx
 rcases List.mem_append.1 hx with hx | hx
 ·unfold lksF at hx
  obtain ⟨l, hl, hx⟩ := List.mem_flatten.1 hx
  obtain ⟨p, hp, rfl⟩ := List.mem_map.1 hl
  have ok := hok p hp
  have h1 := mS_len p ok
  have h3 := ok.t0; have h4 := ok.t1
  unfold lkF at hx
  rcases List.mem_cons.1 hx with rfl | hx
  ·decide
  ·rcases List.mem_append.1 hx with hx | hx
   ·exact uv_by _ (by omega) x hx
   ·exact mlink_bytes p.f0 p.f1 p.f2 p.f3 p.f4 p.f5.toNat ok.b ok.h ok.n (by omega) x hx
 ·unfold dtF at hx
  cases h
  ·cases hx
  ·rcases List.mem_cons.1 hx with rfl | hx
   ·decide
   ·rcases List.mem_append.1 hx with hx | hx
    ·exact uv_by _ (by omega) x hx
    ·exact hb x hx
end Go.Proofs.YtnhnlodmkbiiiaaDoor.HandPj
