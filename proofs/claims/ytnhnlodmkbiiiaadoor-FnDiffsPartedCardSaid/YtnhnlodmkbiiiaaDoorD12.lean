/- The plain law of the merge. -/
import Derived.Test.YtnhnlodmkbiiiaaDoorD11
namespace Go.Proofs.YtnhnlodmkbiiiaaDoor.HandDif
open Go Go.RowKit Go.Proofs.YtnhnlodmkbiiiaaDoorL Go.Proofs.YtnhnlodmkbiiiaaDoorW.PrintWords Go.Proofs.YtnhnlodmkbiiiaaDoorW.PrintLast Go.Proofs.YtnhnlodmkbiiiaaDoorW.PrintMore Go.Proofs.YtnhnlodmkbiiiaaDoor.PDif
attribute [local go_sem] max2_int min2_int max_two min_two max_three min_three max_four min_four
set_option linter.unusedVariables false
set_option linter.unusedSimpArgs false
/-- The merge told of the changes themselves. -/
structure MT where
  f : ByteArray → Option S78
  ds : List S78
  cs : List (S78 × S78)
def tput (f : ByteArray → Option S78) (h : S78) : ByteArray → Option S78 := fun k => if k = h.f1 then some h else f k
def tstep (s : MT) (g : S78) : MT := match s.f g.f1 with
  | some h => ⟨fun k => if k = g.f1 then none else s.f k, s.ds, s.cs ++ [(g, h)]⟩
  | none => ⟨fun k => if k = g.f1 then none else s.f k, s.ds ++ [g], s.cs⟩
def tlast (f : ByteArray → Option S78) (ds : List S78) (h : S78) : List S78 := match f h.f1 with
  | some _ => ds ++ [h]
  | none => ds
def tput_all (ys : List S78) : ByteArray → Option S78 := ys.foldl tput (fun _ => none)
def tst (xs ys : List S78) : MT := xs.foldl tstep ⟨tput_all ys, [], []⟩
def tds (xs ys : List S78) : List S78 := ys.foldl (tlast (tst xs ys).f) (tst xs ys).ds
def tcs (xs ys : List S78) : List (S78 × S78) := (tst xs ys).cs
/-- One state is the other's, by a map of the blocks. -/
structure Like (q : Nat → S78) (s : MS) (t : MT) : Prop where
  f : ∀ k, t.f k = (s.f k).map q
  ds : t.ds = s.ds.map q
  cs : t.cs = s.cs.map (fun p => (q p.1, q p.2))
theorem put_like (q : Nat → S78) (hs : List Nat) : ∀ (f : PM) (f' : ByteArray → Option S78), (∀ k, f' k = (f k).map q) → ∀ k, (hs.map q).foldl tput f' k = ((hs.foldl (mput (fun g => (q g).f1)) f) k).map q := by
  induction hs with
  | nil => intro f f' h k; exact h k
  | cons g hs ih =>
    intro f f' h k
    rw [List.map_cons, List.foldl_cons, List.foldl_cons]
    refine ih _ _ (fun j => ?_) k
    unfold tput mput
    by_cases hj : j = (q g).f1
    · rw [if_pos hj, if_pos hj]; rfl
    · rw [if_neg hj, if_neg hj]; exact h j
theorem step_like {q : Nat → S78} {s : MS} {t : MT} (h : Like q s t) (g : Nat) : Like q (mstep (fun g => (q g).f1) s g) (tstep t (q g)) := by
  unfold mstep tstep
  have hf := h.f (q g).f1
  have hd : ∀ k, (if k = (q g).f1 then none else t.f k) = (mdel (fun g => (q g).f1) s.f g k).map q := by
    intro k
    unfold mdel
    by_cases hk : k = (q g).f1
    · rw [if_pos hk, if_pos hk]; rfl
    · rw [if_neg hk, if_neg hk]; exact h.f k
  cases he : s.f (q g).f1 with
  | none =>
    rw [he] at hf
    rw [hf]
    exact ⟨hd, by simp [h.ds], h.cs⟩
  | some x =>
    rw [he] at hf
    rw [hf]
    exact ⟨hd, h.ds, by simp [h.cs]⟩
theorem fold_like (q : Nat → S78) (gs : List Nat) : ∀ (s : MS) (t : MT), Like q s t → Like q (gs.foldl (mstep (fun g => (q g).f1)) s) ((gs.map q).foldl tstep t) := by
  induction gs with
  | nil => intro s t h; exact h
  | cons g gs ih => intro s t h; exact ih _ _ (step_like h g)
theorem mst_like (q : Nat → S78) (gs hs : List Nat) : Like q (mst (fun g => (q g).f1) gs hs) (tst (gs.map q) (hs.map q)) :=
  fold_like q gs _ _ ⟨fun k => put_like q hs (fun _ => none) (fun _ => none) (fun _ => rfl) k, rfl, rfl⟩
theorem mds_like (q : Nat → S78) (gs hs : List Nat) : tds (gs.map q) (hs.map q) = (mds (fun g => (q g).f1) gs hs).map q := by
  have h := mst_like q gs hs
  unfold tds mds
  have : ∀ (l : List Nat) (a : List Nat) (b : List S78), b = a.map q → (l.map q).foldl (tlast (tst (gs.map q) (hs.map q)).f) b = (l.foldl (mlast (fun g => (q g).f1) (mst (fun g => (q g).f1) gs hs).f) a).map q := by
    intro l
    induction l with
    | nil => intro a b e; exact e
    | cons g l ih =>
      intro a b e
      rw [List.map_cons, List.foldl_cons, List.foldl_cons]
      refine ih _ _ ?_
      unfold tlast mlast
      rw [h.f]
      cases (mst (fun g => (q g).f1) gs hs).f (q g).f1 with
      | none => exact e
      | some _ => simp [e]
  exact this hs _ _ h.ds
theorem pd_map {al : List Nat} {ds : List S78} (hl : al.length = ds.length) (up : al.Pairwise (· < ·)) : al.map (pd al ds) = ds := by
  apply List.ext_getElem (by rw [List.length_map]; exact hl)
  intro i h1 h2
  rw [List.getElem_map]
  have hi : i < al.length := by rw [hl]; exact h2
  unfold pd
  have : al.idxOf al[i] = i := by
    have hn : al.Nodup := up.imp (fun h => Nat.ne_of_lt h)
    exact hn.idxOf_getElem i hi
  rw [this, List.getD_eq_getElem?_getD, List.getElem?_eq_getElem h2]
  rfl
theorem pd_two {gs hs : List Nat} {xs ys : List S78} (hg : gs.length = xs.length) (hh : hs.length = ys.length) (up : (gs ++ hs).Pairwise (· < ·)) : gs.map (pd (gs ++ hs) (xs ++ ys)) = xs ∧ hs.map (pd (gs ++ hs) (xs ++ ys)) = ys := by
  have h := pd_map (al := gs ++ hs) (ds := xs ++ ys) (by rw [List.length_append, List.length_append, hg, hh]) up
  rw [List.map_append] at h
  exact List.append_inj h (by rw [List.length_map]; exact hg)
theorem merged_said {gs hs : List Nat} {xs ys : List S78} (hg : gs.length = xs.length) (hh : hs.length = ys.length) (up : (gs ++ hs).Pairwise (· < ·)) :
    (mds (pfO (gs ++ hs) (xs ++ ys)) gs hs).map (pd (gs ++ hs) (xs ++ ys)) = tds xs ys ∧ (mst (pfO (gs ++ hs) (xs ++ ys)) gs hs).cs.map (fun p => (pd (gs ++ hs) (xs ++ ys) p.1, pd (gs ++ hs) (xs ++ ys) p.2)) = tcs xs ys := by
  obtain ⟨e1, e2⟩ := pd_two hg hh up
  have h1 := mds_like (pd (gs ++ hs) (xs ++ ys)) gs hs
  have h2 := (mst_like (pd (gs ++ hs) (xs ++ ys)) gs hs).cs
  rw [e1, e2] at h1 h2
  exact ⟨h1.symm, h2.symm⟩
/-! The plain law. -/
instance decMemPath (k : ByteArray) (l : List ByteArray) : Decidable (k ∈ l) := @List.instDecidableMemOfLawfulBEq ByteArray instBEqOfDecidableEq inferInstance k l
theorem put_get (ys : List S78) : ∀ f : ByteArray → Option S78, ∀ k, (∀ h, ys.foldl tput f k = some h → (h ∈ ys ∧ h.f1 = k) ∨ f k = some h) ∧ ((∃ h ∈ ys, h.f1 = k) → ∃ h, ys.foldl tput f k = some h) ∧ (∀ h, f k = some h → ∃ h', ys.foldl tput f k = some h') := by
  induction ys with
  | nil =>
    intro f k
    refine ⟨fun h e => .inr e, fun h => ?_, fun h e => ⟨h, e⟩⟩
    obtain ⟨_, h, _⟩ := h
    cases h
  | cons y ys ih =>
    intro f k
    rw [List.foldl_cons]
    obtain ⟨i1, i2, i3⟩ := ih (tput f y) k
    refine ⟨fun h e => ?_, fun ⟨h, hm, hk⟩ => ?_, fun h e => ?_⟩
    · rcases i1 h e with ⟨hm, hk⟩ | e2
      · exact .inl ⟨List.mem_cons_of_mem _ hm, hk⟩
      · unfold tput at e2
        by_cases hk : k = y.f1
        · rw [if_pos hk] at e2
          injection e2 with e2
          subst e2
          exact .inl ⟨List.mem_cons_self .., hk.symm⟩
        · rw [if_neg hk] at e2
          exact .inr e2
    · rcases List.mem_cons.1 hm with rfl | hm
      · exact i3 h (by unfold tput; rw [if_pos hk.symm])
      · exact i2 ⟨h, hm, hk⟩
    · by_cases hk : k = y.f1
      · exact i3 y (by unfold tput; rw [if_pos hk])
      · exact i3 h (by unfold tput; rw [if_neg hk]; exact e)
/-- What stands behind some of the first list. -/
structure TInv (f0 : ByteArray → Option S78) (xs : List S78) (s : MT) : Prop where
  f : ∀ k, s.f k = if k ∈ s.cs.map (fun p : S78 × S78 => p.1.f1) then none else f0 k
  len : s.ds.length + s.cs.length = xs.length
  nd : (s.cs.map (fun p : S78 × S78 => p.1.f1)).Nodup
  hit : ∀ p ∈ s.cs, p.1 ∈ xs ∧ f0 p.1.f1 = some p.2
theorem tinv_step {f0 : ByteArray → Option S78} {xs : List S78} {s : MT} (h : TInv f0 xs s) (g : S78) : TInv f0 (xs ++ [g]) (tstep s g) := by
  unfold tstep
  have hf := h.f g.f1
  cases he : s.f g.f1 with
  | none =>
    refine ⟨fun k => ?_, ?_, h.nd, fun p hp => ⟨List.mem_append_left _ (h.hit p hp).1, (h.hit p hp).2⟩⟩
    · show (if k = g.f1 then none else s.f k) = _
      by_cases hk : k = g.f1
      · rw [if_pos hk, hk, ← hf, he]
      · rw [if_neg hk]; exact h.f k
    · have := h.len
      simp only [List.length_append, List.length_cons, List.length_nil]
      omega
  | some x =>
    have hn : g.f1 ∉ s.cs.map (fun p : S78 × S78 => p.1.f1) := by
      intro hm
      rw [if_pos hm] at hf
      rw [hf] at he
      cases he
    rw [if_neg hn] at hf
    refine ⟨fun k => ?_, ?_, ?_, fun p hp => ?_⟩
    · show (if k = g.f1 then none else s.f k) = _
      rw [List.map_append]
      by_cases hk : k = g.f1
      · rw [if_pos hk, if_pos (by rw [hk]; exact List.mem_append_right _ (List.mem_singleton_self _))]
      · rw [if_neg hk, h.f k]
        by_cases hm : k ∈ s.cs.map (fun p : S78 × S78 => p.1.f1)
        · rw [if_pos hm, if_pos (List.mem_append_left _ hm)]
        · rw [if_neg hm, if_neg]
          intro hm2
          rcases List.mem_append.1 hm2 with hm2 | hm2
          · exact hm hm2
          · exact hk (List.mem_singleton.1 hm2)
    · have := h.len
      simp only [List.length_append, List.length_cons, List.length_nil]
      omega
    · rw [List.map_append]
      refine List.nodup_append.2 ⟨h.nd, List.pairwise_singleton _ _, ?_⟩
      intro a ha b hb e
      subst e
      rw [List.mem_singleton.1 hb] at ha
      exact hn ha
    · rcases List.mem_append.1 hp with hp | hp
      · exact ⟨List.mem_append_left _ (h.hit p hp).1, (h.hit p hp).2⟩
      · rw [List.mem_singleton.1 hp]
        exact ⟨List.mem_append_right _ (List.mem_singleton_self _), by rw [← hf, he]⟩
theorem tinv_fold {f0 : ByteArray → Option S78} (l : List S78) : ∀ (xs : List S78) (s : MT), TInv f0 xs s → TInv f0 (xs ++ l) (l.foldl tstep s) := by
  induction l with
  | nil => intro xs s h; rw [List.append_nil]; exact h
  | cons g l ih =>
    intro xs s h
    have := ih _ _ (tinv_step h g)
    rw [List.append_assoc] at this
    exact this
theorem tinv (xs ys : List S78) : TInv (tput_all ys) xs (tst xs ys) := by
  have := tinv_fold (f0 := tput_all ys) xs [] ⟨tput_all ys, [], []⟩ ⟨fun k => by simp, rfl, List.nodup_nil, fun p hp => by cases hp⟩
  exact this
theorem tlast_filter (f : ByteArray → Option S78) (l : List S78) : ∀ ds, l.foldl (tlast f) ds = ds ++ l.filter (fun h => (f h.f1).isSome) := by
  induction l with
  | nil => intro ds; simp
  | cons h l ih =>
    intro ds
    rw [List.foldl_cons, ih]
    unfold tlast
    cases he : f h.f1 with
    | none => rw [List.filter_cons_of_neg (by simp [he])]
    | some _ => rw [List.filter_cons_of_pos (by simp [he])]; simp
/-- The paths of the conflicts. -/
def tps (xs ys : List S78) : List ByteArray := (tcs xs ys).map (fun p : S78 × S78 => p.1.f1)
theorem tds_eq (xs ys : List S78) : tds xs ys = (tst xs ys).ds ++ ys.filter (fun h => decide (h.f1 ∉ tps xs ys)) := by
  unfold tds
  rw [tlast_filter]
  congr 1
  apply List.filter_congr
  intro h hm
  rw [(tinv xs ys).f]
  show (if h.f1 ∈ tps xs ys then none else _ : Option S78).isSome = _
  by_cases hk : h.f1 ∈ tps xs ys
  · rw [if_pos hk]; simp [hk]
  · rw [if_neg hk]
    obtain ⟨z, hz⟩ := (put_get ys (fun _ => none) h.f1).2.1 ⟨h, hm, rfl⟩
    show (ys.foldl tput (fun _ => none) h.f1).isSome = _
    rw [hz]
    simp [hk]
theorem tcs_hit (xs ys : List S78) (p : S78 × S78) (hp : p ∈ tcs xs ys) : p.1 ∈ xs ∧ p.2 ∈ ys ∧ p.2.f1 = p.1.f1 := by
  obtain ⟨h1, h2⟩ := (tinv xs ys).hit p hp
  rcases (put_get ys (fun _ => none) p.1.f1).1 p.2 h2 with ⟨h3, h4⟩ | h3
  · exact ⟨h1, h3, h4⟩
  · cases h3
theorem tds_len (xs ys : List S78) : (tst xs ys).ds.length + (tcs xs ys).length = xs.length := (tinv xs ys).len
theorem tps_nodup (xs ys : List S78) : (tps xs ys).Nodup := (tinv xs ys).nd
theorem t_nil_right (xs : List S78) : tds xs [] = xs ∧ tcs xs [] = [] := by
  have : ∀ (l : List S78) (s : MT), (∀ k, s.f k = none) → (∀ k, (l.foldl tstep s).f k = none) ∧ (l.foldl tstep s).ds = s.ds ++ l ∧ (l.foldl tstep s).cs = s.cs := by
    intro l
    induction l with
    | nil => intro s h; exact ⟨h, by simp, rfl⟩
    | cons g l ih =>
      intro s h
      rw [List.foldl_cons]
      have e : tstep s g = ⟨fun k => if k = g.f1 then none else s.f k, s.ds ++ [g], s.cs⟩ := by unfold tstep; rw [h]
      rw [e]
      obtain ⟨h1, h2, h3⟩ := ih ⟨fun k => if k = g.f1 then none else s.f k, s.ds ++ [g], s.cs⟩ (fun k => by show (if k = g.f1 then none else s.f k) = none; split <;> simp [h])
      exact ⟨h1, by rw [h2]; simp, h3⟩
  obtain ⟨_, h2, h3⟩ := this xs ⟨tput_all [], [], []⟩ (fun _ => rfl)
  exact ⟨h2, h3⟩
theorem t_nil_left (ys : List S78) : tds [] ys = ys ∧ tcs [] ys = [] := by
  have hp : tps [] ys = [] := rfl
  refine ⟨?_, rfl⟩
  rw [tds_eq, hp]
  show [] ++ _ = _
  rw [List.nil_append, List.filter_eq_self]
  intro a _
  simp
end Go.Proofs.YtnhnlodmkbiiiaaDoor.HandDif
