/- slices.Sort on names. -/
import Derived.Test.YteekkpofcbcikaaDoorK0
import Derived.Test.YteekkpofcbcikaaDoorShelf
import Derived.Sort.OwnSorted
namespace Go.Proofs.YteekkpofcbcikaaDoor.HandWan
open Go Go.RowKit Go.Proofs.YteekkpofcbcikaaDoorL Go.Proofs.YteekkpofcbcikaaDoorW.PrintWords Go.Proofs.YteekkpofcbcikaaDoorW.PrintLast Go.Proofs.YteekkpofcbcikaaDoorW.PrintMore Go.Proofs.YteekkpofcbcikaaDoor.PWan
attribute [local go_sem] max2_int min2_int max_two min_two max_three min_three max_four min_four
set_option linter.unusedVariables false
set_option linter.unusedSimpArgs false
open Go.Sort
theorem encStr_str (s : ByteArray) : encStr s.data.toList = Value.string s := rfl
theorem sort_calls (w : World) (base : Nat) (v : Value) (ns : List ByteArray) (h : Kd.R Kd.string 9 w base (fun _ => True) v ns) (hl : ns.length ≤ 1000) :
    Calls Tryd.prog 34 #[v] w fun e w' => e = .returned (.tuple #[]) ∧ Kd.R Kd.string 9 w' base (fun _ => True) v (sortN ns) ∧ w.grownBy w' v.ownBlock := by
  have hown := Kd.own_of_R h
  obtain ⟨hn, hcase⟩ := hown
  rcases hcase with ⟨rfl, h0⟩ | ⟨g, cap, cur, rfl, hbase, hb, h1, h2, h3, h4⟩
  · have e0 : ns = [] := List.eq_nil_of_length_eq_zero h0
    subst e0
    refine (Tryd.slices_Sort_string_none none 0 w).mono ?_
    rintro e w' ⟨rfl, rfl⟩
    have es : sortN [] = [] := List.eq_nil_of_length_eq_zero (sortN_len [])
    rw [es]
    exact ⟨rfl, h, grown_of_below (Below.refl _ _) _⟩
  · have hz : (ns.map fun s => s.data.toList).length = ns.length := List.length_map _
    have hmap : (ns.map fun s => s.data.toList).map encStr = encs Value.string ns := by
      rw [List.map_map]
      rfl
    have hH : Holds encStr w g 0 (ns.map fun s => s.data.toList).toArray := holds_of_block hb (by rw [hz, hmap]; simpa using h4)
    have hc := Tryd.slices_Sort_string g 0 cap (ns.map fun s => s.data.toList) w hH (Array.getElem?_eq_some_iff.1 hb).1 (by omega)
    rw [hz] at hc
    refine hc.mono ?_
    rintro e w' ⟨rfl, n, os, rfl⟩
    have hs := ownsRow_sorted (n := n) (os := os) (ss := ns.map fun s => s.data.toList) (ts := (ns.map fun s => s.data.toList).mergeSort fun x y => decide (x ≤ y)) (by simp) hbase hb (by rw [hz]; exact h1) h2 h3
    have he : ((ns.map fun s => s.data.toList).mergeSort fun x y => decide (x ≤ y)).map encStr = encs Value.string (sortN ns) := by
      unfold sortN encs
      rw [List.map_map]
      rfl
    rw [he, hz, ← sortN_len ns] at hs
    rw [← sortN_len ns]
    exact ⟨rfl, Kd.R_of_own hs (fun _ _ => trivial), by rw [show (Value.slice (some ⟨g, 0, none⟩) (sortN ns).length cap).ownBlock = some g from rfl]; exact grownBy_sorted _⟩
end Go.Proofs.YteekkpofcbcikaaDoor.HandWan
