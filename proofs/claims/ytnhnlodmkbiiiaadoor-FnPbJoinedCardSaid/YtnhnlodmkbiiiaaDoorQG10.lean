/- The law FnPbLinkWrite, walked: it tells true at any link. -/
import Derived.Test.YtnhnlodmkbiiiaaDoorQG9
namespace Go.Proofs.YtnhnlodmkbiiiaaDoor.HandPb
open Go Go.RowKit Go.Proofs.YtnhnlodmkbiiiaaDoorL Go.Proofs.YtnhnlodmkbiiiaaDoorW.PrintWords Go.Proofs.YtnhnlodmkbiiiaaDoorW.PrintLast Go.Proofs.YtnhnlodmkbiiiaaDoorW.PrintMore Go.Proofs.YtnhnlodmkbiiiaaDoor.HandFields Go.Proofs.YtnhnlodmkbiiiaaDoor.PPbShare
attribute [local go_sem] max2_int min2_int max_two min_two max_three min_three max_four min_four
set_option linter.unusedVariables false
set_option linter.unusedSimpArgs false
theorem uv_bytes : ∀ (n v : Nat), v < 128 ^ (n + 1) → ∀ x ∈ uvF n v, 0 ≤ x ∧ x ≤ 255
 | n, v, hv, x, hx => by
  by_cases h : v < 128
  ·have e : uvF n v = [(v : Int)] := by
    match n with
    | 0 => rfl
    | n + 1 => unfold uvF; rw [if_pos h]
   rw [e] at hx
   simp only [List.mem_singleton] at hx
   omega
  ·match n with
   | 0 => simp at hv; omega
   | n + 1 =>
    have e : uvF (n + 1) v = ((v % 128 + 128 : Nat) : Int) :: uvF n (v / 128) := by
     conv => { lhs; unfold uvF }
     rw [if_neg h]
    have hd : v / 128 < 128 ^ (n + 1) := by rw [Nat.div_lt_iff_lt_mul (by decide), ← Nat.pow_succ]; exact hv
    rw [e] at hx
    rcases List.mem_cons.1 hx with rfl | hx
    ·clear hv hd; omega
    ·exact uv_bytes n (v / 128) hd x hx
theorem uv_by (v : Nat) (h : v < 2 ^ 64) : ∀ x ∈ uv v, 0 ≤ x ∧ x ≤ 255 := uv_bytes 10 v (Nat.lt_of_lt_of_le h (by decide))
theorem bytesOf_by (st : ByteArray) : ∀ x ∈ bytesOf st, 0 ≤ x ∧ x ≤ 255 := fun x hx => by
 unfold bytesOf at hx
 obtain ⟨b, _, rfl⟩ := List.mem_map.1 hx
 have := b.toNat_lt
 omega
theorem hsF_len2 (b : Bool) (xs : List Int) (h : xs.length ≤ 100) : (hsF' b xs).length ≤ 111 := by
 have := uv_len xs.length (by omega)
 unfold hsF'; cases b <;> simp; omega
theorem nmF_len2 (b : Bool) (st : ByteArray) (h : st.size ≤ 100) : (nmF' b st).length ≤ 111 := by
 have h2 := bytesOf_length st
 have := uv_len (bytesOf st).length (by omega)
 unfold nmF'; cases b <;> simp; omega
theorem tsF_len2 (b : Bool) (m : Nat) (h : m < 2 ^ 64) : (tsF' b m).length ≤ 11 := by
 have := uv_len m h
 unfold tsF'; cases b <;> simp; omega
theorem mlink_bytes (b0 b1 b2 : Bool) (xs : List Int) (st : ByteArray) (m : Nat) (hb : ∀ x ∈ xs, 0 ≤ x ∧ x ≤ 255) (h1 : xs.length ≤ 100) (h2 : st.size ≤ 100) (hm : m < 2 ^ 64) : ∀ x ∈ mlink (mkL b0 b1 b2 xs st m), 0 ≤ x ∧ x ≤ 255 := by
 rw [mlink_mkL]
 have k1 := uv_by xs.length (by omega)
 have k2 := uv_by (bytesOf st).length (by rw [bytesOf_length]; omega)
 have k3 := uv_by m hm
 have k4 := bytesOf_by st
 intro x hx
 simp only [List.mem_append] at hx
 rcases hx with (hx | hx) | hx
 ·cases b0
  ·cases hx
  ·rcases List.mem_cons.1 hx with rfl | hx
   ·decide
   ·rcases List.mem_append.1 hx with hx | hx
    ·exact k1 x hx
    ·exact hb x hx
 ·cases b1
  ·cases hx
  ·rcases List.mem_cons.1 hx with rfl | hx
   ·decide
   ·rcases List.mem_append.1 hx with hx | hx
    ·exact k2 x hx
    ·exact k4 x hx
 ·cases b2
  ·cases hx
  ·rcases List.mem_cons.1 hx with rfl | hx
   ·decide
   ·exact k3 x hx
section
set_option maxHeartbeats 16000000
set_option maxRecDepth 100000
variable (w : World) (b0 b1 b2 : Bool) (A0 : Option Addr) (cp : Nat) (xs : List Int) (st : ByteArray) (m : Nat)
end
end Go.Proofs.YtnhnlodmkbiiiaaDoor.HandPb
