/-
  PLAIN: twelve keys of a topic as lists of bytes. No Go in sight but the names of the parts.
-/
import Derived.Test.Qxb6601595aModsTopic
namespace Go.Proofs.Qxb6601595aMods

def L (s : ByteArray) : List UInt8 := s.data.toList
theorem L_inj {a b : ByteArray} (h : L a = L b) : a = b := by
  apply ByteArray.ext
  apply Array.ext'
  exact h

def pkL (ns t : List UInt8) (j : Nat) : List UInt8 := ns ++ [58, 123] ++ t ++ [125, 58] ++ L (part j)
theorem L_pk (ns t : ByteArray) (j : Nat) : L (pk ns t j) = pkL (L ns) (L t) j := by
  simp [L, pk, pkL]
theorem L_len (s : ByteArray) : (L s).length = s.size := by simp [L]

theorem part_inj : ∀ i j, i < 12 → j < 12 → L (part i) = L (part j) → i = j := by
  have h : ((List.range 12).all fun i => (List.range 12).all fun j => decide (L (part i) = L (part j) → i = j)) = true := by decide +kernel
  intro i j hi hj e
  rw [List.all_eq_true] at h
  have h1 := h i (by simpa using hi)
  rw [List.all_eq_true] at h1
  exact of_decide_eq_true (h1 j (by simpa using hj)) e

theorem pk_ne {ns t : ByteArray} {i j : Nat} (hi : i < 12) (hj : j < 12) (h : i ≠ j) : pk ns t i ≠ pk ns t j := by
  intro e
  have e2 := congrArg L e
  rw [L_pk, L_pk] at e2
  unfold pkL at e2
  exact h (part_inj i j hi hj (List.append_cancel_left e2))
end Go.Proofs.Qxb6601595aMods
