/-
  Between the bytes of a Go string and the plain lists: small lemmas for the walks. No walk here.
-/
import Derived.Test.Qxb6001233aModsPlain
import Derived.WalkKit
import Derived.Lib.Strings
namespace Go.Proofs.Qxb6001233aMods
open Go.RowKit

def L (s : ByteArray) : List UInt8 := s.data.toList

theorem L_len (s : ByteArray) : (L s).length = s.size := by simp [L]
theorem L_mk (l : List UInt8) : L ⟨l.toArray⟩ = l := rfl
theorem mk_L (s : ByteArray) : (⟨(L s).toArray⟩ : ByteArray) = s := by simp [L]
theorem L_nil {s : ByteArray} (h : ¬ 0 < s.size) : L s = [] := List.eq_nil_of_length_eq_zero (by rw [L_len]; omega)
theorem L_drop (s : ByteArray) (k : Nat) (h : k < s.size) : (L s).drop k = s[k] :: (L s).drop (k + 1) := by
  rw [Nb.drop_at _ _ (by rw [L_len]; exact h)]; rfl
theorem L_end (s : ByteArray) (k : Nat) (h : ¬ k < s.size) : (L s).drop k = [] := List.drop_eq_nil_of_le (by rw [L_len]; omega)

theorem sgn_nil {l : List UInt8} (h : l = []) : Nb.sgnL l = false := by rw [h]; rfl
theorem sgn_pos {l cs : List UInt8} {c : UInt8} (h : l = c :: cs) : Nb.sgnL l = ((c.toNat : Int) == 43 || (c.toNat : Int) == 45) := by
  rw [h]
  simp only [Nb.sgnL]
  rw [Bool.eq_iff_iff]
  simp only [Bool.or_eq_true, beq_iff_eq]
  omega
theorem neg_nil {l : List UInt8} (h : l = []) : Nb.negL l = false := by rw [h]; rfl
theorem neg_pos {l cs : List UInt8} {c : UInt8} (h : l = c :: cs) : Nb.negL l = ((c.toNat : Int) == 45) := by
  rw [h]
  simp only [Nb.negL]
  rw [Bool.eq_iff_iff]
  simp only [beq_iff_eq]
  omega
theorem isE_nil {l : List UInt8} (h : l = []) : Nb.isE l = false := by rw [h]; rfl
theorem isE_pos {l cs : List UInt8} {c : UInt8} (h : l = c :: cs) : Nb.isE l = ((c.toNat : Int) == 101 || (c.toNat : Int) == 69) := by
  rw [h]
  simp only [Nb.isE]
  rw [Bool.eq_iff_iff]
  simp only [Bool.or_eq_true, beq_iff_eq]
  omega
theorem neg_of_sgn {l : List UInt8} (h : Nb.sgnL l = false) : Nb.negL l = false := by
  cases l with
  | nil => rfl
  | cons c cs =>
    simp only [Nb.sgnL, Bool.or_eq_false_iff] at h
    exact h.2
theorem st_one {l : List UInt8} (h : Nb.sgnL l = true) : Nb.st l = 1 := by unfold Nb.st; rw [if_pos h]
theorem st_nought {l : List UInt8} (h : Nb.sgnL l = false) : Nb.st l = 0 := by unfold Nb.st; rw [if_neg (by rw [h]; decide)]
theorem lt_of_sgn {s : ByteArray} {k : Nat} (h : Nb.sgnL ((L s).drop k) = true) : k < s.size := by
  rcases Nat.lt_or_ge k s.size with h1 | h1
  · exact h1
  · rw [sgn_nil (L_end s k (by omega))] at h; cases h
theorem lt_of_isE {s : ByteArray} {k : Nat} (h : Nb.isE ((L s).drop k) = true) : k < s.size := by
  rcases Nat.lt_or_ge k s.size with h1 | h1
  · exact h1
  · rw [isE_nil (L_end s k (by omega))] at h; cases h

/-! ### The scan's steps, as the walk tells its tests -/
section
variable {X : Nat × Int × Int × Int} {D D' : List UInt8} {c : UInt8} {k : Nat} {p f l : Int}
theorem sc_point (H : Hid (X = Nb.scan D k p f l)) (hd : Hid (D = c :: D')) (h1 : (c.toNat : Int) = 46) (h2 : p < 0) : Hid (X = Nb.scan D' (k + 1) k f l) := by
  have e := H.out
  rw [hd.out, Nb.scan_point (by omega) h2] at e
  exact e
theorem sc_nought (H : Hid (X = Nb.scan D k p f l)) (hd : Hid (D = c :: D')) (h1 : ((c.toNat : Int) != 48) = false) : Hid (X = Nb.scan D' (k + 1) p f l) := by
  have e := H.out
  have h : (c.toNat : Int) = 48 := by simpa using h1
  rw [hd.out, Nb.scan_nought (by omega)] at e
  exact e
theorem sc_first (H : Hid (X = Nb.scan D k p f l)) (hd : Hid (D = c :: D')) (h1 : ((c.toNat : Int) != 48) = true) (h2 : 48 ≤ (c.toNat : Int) ∧ (c.toNat : Int) ≤ 57) (h3 : f < 0) : Hid (X = Nb.scan D' (k + 1) p k k) := by
  have e := H.out
  have h : (c.toNat : Int) ≠ 48 := by simpa using h1
  rw [hd.out, Nb.scan_digit (by omega) (by omega), if_pos h3] at e
  exact e
theorem sc_later (H : Hid (X = Nb.scan D k p f l)) (hd : Hid (D = c :: D')) (h1 : ((c.toNat : Int) != 48) = true) (h2 : 48 ≤ (c.toNat : Int) ∧ (c.toNat : Int) ≤ 57) (h3 : 0 ≤ f) : Hid (X = Nb.scan D' (k + 1) p f k) := by
  have e := H.out
  have h : (c.toNat : Int) ≠ 48 := by simpa using h1
  rw [hd.out, Nb.scan_digit (by omega) (by omega), if_neg (by omega)] at e
  exact e
theorem sc_stop (H : Hid (X = Nb.scan D k p f l)) (hd : Hid (D = c :: D')) (h1 : ¬ ((c.toNat : Int) = 46 ∧ p < 0)) (h2 : (c.toNat : Int) < 48 ∨ 57 < (c.toNat : Int)) : Hid (X = (k, p, f, l)) := by
  have e := H.out
  rw [hd.out, Nb.scan_stop (by omega) (by omega)] at e
  exact e
theorem sc_end (H : Hid (X = Nb.scan D k p f l)) (hd : D = []) : Hid (X = (k, p, f, l)) := by
  have e := H.out
  rw [hd, Nb.scan_nil] at e
  exact e
end

/-- What readNumber hands back. -/
def numV (o : Option Nb.Num) : Value :=
  .tuple #[.agg #[.bool (o.getD Nb.zero).neg, .string ⟨(o.getD Nb.zero).dig.toArray⟩, .int .i64 (o.getD Nb.zero).ex], .bool o.isSome]
theorem numV_none {o : Option Nb.Num} (h : o = none) : numV o = .tuple #[.agg #[.bool false, .string ⟨#[]⟩, .int .i64 0], .bool false] := by rw [h]; rfl
theorem numV_some {o : Option Nb.Num} {n : Nb.Num} (h : o = some n) : numV o = .tuple #[.agg #[.bool n.neg, .string ⟨n.dig.toArray⟩, .int .i64 n.ex], .bool true] := by rw [h]; rfl

theorem fin_q {l : List UInt8} {e : Nat} {p : Int} {f la q : Nat} {x : Int} {o : Option Nb.Num} (h : o = some (Nb.fin l e p f la x)) (hq : (q : Int) = (if p < 0 then (e : Int) else p)) (hf : ¬ (f : Int) < 0)
    {s : Nat} (he : (s : Int) ≤ f ∧ (f : Int) ≤ la ∧ (la : Int) < e ∧ (f : Int) ≠ p ∧ (la : Int) ≠ p) :
    o = some ⟨Nb.negL l, if f < q ∧ q < la then Nb.cut l f q ++ Nb.cut l (q + 1) (la + 1) else Nb.cut l f (la + 1), if f < q then x + q - f - 1 else x + q - f⟩ := by
  rw [h]
  unfold Nb.fin
  rw [if_neg hf]
  by_cases hp : p < 0
  · rw [if_pos hp] at hq
    rw [if_pos hp, if_pos (show (f : Int) < e from by omega), if_neg (show ¬ (f < q ∧ q < la) from by omega), if_pos (show f < q from by omega), hq]
  · rw [if_neg hp] at hq
    rw [if_neg hp, ← hq]
    congr 2
    · by_cases c : f < q ∧ q < la
      · rw [if_pos c, if_pos (by omega)]
      · rw [if_neg c, if_neg (by omega)]
    · by_cases c : f < q
      · rw [if_pos c, if_pos (by omega)]
      · rw [if_neg c, if_neg (by omega)]

theorem extract_cut (s : ByteArray) (a b : Nat) (x y : Int) (hx : x = a) (hy : y = b) : (⟨(Nb.cut (L s) x y).toArray⟩ : ByteArray) = s.extract a b := by
  subst hx; subst hy
  apply ByteArray.ext
  apply Array.ext'
  rw [Lib.extract_data]
  simp [Nb.cut, L, List.take_drop]
  by_cases h : a ≤ b
  · rw [show a + (b - a) = b from by omega]
  · rw [List.drop_eq_nil_of_le (by simp; omega), List.drop_eq_nil_of_le (by simp; omega)]

theorem mk_append (a b : List UInt8) : (⟨(a ++ b).toArray⟩ : ByteArray) = (⟨a.toArray⟩ : ByteArray) ++ ⟨b.toArray⟩ := by
  apply ByteArray.ext
  simp

/-- The mantissa is none. -/
def badB (s e : Nat) (p : Int) : Bool := decide (e = s ∨ (e = s + 1 ∧ p = s))
end Go.Proofs.Qxb6001233aMods
