/-
  PLAIN: where the braces stand in a key. No Go in sight but the names of the parts.
-/
import Derived.Test.Qxb6601595aModsPlain
import Derived.Lib.Strings
namespace Go.Proofs.Qxb6601595aMods

/-- Does the byte stand in the text? -/
def hasB (l : List UInt8) (c : Int) : Bool := l.any fun x => (x.toNat : Int) == c

theorem hasB_no {l : List UInt8} {c : Int} (h : hasB l c = false) : ∀ x ∈ l, (x.toNat : Int) ≠ c := by
  intro x hx e
  rw [hasB, List.any_eq_false] at h
  exact h x hx (by simp [e])

/-- A list without c, then c: both halves are told by the whole. -/
theorem split_at {c : UInt8} : ∀ (a b x y : List UInt8), (∀ z ∈ a, z ≠ c) → (∀ z ∈ b, z ≠ c) → a ++ c :: x = b ++ c :: y → a = b ∧ x = y
  | [], [], x, y, _, _, h => by simp at h; exact ⟨rfl, h⟩
  | [], z :: zs, x, y, _, hb, h => by
    simp only [List.nil_append, List.cons_append, List.cons.injEq] at h
    exact absurd h.1.symm (hb z (by simp))
  | z :: zs, [], x, y, ha, _, h => by
    simp only [List.nil_append, List.cons_append, List.cons.injEq] at h
    exact absurd h.1 (ha z (by simp))
  | z :: zs, u :: us, x, y, ha, hb, h => by
    simp only [List.cons_append, List.cons.injEq] at h
    have := split_at zs us x y (fun q hq => ha q (by simp [hq])) (fun q hq => hb q (by simp [hq])) h.2
    exact ⟨by rw [h.1, this.1], this.2⟩

theorem ne_of_int {z c : UInt8} {n : Int} (hc : (c.toNat : Int) = n) (h : (z.toNat : Int) ≠ n) : z ≠ c := by
  intro e; rw [e] at h; exact h hc

theorem pkL_inj {n1 t1 n2 t2 : List UInt8} {i j : Nat} (hi : i < 12) (hj : j < 12) (h1 : hasB n1 123 = false) (h2 : hasB n2 123 = false) (h3 : hasB t1 125 = false) (h4 : hasB t2 125 = false)
    (h : pkL n1 t1 i = pkL n2 t2 j) : n1 = n2 ∧ t1 = t2 ∧ i = j := by
  unfold pkL at h
  have e : ∀ (n t p : List UInt8), n ++ [58, 123] ++ t ++ [125, 58] ++ p = (n ++ [58]) ++ 123 :: (t ++ 125 :: (58 :: p)) := by intro n t p; simp
  rw [e, e] at h
  have c1 : ∀ n : List UInt8, hasB n 123 = false → ∀ z ∈ n ++ [58], z ≠ (123 : UInt8) := by
    intro n hn z hz
    rcases List.mem_append.1 hz with hz | hz
    · exact ne_of_int (n := 123) rfl (hasB_no hn z hz)
    · simp at hz; rw [hz]; decide
  obtain ⟨a1, a2⟩ := split_at _ _ _ _ (c1 n1 h1) (c1 n2 h2) h
  obtain ⟨b1, b2⟩ := split_at _ _ _ _ (fun z hz => ne_of_int (n := 125) rfl (hasB_no h3 z hz)) (fun z hz => ne_of_int (n := 125) rfl (hasB_no h4 z hz)) a2
  simp only [List.cons.injEq, true_and] at b2
  exact ⟨List.append_cancel_right a1, b1, part_inj i j hi hj b2⟩

theorem pk_inj {n1 t1 n2 t2 : ByteArray} {i j : Nat} (hi : i < 12) (hj : j < 12) (h1 : hasB (L n1) 123 = false) (h2 : hasB (L n2) 123 = false) (h3 : hasB (L t1) 125 = false) (h4 : hasB (L t2) 125 = false)
    (h : pk n1 t1 i = pk n2 t2 j) : n1 = n2 ∧ t1 = t2 ∧ i = j := by
  have h' := congrArg L h
  rw [L_pk, L_pk] at h'
  obtain ⟨a, b, c⟩ := pkL_inj hi hj h1 h2 h3 h4 h'
  exact ⟨L_inj a, L_inj b, c⟩

/-! ### Byte by byte -/
theorem L_at (s : ByteArray) (k : Nat) (h : k < s.size) : (L s)[k]? = some s[k] := by
  rw [List.getElem?_eq_getElem (by rw [L_len]; exact h)]; rfl

theorem pk_size (ns t : ByteArray) (j : Nat) : (pk ns t j).size = ns.size + 2 + t.size + 2 + (part j).size := by
  have := L_len (pk ns t j)
  rw [L_pk] at this
  rw [← this]
  simp only [pkL, List.length_append, L_len, List.length_cons, List.length_nil]

theorem pk_ahead {ns t : ByteArray} {j k : Nat} (hn : hasB (L ns) 123 = false) (h : k < (pk ns t j).size) (hk : k < ns.size + 1) : ((pk ns t j)[k].toNat : Int) ≠ 123 := by
  have e := L_at (pk ns t j) k h
  rw [L_pk] at e
  have e2 : pkL (L ns) (L t) j = (L ns ++ [58]) ++ (123 :: (L t ++ [125, 58] ++ L (part j))) := by simp [pkL]
  rw [e2, List.getElem?_append_left (by simp [L_len]; omega)] at e
  have hm := List.mem_of_getElem? e
  rcases List.mem_append.1 hm with hm | hm
  · exact hasB_no hn _ hm
  · simp at hm; rw [hm]; decide

theorem pk_open {ns t : ByteArray} {j : Nat} (h : ns.size + 1 < (pk ns t j).size) : (((pk ns t j)[ns.size + 1]'h).toNat : Int) = 123 := by
  have e := L_at (pk ns t j) (ns.size + 1) h
  rw [L_pk] at e
  have e2 : pkL (L ns) (L t) j = (L ns ++ [58]) ++ (123 :: (L t ++ [125, 58] ++ L (part j))) := by simp [pkL]
  rw [e2, List.getElem?_append_right (by simp [L_len])] at e
  simp [L_len] at e
  rw [← e]; rfl

theorem pk_mid {ns t : ByteArray} {j k : Nat} (ht : hasB (L t) 125 = false) (h : k < (pk ns t j).size) (h1 : ns.size + 1 + 1 ≤ k) (h2 : k < ns.size + 1 + 1 + t.size) : ((pk ns t j)[k].toNat : Int) ≠ 125 := by
  have e := L_at (pk ns t j) k h
  rw [L_pk] at e
  have e2 : pkL (L ns) (L t) j = (L ns ++ [58, 123]) ++ (L t ++ ([125, 58] ++ L (part j))) := by simp [pkL]
  rw [e2, List.getElem?_append_right (by simp [L_len]; omega), List.getElem?_append_left (by simp [L_len]; omega)] at e
  exact hasB_no ht _ (List.mem_of_getElem? e)

theorem pk_shut {ns t : ByteArray} {j : Nat} (h : ns.size + 1 + 1 + t.size < (pk ns t j).size) : (((pk ns t j)[ns.size + 1 + 1 + t.size]'h).toNat : Int) = 125 := by
  have e := L_at (pk ns t j) (ns.size + 1 + 1 + t.size) h
  rw [L_pk] at e
  have e2 : pkL (L ns) (L t) j = (L ns ++ [58, 123] ++ L t) ++ (125 :: 58 :: L (part j)) := by simp [pkL]
  have e3 : (L ns ++ [58, 123] ++ L t).length = ns.size + 1 + 1 + t.size := by simp only [List.length_append, L_len, List.length_cons, List.length_nil]
  rw [e2, List.getElem?_append_right (by omega), e3, Nat.sub_self] at e
  simp at e
  rw [← e]; rfl

theorem pk_cut (ns t : ByteArray) (j : Nat) : (pk ns t j).extract (ns.size + 1 + 1) (ns.size + 1 + 1 + t.size) = t := by
  apply L_inj
  show (ByteArray.extract _ _ _).data.toList = _
  rw [Lib.extract_data]
  show List.take _ (List.drop _ (L (pk ns t j))) = _
  have e2 : pkL (L ns) (L t) j = (L ns ++ [58, 123]) ++ (L t ++ ([125, 58] ++ L (part j))) := by simp [pkL]
  have e3 : (L ns ++ [58, 123]).length = ns.size + 1 + 1 := by simp only [List.length_append, L_len, List.length_cons, List.length_nil]
  rw [L_pk, e2, ← e3, List.drop_left, Nat.add_sub_cancel_left, ← L_len t, List.take_left]
end Go.Proofs.Qxb6601595aMods
