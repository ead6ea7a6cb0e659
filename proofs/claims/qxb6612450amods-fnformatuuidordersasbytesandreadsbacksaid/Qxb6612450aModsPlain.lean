/-
  PLAIN: hexadecimal texts and their dashes as lists of bytes; how two of them compare. No Go in sight.
-/
namespace Go.Proofs.Qxb6612450aMods

/-- Byte j of a list, as a number. -/
def bt (B : List UInt8) (j : Nat) : Int := ((B.getD j 0).toNat : Int)
theorem bt_lo (B : List UInt8) (j : Nat) : 0 ≤ bt B j := by unfold bt; omega
theorem bt_hi (B : List UInt8) (j : Nat) : bt B j ≤ 255 := by unfold bt; have := (B.getD j 0).toNat_lt; omega
theorem bt_some {B : List UInt8} {j : Nat} {c : UInt8} (h : B[j]? = some c) : bt B j = c.toNat := by
  unfold bt
  rw [List.getD_eq_getElem?_getD, h]
  rfl
theorem bt_eq {A B : List UInt8} {i j : Nat} (h : A[i]? = B[j]?) : bt A i = bt B j := by
  unfold bt
  rw [List.getD_eq_getElem?_getD, List.getD_eq_getElem?_getD, h]

/-- The digit of a nibble. -/
def nibU (x : Nat) : UInt8 := if x < 10 then UInt8.ofNat (48 + x) else UInt8.ofNat (87 + x)
theorem nibU_nat {x : Nat} (h : x < 16) : (nibU x).toNat = if x < 10 then 48 + x else 87 + x := by
  unfold nibU
  split
  · rw [UInt8.toNat_ofNat']; omega
  · rw [UInt8.toNat_ofNat']; omega

/-- The nibbles of the bytes. -/
def nv : List UInt8 → List Nat
  | [] => []
  | c :: cs => c.toNat / 16 :: c.toNat % 16 :: nv cs
def hexL (B : List UInt8) : List UInt8 := (nv B).map nibU

theorem nv_len : ∀ B : List UInt8, (nv B).length = 2 * B.length
  | [] => rfl
  | c :: cs => by simp only [nv, List.length_cons, nv_len cs]; omega
theorem hexL_len (B : List UInt8) : (hexL B).length = 2 * B.length := by simp [hexL, nv_len]
theorem nv_lt : ∀ (B : List UInt8), ∀ x ∈ nv B, x < 16
  | [], x, h => by simp [nv] at h
  | c :: cs, x, h => by
    simp only [nv, List.mem_cons] at h
    have := c.toNat_lt
    rcases h with h | h | h
    · omega
    · omega
    · exact nv_lt cs x h

/-- Nibble j of the bytes, as a number. -/
def nt (B : List UInt8) (j : Nat) : Nat := (nv B).getD j 0
theorem nt_lt (B : List UInt8) (j : Nat) : nt B j < 16 := by
  unfold nt
  rw [List.getD_eq_getElem?_getD]
  cases h : (nv B)[j]? with
  | none => simp
  | some x => exact nv_lt B x (List.mem_of_getElem? h)
theorem nv_at : ∀ (B : List UInt8) (k : Nat), k < B.length → (nv B)[2 * k]? = some ((bt B k).toNat / 16) ∧ (nv B)[2 * k + 1]? = some ((bt B k).toNat % 16)
  | [], k, h => by simp at h
  | c :: cs, 0, _ => by simp [nv, bt]
  | c :: cs, k + 1, h => by
    have := nv_at cs k (by simpa using h)
    have e : bt (c :: cs) (k + 1) = bt cs k := by simp [bt]
    rw [e, show 2 * (k + 1) = 2 * k + 1 + 1 from by omega]
    simpa [nv] using this
theorem nt_even {B : List UInt8} {k : Nat} (h : k < B.length) : nt B (2 * k) = (bt B k).toNat / 16 := by
  unfold nt; rw [List.getD_eq_getElem?_getD, (nv_at B k h).1]; rfl
theorem nt_odd {B : List UInt8} {k : Nat} (h : k < B.length) : nt B (2 * k + 1) = (bt B k).toNat % 16 := by
  unfold nt; rw [List.getD_eq_getElem?_getD, (nv_at B k h).2]; rfl
theorem hexL_at {B : List UInt8} {j : Nat} (h : j < 2 * B.length) : (hexL B)[j]? = some (nibU (nt B j)) := by
  unfold hexL
  rw [List.getElem?_map]
  unfold nt
  rw [List.getD_eq_getElem?_getD, List.getElem?_eq_getElem (by rw [nv_len]; exact h)]
  rfl

/-! ### The dashes -/
def uuL (h : List UInt8) : List UInt8 :=
  h.take 8 ++ 45 :: ((h.drop 8).take 4 ++ 45 :: ((h.drop 12).take 4 ++ 45 :: ((h.drop 16).take 4 ++ 45 :: h.drop 20)))
theorem uuL_len {h : List UInt8} (hl : 20 ≤ h.length) : (uuL h).length = h.length + 4 := by
  simp only [uuL, List.length_append, List.length_cons, List.length_take, List.length_drop]; omega

/-- How many dashes stand ahead of place i. -/
def ahead (i : Nat) : Nat := (if 8 < i then 1 else 0) + (if 13 < i then 1 else 0) + (if 18 < i then 1 else 0) + (if 23 < i then 1 else 0)
def isDash (i : Nat) : Prop := i = 8 ∨ i = 13 ∨ i = 18 ∨ i = 23

theorem get_app {α : Type} (a b : List α) (i n : Nat) (hn : a.length = n) : (a ++ b)[i]? = if i < n then a[i]? else b[i - n]? := by
  subst hn
  split
  · exact List.getElem?_append_left (by assumption)
  · exact List.getElem?_append_right (by omega)
theorem get_cons {α : Type} (a : α) (b : List α) (i : Nat) : (a :: b)[i]? = if i = 0 then some a else b[i - 1]? := by
  cases i with
  | zero => rfl
  | succ i => simp
theorem get_mid (h : List UInt8) (a n i : Nat) : ((h.drop a).take n)[i]? = if i < n then h[a + i]? else none := by
  rw [List.getElem?_take]
  split
  · rw [List.getElem?_drop]
  · rfl

theorem uuL_dash {h : List UInt8} (hl : 20 ≤ h.length) {i : Nat} (hi : isDash i) : (uuL h)[i]? = some 45 := by
  unfold uuL
  rw [get_app _ _ i 8 (by simp; omega), get_cons, get_app _ _ _ 4 (by simp; omega), get_cons, get_app _ _ _ 4 (by simp; omega), get_cons, get_app _ _ _ 4 (by simp; omega), get_cons]
  rcases hi with rfl | rfl | rfl | rfl <;> rfl

theorem uuL_hex {h : List UInt8} (hl : 20 ≤ h.length) {i : Nat} (hi : ¬ isDash i) : (uuL h)[i]? = h[i - ahead i]? := by
  unfold isDash at hi
  unfold uuL
  rw [get_app _ _ i 8 (by simp; omega), get_cons, get_app _ _ _ 4 (by simp; omega), get_cons, get_app _ _ _ 4 (by simp; omega), get_cons, get_app _ _ _ 4 (by simp; omega), get_cons]
  have ht : (h.take 8)[i]? = if i < 8 then h[i]? else none := by rw [List.getElem?_take]
  rw [ht, get_mid, get_mid, get_mid, List.getElem?_drop]
  unfold ahead
  by_cases c1 : i < 8
  · rw [if_pos c1, if_pos c1, if_neg (by omega), if_neg (by omega), if_neg (by omega), if_neg (by omega)]
    rfl
  · rw [if_neg c1, if_neg (by omega)]
    by_cases c2 : i < 13
    · rw [if_pos (by omega), if_pos (by omega), if_pos (by omega), if_neg (by omega), if_neg (by omega), if_neg (by omega)]
      congr 1
      omega
    · rw [if_neg (by omega), if_neg (by omega)]
      by_cases c3 : i < 18
      · rw [if_pos (by omega), if_pos (by omega), if_pos (by omega), if_pos (by omega), if_neg (by omega), if_neg (by omega)]
        congr 1
        omega
      · rw [if_neg (by omega), if_neg (by omega)]
        by_cases c4 : i < 23
        · rw [if_pos (by omega), if_pos (by omega), if_pos (by omega), if_pos (by omega), if_pos (by omega), if_neg (by omega)]
          congr 1
          omega
        · rw [if_neg (by omega), if_neg (by omega), if_pos (by omega), if_pos (by omega), if_pos (by omega), if_pos (by omega)]
          congr 1
          omega

/-- The text of the bytes. -/
def uu (B : List UInt8) : List UInt8 := uuL (hexL B)
theorem uu_len {B : List UInt8} (h : 10 ≤ B.length) : (uu B).length = 2 * B.length + 4 := by
  unfold uu
  rw [uuL_len (by rw [hexL_len]; omega), hexL_len]
theorem uu_dash {B : List UInt8} (h : 10 ≤ B.length) {i : Nat} (hi : isDash i) : bt (uu B) i = 45 := by
  unfold uu
  rw [bt_some (uuL_dash (by rw [hexL_len]; omega) hi)]; rfl
theorem uu_hex {B : List UInt8} (h : 10 ≤ B.length) {i : Nat} (hi : ¬ isDash i) (hl : i < 2 * B.length + 4) : bt (uu B) i = ((nibU (nt B (i - ahead i))).toNat : Int) := by
  have e := uuL_hex (h := hexL B) (by rw [hexL_len]; omega) hi
  rw [hexL_at (by unfold ahead; unfold isDash at hi; split <;> split <;> split <;> split <;> omega)] at e
  exact bt_some e

/-! ### The order -/
def cmpL : List UInt8 → List UInt8 → Int
  | [], [] => 0
  | [], _ :: _ => -1
  | _ :: _, [] => 1
  | a :: as, b :: bs => if a.toNat < b.toNat then -1 else if b.toNat < a.toNat then 1 else cmpL as bs

theorem cmp_same (c : UInt8) (x y : List UInt8) : cmpL (c :: x) (c :: y) = cmpL x y := by simp [cmpL]

theorem nib_lt {x y : Nat} (hx : x < 16) (hy : y < 16) : (nibU x).toNat < (nibU y).toNat ↔ x < y := by
  rw [nibU_nat hx, nibU_nat hy]
  split <;> split <;> omega

theorem cmp_hex1 (a b : UInt8) (x y : List UInt8) :
    cmpL (nibU (a.toNat / 16) :: nibU (a.toNat % 16) :: x) (nibU (b.toNat / 16) :: nibU (b.toNat % 16) :: y) = if a.toNat < b.toNat then -1 else if b.toNat < a.toNat then 1 else cmpL x y := by
  have ha := a.toNat_lt
  have hb := b.toNat_lt
  simp only [cmpL, nib_lt (show a.toNat / 16 < 16 from by omega) (show b.toNat / 16 < 16 from by omega), nib_lt (show b.toNat / 16 < 16 from by omega) (show a.toNat / 16 < 16 from by omega),
    nib_lt (show a.toNat % 16 < 16 from by omega) (show b.toNat % 16 < 16 from by omega), nib_lt (show b.toNat % 16 < 16 from by omega) (show a.toNat % 16 < 16 from by omega)]
  by_cases c1 : a.toNat < b.toNat
  · rw [if_pos c1]
    by_cases c2 : a.toNat / 16 < b.toNat / 16
    · rw [if_pos c2]
    · rw [if_neg c2, if_neg (by omega), if_pos (by omega)]
  · rw [if_neg c1]
    by_cases c2 : b.toNat < a.toNat
    · rw [if_pos c2, if_neg (by omega)]
      by_cases c3 : b.toNat / 16 < a.toNat / 16
      · rw [if_pos c3]
      · rw [if_neg c3, if_neg (by omega), if_pos (by omega)]
    · rw [if_neg c2, if_neg (by omega), if_neg (by omega), if_neg (by omega), if_neg (by omega)]

/-- Where both have bytes, or both have ended, what follows decides. -/
theorem cmp_part : ∀ (A B x y p q : List UInt8), A.length = B.length → cmpL x y = cmpL p q → cmpL (hexL A ++ x) (hexL B ++ y) = cmpL (A ++ p) (B ++ q)
  | [], [], x, y, p, q, _, h => by simpa [hexL, nv] using h
  | [], b :: bs, x, y, p, q, hl, h => by simp at hl
  | a :: as, [], x, y, p, q, hl, h => by simp at hl
  | a :: as, b :: bs, x, y, p, q, hl, h => by
    have ih := cmp_part as bs x y p q (by simpa using hl) h
    have e := cmp_hex1 a b (hexL as ++ x) (hexL bs ++ y)
    rw [ih] at e
    exact e

theorem cmp_rest : ∀ (A B : List UInt8), cmpL (hexL A) (hexL B) = cmpL A B
  | [], [] => rfl
  | [], b :: bs => rfl
  | a :: as, [] => rfl
  | a :: as, b :: bs => by
    have e := cmp_hex1 a b (hexL as) (hexL bs)
    rw [cmp_rest as bs] at e
    exact e

theorem hexL_app (A B : List UInt8) : hexL (A ++ B) = hexL A ++ hexL B := by
  induction A with
  | nil => rfl
  | cons a as ih => simp only [hexL, List.cons_append, nv, List.map_cons] at *; rw [ih]
theorem hexL_take (B : List UInt8) (k : Nat) (h : k ≤ B.length) : (hexL B).take (2 * k) = hexL (B.take k) := by
  have e : hexL B = hexL (B.take k) ++ hexL (B.drop k) := by rw [← hexL_app, List.take_append_drop]
  have l : (hexL (B.take k)).length = 2 * k := by rw [hexL_len, List.length_take]; omega
  rw [e, ← l, List.take_left]
theorem hexL_drop (B : List UInt8) (k : Nat) (h : k ≤ B.length) : (hexL B).drop (2 * k) = hexL (B.drop k) := by
  have e : hexL B = hexL (B.take k) ++ hexL (B.drop k) := by rw [← hexL_app, List.take_append_drop]
  have l : (hexL (B.take k)).length = 2 * k := by rw [hexL_len, List.length_take]; omega
  rw [e, ← l, List.drop_left]

theorem uu_parts {B : List UInt8} (h : 10 ≤ B.length) : uu B = hexL (B.take 4) ++ 45 :: (hexL ((B.drop 4).take 2) ++ 45 :: (hexL ((B.drop 6).take 2) ++ 45 :: (hexL ((B.drop 8).take 2) ++ 45 :: hexL (B.drop 10)))) := by
  unfold uu uuL
  have t1 := hexL_take B 4 (by omega)
  have d1 := hexL_drop B 4 (by omega)
  have d2 := hexL_drop B 6 (by omega)
  have d3 := hexL_drop B 8 (by omega)
  have d4 := hexL_drop B 10 (by omega)
  simp only [Nat.reduceMul] at t1 d1 d2 d3 d4
  rw [t1, d1, d2, d3, d4]
  have t2 := hexL_take (B.drop 4) 2 (by simp; omega)
  have t3 := hexL_take (B.drop 6) 2 (by simp; omega)
  have t4 := hexL_take (B.drop 8) 2 (by simp; omega)
  simp only [Nat.reduceMul] at t2 t3 t4
  rw [t2, t3, t4]

theorem parts {B : List UInt8} : B = B.take 4 ++ ((B.drop 4).take 2 ++ ((B.drop 6).take 2 ++ ((B.drop 8).take 2 ++ B.drop 10))) := by
  have e1 : (B.drop 8).take 2 ++ B.drop 10 = B.drop 8 := by
    have := List.take_append_drop 2 (B.drop 8); rwa [List.drop_drop] at this
  have e2 : (B.drop 6).take 2 ++ B.drop 8 = B.drop 6 := by
    have := List.take_append_drop 2 (B.drop 6); rwa [List.drop_drop] at this
  have e3 : (B.drop 4).take 2 ++ B.drop 6 = B.drop 4 := by
    have := List.take_append_drop 2 (B.drop 4); rwa [List.drop_drop] at this
  rw [e1, e2, e3, List.take_append_drop]

theorem cmp_uu {A B : List UInt8} (hA : 10 ≤ A.length) (hB : 10 ≤ B.length) : cmpL (uu A) (uu B) = cmpL A B := by
  rw [uu_parts hA, uu_parts hB]
  have r := cmp_rest (A.drop 10) (B.drop 10)
  have s4 := cmp_part ((A.drop 8).take 2) ((B.drop 8).take 2) (45 :: hexL (A.drop 10)) (45 :: hexL (B.drop 10)) (A.drop 10) (B.drop 10) (by simp; omega) (by rw [cmp_same]; exact r)
  have s3 := cmp_part ((A.drop 6).take 2) ((B.drop 6).take 2) (45 :: _) (45 :: _) _ _ (by simp; omega) ((cmp_same 45 _ _).trans s4)
  have s2 := cmp_part ((A.drop 4).take 2) ((B.drop 4).take 2) (45 :: _) (45 :: _) _ _ (by simp; omega) ((cmp_same 45 _ _).trans s3)
  have s1 := cmp_part (A.take 4) (B.take 4) (45 :: _) (45 :: _) _ _ (by simp; omega) ((cmp_same 45 _ _).trans s2)
  rw [s1, ← parts, ← parts]
end Go.Proofs.Qxb6612450aMods
