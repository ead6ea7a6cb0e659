/-
  PLAIN: what readNumber, Number.Append and Number.Key compute, as plain functions on lists of bytes. No Go in sight.
-/
namespace Go.Proofs.Qxb6001233aMods.Nb

/-- The sign byte at the head: is there one; is it a minus. -/
def sgnL : List UInt8 → Bool
  | [] => false
  | c :: _ => c.toNat == 43 || c.toNat == 45
def negL : List UInt8 → Bool
  | [] => false
  | c :: _ => c.toNat == 45
def st (l : List UInt8) : Nat := if sgnL l = true then 1 else 0

/-- The mantissa's loop, from place i on: point, first, last. -/
def scan : List UInt8 → Nat → Int → Int → Int → Nat × Int × Int × Int
  | [], i, p, f, l => (i, p, f, l)
  | c :: cs, i, p, f, l =>
    if c.toNat = 46 ∧ p < 0 then scan cs (i + 1) i f l
    else if c.toNat < 48 ∨ 57 < c.toNat then (i, p, f, l)
    else if c.toNat = 48 then scan cs (i + 1) p f l
    else scan cs (i + 1) p (if f < 0 then i else f) i

def scanned (l : List UInt8) : Nat × Int × Int × Int := scan (l.drop (st l)) (st l) (-1) (-1) (-1)

/-- The exponent's loop. -/
def expo : List UInt8 → Int → Option Int
  | [], e => some e
  | c :: cs, e => if c.toNat < 48 ∨ 57 < c.toNat then none else expo cs (if e < 100000000 then e * 10 + ((c.toNat : Int) - 48) else e)

def expDigs (l : List UInt8) : Option Int := if l.length = 0 then none else expo l 0
/-- Behind the 'e'. -/
def expTail : List UInt8 → Option Int
  | [] => none
  | d :: ds => if d.toNat = 45 then (expDigs ds).map (fun x => -x) else if d.toNat = 43 then expDigs ds else expDigs (d :: ds)
/-- All that stands behind the mantissa. -/
def expPart : List UInt8 → Option Int
  | [] => some 0
  | c :: cs => if c.toNat = 101 ∨ c.toNat = 69 then expTail cs else none

structure Num where
  neg : Bool
  dig : List UInt8
  ex : Int

def zero : Num := ⟨false, [], 0⟩

def cut (l : List UInt8) (a b : Int) : List UInt8 := (l.take b.toNat).drop a.toNat

def fin (l : List UInt8) (e : Nat) (p f la x : Int) : Num :=
  if f < 0 then zero
  else if p < 0 then ⟨negL l, cut l f (la + 1), if f < e then x + e - f - 1 else x + e - f⟩
  else ⟨negL l, if f < p ∧ p < la then cut l f p ++ cut l (p + 1) (la + 1) else cut l f (la + 1), if f < p then x + p - f - 1 else x + p - f⟩

def rdFrom (l : List UInt8) (r : Nat × Int × Int × Int) : Option Num :=
  if r.1 = st l ∨ (r.1 = st l + 1 ∧ r.2.1 = st l) then none
  else (expPart (l.drop r.1)).map (fun x => fin l r.1 r.2.1 r.2.2.1 r.2.2.2 x)

def rd (l : List UInt8) : Option Num := rdFrom l (scanned l)

/-! ### The loops, a step each -/
theorem scan_stop {c : UInt8} {cs : List UInt8} {i : Nat} {p f l : Int} (h1 : ¬ (c.toNat = 46 ∧ p < 0)) (h2 : c.toNat < 48 ∨ 57 < c.toNat) : scan (c :: cs) i p f l = (i, p, f, l) := by
  rw [scan, if_neg h1, if_pos h2]
theorem scan_point {c : UInt8} {cs : List UInt8} {i : Nat} {p f l : Int} (h1 : c.toNat = 46) (h2 : p < 0) : scan (c :: cs) i p f l = scan cs (i + 1) i f l := by
  rw [scan, if_pos ⟨h1, h2⟩]
theorem scan_nought {c : UInt8} {cs : List UInt8} {i : Nat} {p f l : Int} (h1 : c.toNat = 48) : scan (c :: cs) i p f l = scan cs (i + 1) p f l := by
  rw [scan, if_neg (by omega), if_neg (by omega), if_pos h1]
theorem scan_digit {c : UInt8} {cs : List UInt8} {i : Nat} {p f l : Int} (h1 : 49 ≤ c.toNat) (h2 : c.toNat ≤ 57) : scan (c :: cs) i p f l = scan cs (i + 1) p (if f < 0 then i else f) i := by
  rw [scan, if_neg (by omega), if_neg (by omega), if_neg (by omega)]
theorem scan_nil (i : Nat) (p f l : Int) : scan [] i p f l = (i, p, f, l) := rfl

theorem drop_at (l : List UInt8) (k : Nat) (h : k < l.length) : l.drop k = l[k] :: l.drop (k + 1) := List.drop_eq_getElem_cons h

/-- Does an 'e' stand at the head? -/
def isE : List UInt8 → Bool
  | [] => false
  | c :: _ => c.toNat == 101 || c.toNat == 69

theorem expPart_isE {l : List UInt8} (h : isE l = true) : ∃ c cs, l = c :: cs ∧ expPart l = expTail cs := by
  cases l with
  | nil => cases h
  | cons c cs =>
    simp only [isE, Bool.or_eq_true, beq_iff_eq] at h
    exact ⟨c, cs, rfl, by rw [expPart, if_pos h]⟩
theorem expPart_not {l : List UInt8} (h : isE l = false) (hn : l ≠ []) : expPart l = none := by
  cases l with
  | nil => exact absurd rfl hn
  | cons c cs =>
    simp only [isE, Bool.or_eq_false_iff, beq_eq_false_iff_ne] at h
    rw [expPart, if_neg (by omega)]
theorem expTail_spec (m : List UInt8) : expTail m = (expDigs (m.drop (st m))).map (fun x => if negL m = true then -x else x) := by
  cases m with
  | nil => rfl
  | cons d ds =>
    rw [expTail]
    by_cases h1 : d.toNat = 45
    · rw [if_pos h1]
      simp [st, sgnL, negL, h1]
    · by_cases h2 : d.toNat = 43
      · rw [if_neg h1, if_pos h2]
        simp [st, sgnL, negL, h2]
      · rw [if_neg h1, if_neg h2]
        simp [st, sgnL, negL, h1, h2]
theorem expo_bad {c : UInt8} {cs : List UInt8} {e : Int} (h : c.toNat < 48 ∨ 57 < c.toNat) : expo (c :: cs) e = none := by rw [expo, if_pos h]
theorem expo_more {c : UInt8} {cs : List UInt8} {e : Int} (h : 48 ≤ c.toNat ∧ c.toNat ≤ 57) (he : e < 100000000) : expo (c :: cs) e = expo cs (e * 10 + ((c.toNat : Int) - 48)) := by
  rw [expo, if_neg (by omega), if_pos he]
theorem expo_full {c : UInt8} {cs : List UInt8} {e : Int} (h : 48 ≤ c.toNat ∧ c.toNat ≤ 57) (he : 100000000 ≤ e) : expo (c :: cs) e = expo cs e := by
  rw [expo, if_neg (by omega), if_neg (by omega)]

theorem rd_bad {l : List UInt8} {e : Nat} {p f la : Int} (h : scanned l = (e, p, f, la)) (hb : e = st l ∨ (e = st l + 1 ∧ p = st l)) : rd l = none := by
  unfold rd rdFrom
  rw [h]
  simp only
  rw [if_pos hb]
theorem rd_none {l : List UInt8} {e : Nat} {p f la : Int} (h : scanned l = (e, p, f, la)) (hx : expPart (l.drop e) = none) : rd l = none := by
  unfold rd rdFrom
  rw [h]
  simp only
  split
  · rfl
  · rw [hx]; rfl
theorem rd_some {l : List UInt8} {e : Nat} {p f la x : Int} (h : scanned l = (e, p, f, la)) (hb : ¬ (e = st l ∨ (e = st l + 1 ∧ p = st l))) (hx : expPart (l.drop e) = some x) : rd l = some (fin l e p f la x) := by
  unfold rd rdFrom
  rw [h]
  simp only
  rw [if_neg hb, hx]
  rfl

/-! ### What the scan's end says -/
def nz (c : UInt8) : Prop := 49 ≤ c.toNat ∧ c.toNat ≤ 57
def dg (c : UInt8) : Prop := 48 ≤ c.toNat ∧ c.toNat ≤ 57
def at0 (l : List UInt8) (j : Nat) : UInt8 := l[j]?.getD 0

structure Inv (l : List UInt8) (s i : Nat) (p f la : Int) : Prop where
  lo : s ≤ i
  hi : i ≤ l.length
  pt : p = -1 ∨ ((s : Int) ≤ p ∧ p < i)
  digs : ∀ j : Nat, s ≤ j → j < i → (j : Int) ≠ p → dg (at0 l j)
  ends : (f = -1 ∧ la = -1) ∨ ((s : Int) ≤ f ∧ f ≤ la ∧ la < i ∧ f ≠ p ∧ la ≠ p ∧ nz (at0 l f.toNat) ∧ nz (at0 l la.toNat))

theorem scan_inv (l : List UInt8) (s : Nat) : ∀ (cs : List UInt8) (i : Nat) (p f la : Int), l.drop i = cs → Inv l s i p f la →
    ∃ e p' f' la', scan cs i p f la = (e, p', f', la') ∧ Inv l s e p' f' la'
  | [], i, p, f, la, _, hI => ⟨i, p, f, la, rfl, hI⟩
  | c :: cs, i, p, f, la, hd, hI => by
    have hlt : i < l.length := by
      rcases Nat.lt_or_ge i l.length with h | h
      · exact h
      · rw [List.drop_eq_nil_of_le h] at hd; cases hd
    rw [drop_at l i hlt] at hd
    injection hd with hc hcs
    have hat : at0 l i = c := by simp [at0, hlt, hc]
    obtain ⟨h1, h2, h3, h4, h5⟩ := hI
    by_cases t1 : c.toNat = 46 ∧ p < 0
    · rw [scan_point t1.1 t1.2]
      refine scan_inv l s cs (i + 1) i f la hcs ⟨by omega, by omega, .inr ⟨by omega, by omega⟩, ?_, ?_⟩
      · intro j hj1 hj2 hj3
        exact h4 j hj1 (by omega) (by omega)
      · rcases h5 with h5 | ⟨a, b, c', d, e, g, k⟩
        · exact .inl h5
        · exact .inr ⟨a, b, by omega, by omega, by omega, g, k⟩
    · by_cases t2 : c.toNat < 48 ∨ 57 < c.toNat
      · rw [scan_stop t1 t2]
        exact ⟨i, p, f, la, rfl, ⟨h1, h2, h3, h4, h5⟩⟩
      · have hp : (i : Int) ≠ p := by omega
        have hdig : dg (at0 l i) := by rw [hat]; unfold dg; omega
        have h4' : ∀ j : Nat, s ≤ j → j < i + 1 → (j : Int) ≠ p → dg (at0 l j) := by
          intro j hj1 hj2 hj3
          by_cases e : j = i
          · rw [e]; exact hdig
          · exact h4 j hj1 (by omega) hj3
        by_cases t3 : c.toNat = 48
        · rw [scan_nought t3]
          refine scan_inv l s cs (i + 1) p f la hcs ⟨by omega, by omega, by omega, h4', ?_⟩
          rcases h5 with h5 | ⟨a, b, c', d, e, g, k⟩
          · exact .inl h5
          · exact .inr ⟨a, b, by omega, d, e, g, k⟩
        · rw [scan_digit (by omega) (by omega)]
          have hnz : nz (at0 l i) := by rw [hat]; unfold nz; omega
          refine scan_inv l s cs (i + 1) p _ i hcs ⟨by omega, by omega, by omega, h4', .inr ?_⟩
          rcases h5 with h5 | ⟨a, b, c', d, e, g, k⟩
          · rw [if_pos (by omega)]
            exact ⟨by omega, by omega, by omega, hp, hp, by simpa using hnz, by simpa using hnz⟩
          · rw [if_neg (by omega)]
            exact ⟨a, by omega, by omega, d, hp, g, by simpa using hnz⟩

theorem st_le (l : List UInt8) : st l ≤ l.length := by
  unfold st
  cases l with
  | nil => simp [sgnL]
  | cons c cs => simp only [List.length_cons]; split <;> omega

theorem st_le1 (l : List UInt8) : st l ≤ 1 := by
  unfold st
  split <;> omega

theorem scanned_inv (l : List UInt8) : ∃ e p f la, scanned l = (e, p, f, la) ∧ Inv l (st l) e p f la :=
  scan_inv l (st l) _ _ _ _ _ rfl ⟨Nat.le_refl _, st_le l, .inl rfl, fun j h1 h2 => absurd h1 (by omega), .inl ⟨rfl, rfl⟩⟩

/-! ### Bounds of the exponent -/
theorem expo_bound : ∀ (l : List UInt8) (e x : Int), 0 ≤ e → e ≤ 999999999 → expo l e = some x → 0 ≤ x ∧ x ≤ 999999999
  | [], e, x, h0, h1, h => by
    simp only [expo, Option.some.injEq] at h
    omega
  | c :: cs, e, x, h0, h1, h => by
    rw [expo] at h
    by_cases t : c.toNat < 48 ∨ 57 < c.toNat
    · rw [if_pos t] at h; cases h
    · rw [if_neg t] at h
      refine expo_bound cs _ x ?_ ?_ h
      · split <;> omega
      · split <;> omega

theorem expDigs_bound {l : List UInt8} {x : Int} (h : expDigs l = some x) : 0 ≤ x ∧ x ≤ 999999999 := by
  unfold expDigs at h
  split at h
  · cases h
  · exact expo_bound l 0 x (by omega) (by omega) h

theorem expTail_bound {l : List UInt8} {x : Int} (h : expTail l = some x) : -999999999 ≤ x ∧ x ≤ 999999999 := by
  cases l with
  | nil => cases h
  | cons d ds =>
    rw [expTail] at h
    split at h
    · cases he : expDigs ds with
      | none => rw [he] at h; cases h
      | some y =>
        rw [he] at h
        simp only [Option.map_some, Option.some.injEq] at h
        have := expDigs_bound he
        omega
    · split at h
      · have := expDigs_bound h; omega
      · have := expDigs_bound h; omega

theorem expPart_bound {l : List UInt8} {x : Int} (h : expPart l = some x) : -999999999 ≤ x ∧ x ≤ 999999999 := by
  cases l with
  | nil =>
    simp only [expPart, Option.some.injEq] at h
    omega
  | cons c cs =>
    rw [expPart] at h
    split at h
    · exact expTail_bound h
    · cases h

/-! ### What is read is canonical -/
def Canon (d : List UInt8) : Prop := (∀ c ∈ d, dg c) ∧ (∀ c, d.head? = some c → c.toNat ≠ 48) ∧ (∀ c, d.getLast? = some c → c.toNat ≠ 48)

theorem cut_length (l : List UInt8) (a b : Int) : (cut l a b).length = min b.toNat l.length - a.toNat := by
  simp [cut]

theorem cut_get (l : List UInt8) (a b : Int) (j : Nat) : (cut l a b)[j]? = if a.toNat + j < b.toNat then l[a.toNat + j]? else none := by
  unfold cut
  rw [List.getElem?_drop, List.getElem?_take]

theorem at0_some {l : List UInt8} {j : Nat} {c : UInt8} (h : l[j]? = some c) : at0 l j = c := by simp [at0, h]

theorem mem_cut {l : List UInt8} {a b : Int} {c : UInt8} (h : c ∈ cut l a b) : ∃ j : Nat, a.toNat ≤ j ∧ j < b.toNat ∧ at0 l j = c := by
  obtain ⟨j, hj⟩ := List.mem_iff_getElem?.1 h
  rw [cut_get] at hj
  split at hj
  · exact ⟨a.toNat + j, by omega, by assumption, at0_some hj⟩
  · cases hj

theorem head_cut {l : List UInt8} {a b : Int} {c : UInt8} (h : (cut l a b).head? = some c) : at0 l a.toNat = c := by
  rw [List.head?_eq_getElem?, cut_get] at h
  split at h
  · exact at0_some (by simpa using h)
  · cases h

theorem last_cut {l : List UInt8} {a b : Int} {c : UInt8} (hb : b.toNat ≤ l.length) (h : (cut l a b).getLast? = some c) : at0 l (b.toNat - 1) = c := by
  rw [List.getLast?_eq_getElem?, cut_length, cut_get] at h
  split at h
  · have e : a.toNat + (min b.toNat l.length - a.toNat - 1) = b.toNat - 1 := by omega
    rw [e] at h
    exact at0_some h
  · cases h

theorem head_app {a b : List UInt8} (h : a ≠ []) : (a ++ b).head? = a.head? := by
  cases a with
  | nil => exact absurd rfl h
  | cons c cs => rfl
theorem last_app {a b : List UInt8} (h : b ≠ []) : (a ++ b).getLast? = b.getLast? := by
  rw [List.getLast?_append]
  cases hb : b.getLast? with
  | none => exact absurd (List.getLast?_eq_none_iff.1 hb) h
  | some c => rfl

theorem fin_canon {l : List UInt8} {e : Nat} {p f la x : Int} (hI : Inv l (st l) e p f la) (hx : -999999999 ≤ x ∧ x ≤ 999999999) :
    Canon (fin l e p f la x).dig ∧ ((fin l e p f la x).dig = [] → fin l e p f la x = zero) ∧ (fin l e p f la x).dig.length ≤ l.length ∧
    -999999999 - (l.length : Int) ≤ (fin l e p f la x).ex ∧ (fin l e p f la x).ex ≤ 999999999 + (l.length : Int) := by
  obtain ⟨h1, h2, h3, h4, h5⟩ := hI
  unfold fin
  by_cases hf : f < 0
  · rw [if_pos hf]
    refine ⟨⟨?_, ?_, ?_⟩, fun _ => rfl, by simp [zero], by simp [zero]; omega, by simp [zero]; omega⟩ <;> simp [zero]
  · rw [if_neg hf]
    rcases h5 with h5 | ⟨a, b, c', d, g, k, m⟩
    · omega
    · have hla : 0 ≤ la := by omega
      have whole : Inv l (st l) e p f la := ⟨h1, h2, h3, h4, .inr ⟨a, b, c', d, g, k, m⟩⟩
      have hwc : (p < f ∨ la < p) → Canon (cut l f (la + 1)) := by
        intro hpp
        refine ⟨?_, ?_, ?_⟩
        · intro c hc
          obtain ⟨j, hj1, hj2, rfl⟩ := mem_cut hc
          exact h4 j (by omega) (by omega) (by omega)
        · intro c hc
          have := head_cut hc
          rw [this] at k
          unfold nz at k; omega
        · intro c hc
          have := last_cut (by omega) hc
          rw [show (la + 1).toNat - 1 = la.toNat from by omega] at this
          rw [this] at m
          unfold nz at m; omega
      have hne : cut l f (la + 1) ≠ [] := by
        intro h0
        have hl := cut_length l f (la + 1)
        rw [h0] at hl
        simp only [List.length_nil] at hl
        omega
      have hlen : (cut l f (la + 1)).length ≤ l.length := by rw [cut_length]; omega
      by_cases hp : p < 0
      · rw [if_pos hp]
        refine ⟨hwc (by omega), fun h => absurd h hne, hlen, ?_, ?_⟩ <;> (simp only; split <;> omega)
      · rw [if_neg hp]
        by_cases hs : f < p ∧ p < la
        · rw [if_pos hs, if_pos hs.1]
          have l1 := cut_length l f p
          have l2 := cut_length l (p + 1) (la + 1)
          have n1 : cut l f p ≠ [] := by
            intro h0
            rw [h0] at l1
            simp only [List.length_nil] at l1
            omega
          have n2 : cut l (p + 1) (la + 1) ≠ [] := by
            intro h0
            rw [h0] at l2
            simp only [List.length_nil] at l2
            omega
          refine ⟨⟨?_, ?_, ?_⟩, ?_, ?_, ?_, ?_⟩
          · intro c hc
            simp only at hc
            rcases List.mem_append.1 hc with hc | hc
            · obtain ⟨j, hj1, hj2, rfl⟩ := mem_cut hc
              exact h4 j (by omega) (by omega) (by omega)
            · obtain ⟨j, hj1, hj2, rfl⟩ := mem_cut hc
              exact h4 j (by omega) (by omega) (by omega)
          · intro c hc
            simp only at hc
            rw [head_app n1] at hc
            have := head_cut hc
            rw [this] at k
            unfold nz at k; omega
          · intro c hc
            simp only at hc
            rw [last_app n2] at hc
            have := last_cut (by omega) hc
            rw [show (la + 1).toNat - 1 = la.toNat from by omega] at this
            rw [this] at m
            unfold nz at m; omega
          · intro h
            simp only [List.append_eq_nil_iff] at h
            exact absurd h.1 n1
          · simp only [List.length_append]; omega
          · simp only; omega
          · simp only; omega
        · rw [if_neg hs]
          refine ⟨hwc (by omega), fun h => absurd h hne, hlen, ?_, ?_⟩ <;> (simp only; split <;> omega)

theorem rd_canon {l : List UInt8} {n : Num} (h : rd l = some n) :
    Canon n.dig ∧ (n.dig = [] → n = zero) ∧ n.dig.length ≤ l.length ∧ -999999999 - (l.length : Int) ≤ n.ex ∧ n.ex ≤ 999999999 + (l.length : Int) := by
  obtain ⟨e, p, f, la, hs, hI⟩ := scanned_inv l
  unfold rd rdFrom at h
  rw [hs] at h
  simp only at h
  split at h
  · cases h
  · cases hx : expPart (l.drop e) with
    | none => rw [hx] at h; cases h
    | some x =>
      rw [hx] at h
      simp only [Option.map_some, Option.some.injEq] at h
      rw [← h]
      exact fin_canon hI (expPart_bound hx)

/-! ### What Append writes, and that it reads back -/
def body (d : List UInt8) (x : Int) : List UInt8 :=
  if x < 0 then [48, 46] ++ List.replicate (-x - 1).toNat 48 ++ d
  else if x + 1 < d.length then d.take (x + 1).toNat ++ [46] ++ d.drop (x + 1).toNat
  else d ++ List.replicate (x + 1 - d.length).toNat 48
def sign (neg : Bool) : List UInt8 := if neg = true then [45] else []
def app (n : Num) : List UInt8 := if n.dig = [] then [48] else sign n.neg ++ body n.dig n.ex

theorem scan_zeros : ∀ (m : Nat) (rest : List UInt8) (i : Nat) (p f l : Int), scan (List.replicate m 48 ++ rest) i p f l = scan rest (i + m) p f l
  | 0, rest, i, p, f, l => by simp
  | m + 1, rest, i, p, f, l => by
    rw [List.replicate_succ, List.cons_append, scan_nought rfl, scan_zeros m, show i + 1 + m = i + (m + 1) from by omega]

theorem scan_digs : ∀ (d rest : List UInt8) (i : Nat) (p f l : Int), (∀ c ∈ d, dg c) →
    ∃ f' l', scan (d ++ rest) i p f l = scan rest (i + d.length) p f' l' ∧ (0 ≤ f → f' = f) ∧ (f < 0 → (∀ c, d.head? = some c → c.toNat ≠ 48) → d ≠ [] → f' = i) ∧
      ((∀ c, d.getLast? = some c → c.toNat ≠ 48) → d ≠ [] → l' = (i : Int) + d.length - 1) ∧ (d = [] → l' = l)
  | [], rest, i, p, f, l, _ => ⟨f, l, by simp, fun _ => rfl, fun _ _ h => absurd rfl h, fun _ h => absurd rfl h, fun _ => rfl⟩
  | c :: cs, rest, i, p, f, l, hd => by
    have hc := hd c (by simp)
    have hcs : ∀ c ∈ cs, dg c := fun c h => hd c (by simp [h])
    unfold dg at hc
    have hlast : cs ≠ [] → ((∀ c', (c :: cs).getLast? = some c' → c'.toNat ≠ 48) → ∀ c', cs.getLast? = some c' → c'.toNat ≠ 48) := by
      intro hn h c' hc'
      apply h
      rw [List.getLast?_cons, hc']
      rfl
    by_cases h0 : c.toNat = 48
    · obtain ⟨f', l', e1, e2, e3, e4, e5⟩ := scan_digs cs rest (i + 1) p f l hcs
      refine ⟨f', l', ?_, e2, ?_, ?_, fun h => by cases h⟩
      · rw [List.cons_append, scan_nought h0, e1, List.length_cons, show i + 1 + cs.length = i + (cs.length + 1) from by omega]
      · intro _ hh _
        exact absurd h0 (hh c rfl)
      · intro hl _
        by_cases hn : cs = []
        · subst hn
          exact absurd h0 (hl c rfl)
        · have := e4 (hlast hn hl) hn
          rw [this, List.length_cons]; omega
    · obtain ⟨f', l', e1, e2, e3, e4, e5⟩ := scan_digs cs rest (i + 1) p (if f < 0 then (i : Int) else f) i hcs
      have hl' : (∀ c', (c :: cs).getLast? = some c' → c'.toNat ≠ 48) → l' = (i : Int) + (c :: cs).length - 1 := by
        intro hl
        by_cases hn : cs = []
        · subst hn
          rw [e5 rfl]; simp
        · have := e4 (hlast hn hl) hn
          rw [this, List.length_cons]; omega
      have hsc : scan (c :: cs ++ rest) i p f l = scan rest (i + (c :: cs).length) p f' l' := by
        rw [List.cons_append, scan_digit (by omega) (by omega), e1, List.length_cons, show i + 1 + cs.length = i + (cs.length + 1) from by omega]
      by_cases hf : f < 0
      · rw [if_pos hf] at e2
        exact ⟨f', l', hsc, fun h => by omega, fun _ _ _ => e2 (by omega), fun hl _ => hl' hl, fun h => by cases h⟩
      · rw [if_neg hf] at e2
        exact ⟨f', l', hsc, fun h => e2 h, fun h => absurd h hf, fun hl _ => hl' hl, fun h => by cases h⟩

theorem cut_mid (a d b : List UInt8) (x y : Int) (hx : x = a.length) (hy : y = a.length + d.length) : cut (a ++ d ++ b) x y = d := by
  unfold cut
  subst hx; subst hy
  rw [show ((a.length : Int) + d.length).toNat = (a ++ d).length from by simp; omega, List.take_left, Int.toNat_natCast, List.drop_left]

theorem digs_ne {d : List UInt8} (hd : ∀ c ∈ d, dg c) (hn : d ≠ []) : ∃ c cs, d = c :: cs ∧ dg c := by
  cases d with
  | nil => exact absurd rfl hn
  | cons c cs => exact ⟨c, cs, rfl, hd c (by simp)⟩

/-- The text's head: the sign, then something that begins with a digit. -/
theorem st_sign (neg : Bool) (c : UInt8) (cs : List UInt8) (hc : dg c) : st (sign neg ++ c :: cs) = (sign neg).length ∧ negL (sign neg ++ c :: cs) = neg := by
  unfold dg at hc
  cases neg with
  | true => simp [sign, st, sgnL, negL]
  | false =>
    have h1 : (c.toNat == 43) = false := by simp; omega
    have h2 : (c.toNat == 45) = false := by simp; omega
    simp [sign, st, sgnL, negL, h1, h2]

theorem body_head {d : List UInt8} (hd : ∀ c ∈ d, dg c) (hn : d ≠ []) (x : Int) : ∃ c cs, body d x = c :: cs ∧ dg c := by
  obtain ⟨c, cs, rfl, hc⟩ := digs_ne hd hn
  unfold body
  split
  · exact ⟨48, _, rfl, ⟨by decide, by decide⟩⟩
  · split
    · rename_i h1 h2
      obtain ⟨m, hm⟩ : ∃ m, (x + 1).toNat = m + 1 := ⟨x.toNat, by omega⟩
      rw [hm]
      exact ⟨c, _, rfl, hc⟩
    · exact ⟨c, _, rfl, hc⟩

theorem scanned_body {neg : Bool} {d : List UInt8} {x : Int} (hd : ∀ c ∈ d, dg c) (hn : d ≠ []) :
    scanned (sign neg ++ body d x) = scan (body d x) (sign neg).length (-1) (-1) (-1) ∧ st (sign neg ++ body d x) = (sign neg).length ∧ negL (sign neg ++ body d x) = neg := by
  obtain ⟨c, cs, hb, hc⟩ := body_head hd hn x
  rw [hb]
  obtain ⟨h1, h2⟩ := st_sign neg c cs hc
  refine ⟨?_, h1, h2⟩
  unfold scanned
  rw [h1, List.drop_left]

theorem rd_of {l : List UInt8} {e : Nat} {p f la : Int} (h : scanned l = (e, p, f, la)) (hl : e = l.length) (h1 : e ≠ st l) (h2 : ¬ (e = st l + 1 ∧ p = st l)) : rd l = some (fin l e p f la 0) := by
  unfold rd rdFrom
  rw [h]
  simp only
  rw [if_neg (by omega), hl, List.drop_length]
  rfl

theorem rd_app {n : Num} (hc : Canon n.dig) (hn : n.dig ≠ []) : rd (app n) = some n := by
  obtain ⟨neg, d, x⟩ := n
  simp only at hc hn
  obtain ⟨hd, hh, hlst⟩ := hc
  unfold app
  rw [if_neg hn]
  simp only
  obtain ⟨hs, hst, hng⟩ := scanned_body (neg := neg) (x := x) hd hn
  have hdl : 0 < d.length := List.length_pos_iff.2 hn
  by_cases hx : x < 0
  · have hb : body d x = [48, 46] ++ List.replicate (-x - 1).toNat 48 ++ d := by unfold body; rw [if_pos hx]
    obtain ⟨f', l', e1, -, e3, e4, -⟩ := scan_digs d [] ((sign neg).length + 1 + 1 + (-x - 1).toNat) ((sign neg).length + 1 : Nat) (-1) (-1) hd
    have hs' : scanned (sign neg ++ body d x) = ((sign neg).length + 1 + 1 + (-x - 1).toNat + d.length, (((sign neg).length + 1 : Nat) : Int), f', l') := by
      rw [hs, hb, List.append_assoc, List.cons_append, List.cons_append, List.nil_append, scan_nought rfl, scan_point rfl (by omega), scan_zeros]
      rw [List.append_nil] at e1
      rw [e1, scan_nil]
    have hlen : (sign neg ++ body d x).length = (sign neg).length + 1 + 1 + (-x - 1).toNat + d.length := by rw [hb]; simp; omega
    rw [rd_of hs' hlen.symm (by rw [hst]; omega) (by rw [hst]; omega)]
    have hf := e3 (by omega) hh hn
    have hl := e4 hlst hn
    unfold fin
    rw [if_neg (by omega), if_neg (by omega), if_neg (by omega), if_neg (by omega), hng]
    have hcut : cut (sign neg ++ body d x) f' (l' + 1) = d := by
      have := cut_mid (sign neg ++ ([48, 46] ++ List.replicate (-x - 1).toNat 48)) d [] f' (l' + 1) (by simp; omega) (by simp; omega)
      rw [List.append_nil] at this
      rw [hb, ← List.append_assoc]
      exact this
    rw [hcut]
    congr 2
    omega
  · by_cases hw : x + 1 < d.length
    · have hb : body d x = d.take (x + 1).toNat ++ [46] ++ d.drop (x + 1).toNat := by unfold body; rw [if_neg hx, if_pos hw]
      have hd1 : ∀ c ∈ d.take (x + 1).toNat, dg c := fun c h => hd c (List.mem_of_mem_take h)
      have hd2 : ∀ c ∈ d.drop (x + 1).toNat, dg c := fun c h => hd c (List.mem_of_mem_drop h)
      have ht : (d.take (x + 1).toNat).length = (x + 1).toNat := by simp; omega
      have hn1 : d.take (x + 1).toNat ≠ [] := by intro h; rw [h] at ht; simp at ht; omega
      have ht2 : (d.drop (x + 1).toNat).length = d.length - (x + 1).toNat := by simp
      have hn2 : d.drop (x + 1).toNat ≠ [] := by intro h; rw [h] at ht2; simp at ht2; omega
      have hh1 : ∀ c, (d.take (x + 1).toNat).head? = some c → c.toNat ≠ 48 := by
        intro c hc
        apply hh
        rw [← List.take_append_drop (x + 1).toNat d, head_app hn1]
        exact hc
      have hl2 : ∀ c, (d.drop (x + 1).toNat).getLast? = some c → c.toNat ≠ 48 := by
        intro c hc
        apply hlst
        rw [← List.take_append_drop (x + 1).toNat d, last_app hn2]
        exact hc
      obtain ⟨f1, l1, e1, -, e3, -, -⟩ := scan_digs (d.take (x + 1).toNat) (46 :: d.drop (x + 1).toNat) (sign neg).length (-1) (-1) (-1) hd1
      have hf1 := e3 (by omega) hh1 hn1
      obtain ⟨f2, l2, g1, g2, -, g4, -⟩ := scan_digs (d.drop (x + 1).toNat) [] ((sign neg).length + (d.take (x + 1).toNat).length + 1) ((sign neg).length + (d.take (x + 1).toNat).length : Nat) f1 l1 hd2
      have hf2 := g2 (by omega)
      have hl2' := g4 hl2 hn2
      have hs' : scanned (sign neg ++ body d x) = ((sign neg).length + (d.take (x + 1).toNat).length + 1 + (d.drop (x + 1).toNat).length, (((sign neg).length + (d.take (x + 1).toNat).length : Nat) : Int), f2, l2) := by
        rw [hs, hb, List.append_assoc, List.cons_append, List.nil_append, e1, scan_point rfl (by omega)]
        rw [List.append_nil] at g1
        rw [g1, scan_nil]
      have hlen : (sign neg ++ body d x).length = (sign neg).length + (d.take (x + 1).toNat).length + 1 + (d.drop (x + 1).toNat).length := by rw [hb]; simp; omega
      rw [rd_of hs' hlen.symm (by rw [hst]; omega) (by rw [hst]; omega)]
      unfold fin
      rw [if_neg (by omega), if_neg (by omega), if_pos (by omega), if_pos (by omega), hng]
      have c1 : cut (sign neg ++ body d x) f2 (((sign neg).length + (d.take (x + 1).toNat).length : Nat) : Int) = d.take (x + 1).toNat := by
        have := cut_mid (sign neg) (d.take (x + 1).toNat) ([46] ++ d.drop (x + 1).toNat) f2 (((sign neg).length + (d.take (x + 1).toNat).length : Nat) : Int) (by omega) (by omega)
        rw [hb, List.append_assoc, ← List.append_assoc (sign neg)]
        exact this
      have c2 : cut (sign neg ++ body d x) ((((sign neg).length + (d.take (x + 1).toNat).length : Nat) : Int) + 1) (l2 + 1) = d.drop (x + 1).toNat := by
        have := cut_mid (sign neg ++ (d.take (x + 1).toNat ++ [46])) (d.drop (x + 1).toNat) [] ((((sign neg).length + (d.take (x + 1).toNat).length : Nat) : Int) + 1) (l2 + 1) (by simp; omega) (by simp; omega)
        rw [List.append_nil] at this
        rw [hb, ← List.append_assoc (sign neg)]
        exact this
      rw [c1, c2, List.take_append_drop]
      congr 2
      omega
    · have hb : body d x = d ++ List.replicate (x + 1 - d.length).toNat 48 := by unfold body; rw [if_neg hx, if_neg hw]
      obtain ⟨f', l', e1, -, e3, e4, -⟩ := scan_digs d (List.replicate (x + 1 - d.length).toNat 48) (sign neg).length (-1) (-1) (-1) hd
      have hf := e3 (by omega) hh hn
      have hl := e4 hlst hn
      have hs' : scanned (sign neg ++ body d x) = ((sign neg).length + d.length + (x + 1 - d.length).toNat, -1, f', l') := by
        have hz := scan_zeros (x + 1 - d.length).toNat [] ((sign neg).length + d.length) (-1) f' l'
        rw [List.append_nil, scan_nil] at hz
        rw [hs, hb, e1, hz]
      have hlen : (sign neg ++ body d x).length = (sign neg).length + d.length + (x + 1 - d.length).toNat := by rw [hb]; simp; omega
      rw [rd_of hs' hlen.symm (by rw [hst]; omega) (by rw [hst]; omega)]
      unfold fin
      rw [if_neg (by omega), if_pos (by omega), if_pos (by omega), hng]
      have c1 : cut (sign neg ++ body d x) f' (l' + 1) = d := by
        have := cut_mid (sign neg) d (List.replicate (x + 1 - d.length).toNat 48) f' (l' + 1) (by omega) (by omega)
        rw [hb, ← List.append_assoc]
        exact this
      rw [c1]
      congr 2
      omega

theorem rd_zero : rd [48] = some zero := rfl

theorem app_zero {n : Num} (h : n.dig = []) : app n = [48] := by unfold app; rw [if_pos h]

theorem app_length (n : Num) (h1 : -65536 ≤ n.ex) (h2 : n.ex ≤ 65536) : (app n).length ≤ n.dig.length + 65540 := by
  unfold app
  split
  · simp
  · have hs : (sign n.neg).length ≤ 1 := by unfold sign; split <;> simp
    rw [List.length_append]
    unfold body
    split
    · simp only [List.length_append, List.length_replicate, List.length_cons, List.length_nil]; omega
    · split
      · simp only [List.length_append, List.length_take, List.length_drop, List.length_cons, List.length_nil]; omega
      · simp only [List.length_append, List.length_replicate]; omega
end Go.Proofs.Qxb6001233aMods.Nb
