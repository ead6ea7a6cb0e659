/-
  PLAIN: what Number.Key computes, and that it tells canonical numbers of DynamoDB's range apart. No Go in sight.
-/
import Derived.Test.Qxb6001233aModsPlain
namespace Go.Proofs.Qxb6001233aMods.Nb

def comp (c : UInt8) : UInt8 := UInt8.ofNat (105 - c.toNat)
def expB (x : Int) : UInt8 := UInt8.ofNat (x + 130).toNat
def expN (x : Int) : UInt8 := UInt8.ofNat (255 - (x + 130).toNat)
def key (n : Num) : List UInt8 :=
  if n.dig = [] then [1]
  else if n.neg = true then [0, expN n.ex] ++ n.dig.map comp ++ [58]
  else [2, expB n.ex] ++ n.dig

theorem toNat_ofNat {k : Nat} (h : k ≤ 255) : (UInt8.ofNat k).toNat = k := by
  rw [UInt8.toNat_ofNat']
  omega
theorem comp_nat {c : UInt8} (h : dg c) : (comp c).toNat = 105 - c.toNat := toNat_ofNat (by unfold dg at h; omega)
theorem expB_nat {x : Int} (h1 : -130 ≤ x) (h2 : x ≤ 125) : (expB x).toNat = (x + 130).toNat := toNat_ofNat (by omega)
theorem expN_nat {x : Int} (h1 : -130 ≤ x) (h2 : x ≤ 125) : (expN x).toNat = 255 - (x + 130).toNat := toNat_ofNat (by omega)

theorem comp_inj : ∀ (a b : List UInt8), (∀ c ∈ a, dg c) → (∀ c ∈ b, dg c) → a.map comp = b.map comp → a = b
  | [], [], _, _, _ => rfl
  | [], c :: cs, _, _, h => by simp at h
  | c :: cs, [], _, _, h => by simp at h
  | c :: cs, d :: ds, ha, hb, h => by
    simp only [List.map_cons, List.cons.injEq] at h
    have hc := ha c (by simp)
    have hd := hb d (by simp)
    have e := congrArg UInt8.toNat h.1
    rw [comp_nat hc, comp_nat hd] at e
    unfold dg at hc hd
    have e2 : c = d := UInt8.toNat.inj (by omega)
    rw [e2, comp_inj cs ds (fun c h => ha c (by simp [h])) (fun c h => hb c (by simp [h])) h.2]

/-- What the law's two tests leave of a number: canonical, in range, nought if it has no digits. -/
structure Fits (n : Num) : Prop where
  digs : ∀ c ∈ n.dig, dg c
  nought : n.dig = [] → n = zero
  lo : n.dig ≠ [] → -130 ≤ n.ex
  hi : n.dig ≠ [] → n.ex ≤ 125

theorem key_inj {a b : Num} (ha : Fits a) (hb : Fits b) (h : key a = key b) : a = b := by
  obtain ⟨an, ad, ax⟩ := a
  obtain ⟨bn, bd, bx⟩ := b
  have a1 := ha.digs
  have a2 := ha.nought
  have a3 := ha.lo
  have a4 := ha.hi
  have b1 := hb.digs
  have b2 := hb.nought
  have b3 := hb.lo
  have b4 := hb.hi
  simp only at a1 a2 a3 a4 b1 b2 b3 b4
  unfold key at h
  simp only at h
  by_cases e1 : ad = []
  · rw [a2 e1]
    rw [if_pos e1] at h
    by_cases e2 : bd = []
    · rw [b2 e2]
    · rw [if_neg e2] at h
      exfalso
      split at h
      · simp at h
      · have := (List.cons.inj h).1
        exact absurd this (by decide)
  · rw [if_neg e1] at h
    by_cases e2 : bd = []
    · rw [if_pos e2] at h
      exfalso
      split at h
      · simp at h
      · have := (List.cons.inj h).1
        exact absurd this (by decide)
    · rw [if_neg e2] at h
      have a3 := a3 e1
      have a4 := a4 e1
      have b3 := b3 e2
      have b4 := b4 e2
      cases an with
      | true =>
        rw [if_pos rfl] at h
        cases bn with
        | true =>
          rw [if_pos rfl] at h
          simp only [List.cons_append, List.nil_append, List.cons.injEq, true_and, List.append_cancel_right_eq] at h
          have e3 := congrArg UInt8.toNat h.1
          rw [expN_nat a3 a4, expN_nat b3 b4] at e3
          have e4 : ax = bx := by omega
          rw [e4, comp_inj ad bd a1 b1 h.2]
        | false =>
          rw [if_neg (by decide)] at h
          have := (List.cons.inj h).1
          exact absurd this (by decide)
      | false =>
        rw [if_neg (by decide)] at h
        cases bn with
        | true =>
          rw [if_pos rfl] at h
          have := (List.cons.inj h).1
          exact absurd this (by decide)
        | false =>
          rw [if_neg (by decide)] at h
          simp only [List.cons_append, List.nil_append, List.cons.injEq, true_and] at h
          have e3 := congrArg UInt8.toNat h.1
          rw [expB_nat a3 a4, expB_nat b3 b4] at e3
          have e4 : ax = bx := by omega
          rw [e4, h.2]
end Go.Proofs.Qxb6001233aMods.Nb
