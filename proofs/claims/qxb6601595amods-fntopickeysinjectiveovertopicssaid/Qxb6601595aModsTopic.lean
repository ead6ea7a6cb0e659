/-
  THE WALK OF TopicKeys (function 8).
-/
import Derived.Test.Qxb6601595aModsKeys
import Derived.Deep.DeepMust
namespace Go.Proofs.Qxb6601595aMods
open Go.RowKit

/-- Key j of a topic. -/
def pk (ns t : ByteArray) (j : Nat) : ByteArray := ns ++ ⟨#[58, 123]⟩ ++ t ++ ⟨#[125, 58]⟩ ++ part j

theorem part_size (j : Nat) : (part j).size ≤ 13 := by
  match j with
  | 0 => decide
  | 1 => decide
  | 2 => decide
  | 3 => decide
  | 4 => decide
  | 5 => decide
  | 6 => decide
  | 7 => decide
  | 8 => decide
  | 9 => decide
  | 10 => decide
  | 11 => decide
  | (k + 12) => exact Nat.zero_le _

/-- Twelve strings as one value. -/
def agg12 (f : Nat → ByteArray) : Value :=
  .agg #[.string (f 0), .string (f 1), .string (f 2), .string (f 3), .string (f 4), .string (f 5), .string (f 6), .string (f 7), .string (f 8), .string (f 9), .string (f 10), .string (f 11)]

structure TK (w : World) (f : Nat → ByteArray) (k : Nat) (wr : World) : Prop where
  bel : Below w.heap.size w wr
  sz : w.heap.size + 1 + 1 < wr.heap.size
  pt : ∀ j, j < 12 → wr.cell? ⟨w.heap.size + 1 + 1, j * 2, none⟩ = some (.string (part j))
  pp : ∀ j, j < 12 → wr.cell? ⟨w.heap.size + 1 + 1, j * 2 + 1, none⟩ = some (.pointer (some ⟨w.heap.size + 1, j, none⟩))
  ks : ∀ j, j < 12 → wr.cell? ⟨w.heap.size + 1, j, none⟩ = some (.string (if j < k then f j else ⟨#[]⟩))
  kf : ∀ j, j < 12 → wr.frozen? ⟨w.heap.size + 1, j, none⟩ = false
  rs : ∀ j, j < 12 → wr.cell? ⟨w.heap.size, j, none⟩ = some (.string ⟨#[]⟩)
  rf : ∀ j, j < 12 → wr.frozen? ⟨w.heap.size, j, none⟩ = false

/-- Twelve empty strings. -/
def none12 : Array Value := #[.string ⟨#[]⟩, .string ⟨#[]⟩, .string ⟨#[]⟩, .string ⟨#[]⟩, .string ⟨#[]⟩, .string ⟨#[]⟩, .string ⟨#[]⟩, .string ⟨#[]⟩, .string ⟨#[]⟩, .string ⟨#[]⟩, .string ⟨#[]⟩, .string ⟨#[]⟩]
theorem none12_at (j : Nat) (h : j < 12) : none12[j]? = some (.string ⟨#[]⟩) := by
  match j, h with
  | 0, _ => rfl
  | 1, _ => rfl
  | 2, _ => rfl
  | 3, _ => rfl
  | 4, _ => rfl
  | 5, _ => rfl
  | 6, _ => rfl
  | 7, _ => rfl
  | 8, _ => rfl
  | 9, _ => rfl
  | 10, _ => rfl
  | 11, _ => rfl
  | (k + 12), h => exact absurd h (by omega)

theorem TK.start (w w1 : World) (f : Nat → ByteArray) (h : w1 = (((w.alloc (.cells none12 26)).alloc (.cells none12 26)).alloc (.cells (pairs (w.heap.size + 1)) 36)).drew) : TK w f 0 w1 := by
  subst h
  refine ⟨?_, ?_, ?_, ?_, ?_, ?_, ?_, ?_⟩
  · exact ((((Below.refl _ _).alloc (Nat.le_refl _) _).alloc (by simp) _).alloc (by simp; omega) _).drew
  · simp
  · intro j hj
    have := (pairs_part (w.heap.size + 1) j hj).1
    simp [World.cell?_alloc_at, Nat.mul_comm j 2, this]
  · intro j hj
    have := (pairs_part (w.heap.size + 1) j hj).2
    simp [World.cell?_alloc_at, Nat.mul_comm j 2, this]
  · intro j hj
    have := none12_at j hj
    simp [World.cell?_alloc_past, World.cell?_alloc_at, this]
  · intro j hj
    simp [World.frozen?_alloc_past, World.frozen?_alloc_at]
  · intro j hj
    have := none12_at j hj
    rw [World.cell?_drew, World.cell?_alloc_past _ _ _ (by simp; omega), World.cell?_alloc_past _ _ _ (by simp)]
    simp [this]
  · intro j hj
    rw [World.frozen?_drew, World.frozen?_alloc_past _ _ _ (by simp; omega), World.frozen?_alloc_past _ _ _ (by simp)]
    simp

theorem TK.step {w wr : World} {f : Nat → ByteArray} {k : Nat} (T : TK w f k wr) (hk : k < 12) (o : Obj) : TK w f (k + 1) ((wr.setCell ⟨w.heap.size + 1, k, none⟩ (.string (f k))).alloc o) := by
  have z := T.sz
  have cold : ∀ (b j : Nat), b < wr.heap.size → (b = w.heap.size + 1 → j ≠ k) → ((wr.setCell ⟨w.heap.size + 1, k, none⟩ (.string (f k))).alloc o).cell? ⟨b, j, none⟩ = wr.cell? ⟨b, j, none⟩ := by
    intro b j hb hne
    rw [World.cell?_alloc_past _ _ _ (by simpa [World.setCell] using hb), World.cell?_setCell_other _ _ _ _ (by intro e; injection e with e1 e2; exact hne e1.symm e2.symm)]
  have fold : ∀ (b j : Nat), b < wr.heap.size → ((wr.setCell ⟨w.heap.size + 1, k, none⟩ (.string (f k))).alloc o).frozen? ⟨b, j, none⟩ = wr.frozen? ⟨b, j, none⟩ := by
    intro b j hb
    rw [World.frozen?_alloc_past _ _ _ (by simpa [World.setCell] using hb), World.frozen?_setCell]
  refine ⟨?_, ?_, ?_, ?_, ?_, ?_, ?_, ?_⟩
  · exact (T.bel.setCell (by simp) _).alloc (by have := T.bel.size; simp [World.setCell]; omega) _
  · simp [World.setCell]; omega
  · intro j hj; rw [cold _ _ (by omega) (by omega)]; exact T.pt j hj
  · intro j hj; rw [cold _ _ (by omega) (by omega)]; exact T.pp j hj
  · intro j hj
    by_cases e : j = k
    · subst e
      rw [if_pos (by omega)]
      exact (World.cell?_alloc_past _ _ _ (by simp [World.setCell]; omega)).trans (World.cell?_setCell_same _ _ _ (T.ks j hj))
    · rw [cold _ _ (by omega) (fun _ => e), T.ks j hj]
      by_cases c : j < k
      · rw [if_pos c, if_pos (by omega)]
      · rw [if_neg c, if_neg (by omega)]
  · intro j hj; rw [fold _ _ (by omega)]; exact T.kf j hj
  · intro j hj; rw [cold _ _ (by omega) (by omega)]; exact T.rs j hj
  · intro j hj; rw [fold _ _ (by omega)]; exact T.rf j hj

set_option maxRecDepth 100000 in
set_option maxHeartbeats 1000000 in
theorem topic8 (ns t : ByteArray) (w : World) (hn : ns.size ≤ 16384) (ht : t.size ≤ 16384) :
    Calls Trym.prog 8 #[.string ns, .string t] w fun e w' => e = .returned (agg12 (pk ns t)) ∧ Below w.heap.size w w' := by
  go_enter Trym.func8, Trym.ntmps8
  go_wp2_with fail
  refine (script14 _ _).mono ?_
  rintro e w1 ⟨rfl, hw1⟩
  have H := TK.start w w1 (pk ns t) (by rw [hw1]; simp [none12])
  clear hw1
  go_wp2_with fail
  go_loopw [10] (fun i wr => ∃ k : Nat, k ≤ 12 ∧ i = .int .i64 k ∧ TK w (pk ns t) k wr) (fun i _ => 12 - (intOf i).toNat)
  case atStart => exact ⟨0, Nat.zero_le _, rfl, H⟩
  case round =>
    obtain ⟨k, hk, rfl, T⟩ := hrel
    clear H
    by_cases hlt : k < 12
    · have e1 := T.pt k hlt
      have e2 := T.pp k hlt
      have e3 := T.ks k hlt
      rw [if_neg (Nat.lt_irrefl _)] at e3
      have e4 := T.kf k hlt
      have e5 := T.sz
      have e6 : w.heap.size + 1 < wr.heap.size := by omega
      have e7 := part_size k
      go_wp2
      go_roundw
      case rel => exact ⟨k + 1, by omega, by go_num, T.step hlt _⟩
      case measure => simp [intOf]; omega
    · obtain rfl : k = 12 := by omega
      have F : ∀ j, j < 12 → wr.cell? ⟨w.heap.size + 1, j, none⟩ = some (.string (pk ns t j)) := by
        intro j hj
        rw [T.ks j hj, if_pos hj]
      have q0 := F 0 (by omega)
      have q1 := F 1 (by omega)
      have q2 := F 2 (by omega)
      have q3 := F 3 (by omega)
      have q4 := F 4 (by omega)
      have q5 := F 5 (by omega)
      have q6 := F 6 (by omega)
      have q7 := F 7 (by omega)
      have q8 := F 8 (by omega)
      have q9 := F 9 (by omega)
      have q10 := F 10 (by omega)
      have q11 := F 11 (by omega)
      have r0 := T.rs 0 (by omega)
      have r1 := T.rs 1 (by omega)
      have r2 := T.rs 2 (by omega)
      have r3 := T.rs 3 (by omega)
      have r4 := T.rs 4 (by omega)
      have r5 := T.rs 5 (by omega)
      have r6 := T.rs 6 (by omega)
      have r7 := T.rs 7 (by omega)
      have r8 := T.rs 8 (by omega)
      have r9 := T.rs 9 (by omega)
      have r10 := T.rs 10 (by omega)
      have r11 := T.rs 11 (by omega)
      have z0 := T.rf 0 (by omega)
      have z1 := T.rf 1 (by omega)
      have z2 := T.rf 2 (by omega)
      have z3 := T.rf 3 (by omega)
      have z4 := T.rf 4 (by omega)
      have z5 := T.rf 5 (by omega)
      have z6 := T.rf 6 (by omega)
      have z7 := T.rf 7 (by omega)
      have z8 := T.rf 8 (by omega)
      have z9 := T.rf 9 (by omega)
      have z10 := T.rf 10 (by omega)
      have z11 := T.rf 11 (by omega)
      have e5 := T.sz
      have B := T.bel
      clear F T
      go_wp2
      refine bodyPost_ret (v := agg12 (pk ns t)) (by simp [results, Trym.results8, go_sem, agg12, r0, r1, r2, r3, r4, r5, r6, r7, r8, r9, r10, r11]) rfl ⟨rfl, ?_⟩
      exact (((((((((((B.setCell (Nat.le_refl _) _).setCell (Nat.le_refl _) _).setCell (Nat.le_refl _) _).setCell (Nat.le_refl _) _).setCell (Nat.le_refl _) _).setCell (Nat.le_refl _) _).setCell (Nat.le_refl _) _).setCell (Nat.le_refl _) _).setCell (Nat.le_refl _) _).setCell (Nat.le_refl _) _).setCell (Nat.le_refl _) _).setCell (Nat.le_refl _) _
end Go.Proofs.Qxb6601595aMods
