/-
  THE WALKS OF list (function 13) AND ZZList (function 7).
-/
import Derived.Test.Qxb6601595aModsTopic
namespace Go.Proofs.Qxb6601595aMods
open Go.RowKit

def row12 (f : Nat → ByteArray) : Array Value :=
  #[.string (f 0), .string (f 1), .string (f 2), .string (f 3), .string (f 4), .string (f 5), .string (f 6), .string (f 7), .string (f 8), .string (f 9), .string (f 10), .string (f 11)]
theorem row12_at (f : Nat → ByteArray) (j : Nat) (h : j < 12) : (row12 f)[j]? = some (.string (f j)) := by
  match j, h with
  | 0, _ => rfl
  | 1, _ => rfl
  | 2, _ => rfl
  | 3, _ => rfl
  | 4, _ => rfl
  | 5, _ => rfl
  | 6, _ => rfl
  | 7, _ => rfl
  | 8, _ => rfl
  | 9, _ => rfl
  | 10, _ => rfl
  | 11, _ => rfl
  | (k + 12), h => exact absurd h (by omega)

structure LK (w : World) (f : Nat → ByteArray) (k : Nat) (wr : World) : Prop where
  bel : Below w.heap.size w wr
  sz : w.heap.size + 1 + 1 < wr.heap.size
  pt : ∀ j, j < 12 → wr.cell? ⟨w.heap.size + 1, j * 2, none⟩ = some (.string (part j))
  pp : ∀ j, j < 12 → wr.cell? ⟨w.heap.size + 1, j * 2 + 1, none⟩ = some (.pointer (some ⟨w.heap.size, j, none⟩))
  bx : ∀ j, j < 12 → wr.cell? ⟨w.heap.size, j, none⟩ = some (.string (f j))
  ks : ∀ j, j < 12 → wr.cell? ⟨w.heap.size + 1 + 1, j, none⟩ = some (.string (if j < k then f j else ⟨#[]⟩))
  kf : ∀ j, j < 12 → wr.frozen? ⟨w.heap.size + 1 + 1, j, none⟩ = false

theorem LK.start (w w1 : World) (f : Nat → ByteArray) (h : w1 = ((w.alloc (.cells (row12 f) 26)).alloc (.cells (pairs w.heap.size) 36)).drew) : LK w f 0 (w1.alloc (.cells none12 9)) := by
  subst h
  refine ⟨?_, ?_, ?_, ?_, ?_, ?_, ?_⟩
  · exact (((((Below.refl _ _).alloc (Nat.le_refl _) _).alloc (by simp) _).drew).alloc (by show _ ≤ (World.alloc _ _).heap.size; simp; omega) _)
  · show _ < ((World.drew _).alloc _).heap.size
    rw [World.size_alloc]
    show _ < (World.alloc _ _).heap.size + 1
    simp
  · intro j hj
    have := (pairs_part w.heap.size j hj).1
    rw [World.cell?_alloc_past _ _ _ (by show _ < (World.alloc _ _).heap.size; simp), World.cell?_drew]
    simp [World.cell?_alloc_at, Nat.mul_comm j 2, this]
  · intro j hj
    have := (pairs_part w.heap.size j hj).2
    rw [World.cell?_alloc_past _ _ _ (by show _ < (World.alloc _ _).heap.size; simp), World.cell?_drew]
    simp [World.cell?_alloc_at, Nat.mul_comm j 2, this]
  · intro j hj
    have := row12_at f j hj
    rw [World.cell?_alloc_past _ _ _ (by show _ < (World.alloc _ _).heap.size; simp; omega), World.cell?_drew, World.cell?_alloc_past _ _ _ (by simp)]
    simp [this]
  · intro j hj
    have := none12_at j hj
    rw [World.cell?_alloc_at _ _ _ _ (by show _ = (World.alloc _ _).heap.size; simp), this]
    simp
  · intro j hj
    rw [World.frozen?_alloc_at _ _ _ _ (by show _ = (World.alloc _ _).heap.size; simp)]

theorem LK.step {w wr : World} {f : Nat → ByteArray} {k : Nat} (T : LK w f k wr) (hk : k < 12) (o : Obj) : LK w f (k + 1) ((wr.setCell ⟨w.heap.size + 1 + 1, k, none⟩ (.string (f k))).alloc o) := by
  have z := T.sz
  have cold : ∀ (b j : Nat), b < wr.heap.size → (b = w.heap.size + 1 + 1 → j ≠ k) → ((wr.setCell ⟨w.heap.size + 1 + 1, k, none⟩ (.string (f k))).alloc o).cell? ⟨b, j, none⟩ = wr.cell? ⟨b, j, none⟩ := by
    intro b j hb hne
    rw [World.cell?_alloc_past _ _ _ (by simpa [World.setCell] using hb), World.cell?_setCell_other _ _ _ _ (by intro e; injection e with e1 e2; exact hne e1.symm e2.symm)]
  have fold : ∀ (b j : Nat), b < wr.heap.size → ((wr.setCell ⟨w.heap.size + 1 + 1, k, none⟩ (.string (f k))).alloc o).frozen? ⟨b, j, none⟩ = wr.frozen? ⟨b, j, none⟩ := by
    intro b j hb
    rw [World.frozen?_alloc_past _ _ _ (by simpa [World.setCell] using hb), World.frozen?_setCell]
  refine ⟨?_, ?_, ?_, ?_, ?_, ?_, ?_⟩
  · exact (T.bel.setCell (by simp; omega) _).alloc (by have := T.bel.size; simp [World.setCell]; omega) _
  · simp [World.setCell]; omega
  · intro j hj; rw [cold _ _ (by omega) (by omega)]; exact T.pt j hj
  · intro j hj; rw [cold _ _ (by omega) (by omega)]; exact T.pp j hj
  · intro j hj; rw [cold _ _ (by omega) (by omega)]; exact T.bx j hj
  · intro j hj
    by_cases e : j = k
    · subst e
      rw [if_pos (by omega)]
      exact (World.cell?_alloc_past _ _ _ (by simp [World.setCell]; omega)).trans (World.cell?_setCell_same _ _ _ (T.ks j hj))
    · rw [cold _ _ (by omega) (fun _ => e), T.ks j hj]
      by_cases c : j < k
      · rw [if_pos c, if_pos (by omega)]
      · rw [if_neg c, if_neg (by omega)]
  · intro j hj; rw [fold _ _ (by omega)]; exact T.kf j hj

/-- What list hands back: a slice of twelve strings. -/
def Twelve (f : Nat → ByteArray) (w : World) (e : Ending) (w' : World) : Prop :=
  ∃ g, e = .returned (.slice (some ⟨g, 0, none⟩) 12 12) ∧ w.heap.size ≤ g ∧ g < w'.heap.size ∧ (∀ j, j < 12 → w'.cell? ⟨g, j, none⟩ = some (.string (f j))) ∧ Below w.heap.size w w'

theorem make12 (w : World) : (Instr.makeSlice 23 (.int .i64 12) (.int .i64 12)).run Trym.prog w = .ok (.slice (some ⟨w.heap.size, 0, none⟩) 12 12) (w.alloc (.cells #[.string ⟨#[]⟩, .string ⟨#[]⟩, .string ⟨#[]⟩, .string ⟨#[]⟩, .string ⟨#[]⟩, .string ⟨#[]⟩, .string ⟨#[]⟩, .string ⟨#[]⟩, .string ⟨#[]⟩, .string ⟨#[]⟩, .string ⟨#[]⟩, .string ⟨#[]⟩] 9)) := by kernel_rfl

set_option maxRecDepth 100000 in
set_option maxHeartbeats 1000000 in
theorem list13 (f : Nat → ByteArray) (w : World) :
    Calls Trym.prog 13 #[agg12 f] w (Twelve f w) := by
  have hmk := make12
  unfold agg12
  go_enter Trym.func13, Trym.ntmps13
  go_wp2_with fail
  refine (script14 _ _).mono ?_
  rintro e w1 ⟨rfl, hw1⟩
  have H := LK.start w w1 f (by rw [hw1]; simp [row12])
  have hz1 : w1.heap.size = w.heap.size + 1 + 1 := by rw [hw1]; show (World.alloc _ _).heap.size = _; simp
  have HZ : Hid (w1.heap.size = w.heap.size + 1 + 1) := hz1
  clear hw1 hz1
  go_wp2_with fail
  rw [HZ.out]
  clear HZ hmk
  go_loopw [13] (fun i wr => ∃ k : Nat, k ≤ 12 ∧ i = .int .i64 k ∧ LK w f k wr) (fun i _ => 12 - (intOf i).toNat)
  case atStart => exact ⟨0, Nat.zero_le _, rfl, H⟩
  case round =>
    obtain ⟨k, hk, rfl, T⟩ := hrel
    clear H
    by_cases hlt : k < 12
    · have e1 := T.pt k hlt
      have e2 := T.pp k hlt
      have e3 := T.ks k hlt
      rw [if_neg (Nat.lt_irrefl _)] at e3
      have e4 := T.kf k hlt
      have e5 := T.sz
      have e6 : w.heap.size + 1 < wr.heap.size := by omega
      have e7 : w.heap.size < wr.heap.size := by omega
      have e8 := T.bx k hlt
      go_wp2
      go_roundw
      case rel => exact ⟨k + 1, by omega, by go_num, T.step hlt _⟩
      case measure => simp [intOf]; omega
    · obtain rfl : k = 12 := by omega
      go_wp2
      go_ret
      refine ⟨w.heap.size + 1 + 1, rfl, by omega, T.sz, ?_, T.bel⟩
      intro j hj
      rw [T.ks j hj, if_pos hj]

set_option maxRecDepth 100000 in
set_option maxHeartbeats 1000000 in
theorem list7 (f : Nat → ByteArray) (w : World) :
    Calls Trym.prog 7 #[agg12 f] w (Twelve f w) := by
  have HL := list13 f
  unfold agg12 at *
  have HL' : Hid (∀ (w : World), Calls Trym.prog 13 #[Value.agg #[.string (f 0), .string (f 1), .string (f 2), .string (f 3), .string (f 4), .string (f 5), .string (f 6), .string (f 7), .string (f 8), .string (f 9), .string (f 10), .string (f 11)]] w (Twelve f w)) := HL
  clear HL
  go_enter Trym.func7, Trym.ntmps7
  go_wp2_with fail
  refine (HL'.out _).mono ?_
  rintro e w1 ⟨g, rfl, h1, h2, h3, hb⟩
  go_wp2
  go_ret
  exact ⟨g, rfl, by simp at h1; omega, h2, h3, ((Below.refl _ _).alloc (Nat.le_refl _) _).trans (hb.mono (by simp))⟩
end Go.Proofs.Qxb6601595aMods
