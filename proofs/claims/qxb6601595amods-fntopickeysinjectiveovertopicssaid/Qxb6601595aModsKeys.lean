/-
  THE WALK OF scriptKeys (function 14).
-/
import Derived.Test.Qxb6601595aModsRows
import Derived.WalkKit
import Derived.WalkSpells
import Derived.WalkLawsBesides
import Derived.ProofKit
import Derived.BigRegion
import Derived.RegionTactic
namespace Go.Proofs.Qxb6601595aMods
open Go.RowKit

/-- The parts, in the order of scriptKeys. -/
def parts : List ByteArray := [⟨#[115, 101, 113]⟩, ⟨#[113, 117, 101, 117, 101]⟩, ⟨#[114, 117, 110, 110, 105, 110, 103]⟩, ⟨#[108, 97, 115, 116, 45, 97, 116, 116, 101, 109, 112, 116, 115]⟩,
  ⟨#[100, 101, 97, 100]⟩, ⟨#[114, 101, 99, 111, 114, 100, 115]⟩, ⟨#[97, 116, 116, 101, 109, 112, 116, 115]⟩, ⟨#[100, 117, 101, 115]⟩, ⟨#[105, 100, 115]⟩, ⟨#[109, 97, 114, 107, 115]⟩,
  ⟨#[111, 108, 100, 45, 109, 97, 114, 107, 115]⟩, ⟨#[119, 97, 107, 101]⟩]
def part (j : Nat) : ByteArray := parts.getD j ⟨#[]⟩

/-- The row of twelve pairs that scriptKeys lays: a part and a pointer to the field. -/
def pairs (b : Nat) : Array Value :=
  #[.string (part 0), .pointer (some ⟨b, 0, none⟩), .string (part 1), .pointer (some ⟨b, 1, none⟩), .string (part 2), .pointer (some ⟨b, 2, none⟩), .string (part 3), .pointer (some ⟨b, 3, none⟩),
    .string (part 4), .pointer (some ⟨b, 4, none⟩), .string (part 5), .pointer (some ⟨b, 5, none⟩), .string (part 6), .pointer (some ⟨b, 6, none⟩), .string (part 7), .pointer (some ⟨b, 7, none⟩),
    .string (part 8), .pointer (some ⟨b, 8, none⟩), .string (part 9), .pointer (some ⟨b, 9, none⟩), .string (part 10), .pointer (some ⟨b, 10, none⟩), .string (part 11), .pointer (some ⟨b, 11, none⟩)]

set_option maxRecDepth 100000 in
set_option maxHeartbeats 1000000 in
theorem script14 (b : Nat) (w : World) :
    Calls Trym.prog 14 #[.pointer (some ⟨b, 0, none⟩)] w fun e w' => e = .returned (.slice (some ⟨w.heap.size, 0, none⟩) 12 12) ∧ w' = (w.alloc (.cells (pairs b) 36)).drew := by
  go_enter Trym.func14, Trym.ntmps14
  go_wp2
  go_region
  go_wp2
  go_ret
  exact ⟨rfl, rfl⟩

theorem pairs_part (b j : Nat) (h : j < 12) : (pairs b)[2 * j]? = some (.string (part j)) ∧ (pairs b)[2 * j + 1]? = some (.pointer (some ⟨b, j, none⟩)) := by
  match j, h with
  | 0, _ => exact ⟨rfl, rfl⟩
  | 1, _ => exact ⟨rfl, rfl⟩
  | 2, _ => exact ⟨rfl, rfl⟩
  | 3, _ => exact ⟨rfl, rfl⟩
  | 4, _ => exact ⟨rfl, rfl⟩
  | 5, _ => exact ⟨rfl, rfl⟩
  | 6, _ => exact ⟨rfl, rfl⟩
  | 7, _ => exact ⟨rfl, rfl⟩
  | 8, _ => exact ⟨rfl, rfl⟩
  | 9, _ => exact ⟨rfl, rfl⟩
  | 10, _ => exact ⟨rfl, rfl⟩
  | 11, _ => exact ⟨rfl, rfl⟩
  | (k + 12), h => exact absurd h (by omega)
end Go.Proofs.Qxb6601595aMods
