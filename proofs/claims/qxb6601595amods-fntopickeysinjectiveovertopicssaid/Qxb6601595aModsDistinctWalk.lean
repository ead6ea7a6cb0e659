/-
  THE WALK OF FnTopicKeysPairwiseDistinct (function 3).
-/
import Derived.Test.Qxb6601595aModsList
import Derived.Test.Qxb6601595aModsPlain
import Derived.BigQuiet
import Derived.Lib.Strings
namespace Go.Proofs.Qxb6601595aMods
open Go.RowKit

set_option maxHeartbeats 400000 in
theorem bytes6 (s t : ByteArray) (w : World) (hs : s.size + t.size ≤ 1048576) :
    Calls Trym.prog 6 #[.string s, .string t] w fun e w' => e = .returned (.bool true) ∧ w' = w := by
  go_enter Trym.func6, Trym.ntmps6
  go_wp2
  go_ret
  exact ⟨rfl, rfl⟩

set_option maxHeartbeats 400000 in
theorem bytes6_no (s t : ByteArray) (w : World) (hs : 1048576 < s.size + t.size) (hm : s.size ≤ 9223372036854775807) (hn : t.size ≤ 9223372036854775807) :
    Calls Trym.prog 6 #[.string s, .string t] w fun e w' => e = .returned (.bool false) ∧ w' = w := by
  by_cases h1 : 1048576 < s.size
  · go_enter Trym.func6, Trym.ntmps6
    go_wp2
    go_ret
    exact ⟨rfl, rfl⟩
  · by_cases h2 : 1048576 < t.size
    · go_enter Trym.func6, Trym.ntmps6
      go_wp2
      go_ret
      exact ⟨rfl, rfl⟩
    · go_enter Trym.func6, Trym.ntmps6
      go_wp2
      go_ret
      exact ⟨rfl, rfl⟩

/-- What the loops hold on to. -/
def Held (w : World) (g : Nat) (f : Nat → ByteArray) (wr : World) : Prop :=
  (∀ j, j < 12 → wr.cell? ⟨g, j, none⟩ = some (.string (f j))) ∧ Below w.heap.size w wr

theorem Held.drewN {w : World} {g : Nat} {f : Nat → ByteArray} {wr : World} (h : Held w g f wr) (q : Nat) : Held w g f (wr.drewN q) :=
  ⟨h.1, ⟨h.2.os, h.2.tape, h.2.output, h.2.size, h.2.block⟩⟩
theorem toList_ne {a b : ByteArray} (h : a ≠ b) : (a.toList == b.toList) = false := by
  rw [Lib.toList_data, Lib.toList_data, beq_eq_false_iff_ne]
  intro e
  exact h (L_inj e)

set_option maxHeartbeats 1000000 in
theorem distinct_yes (ns t : ByteArray) (w : World) (hn : ns.size ≤ 16384) (ht : t.size ≤ 16384) :
    Calls Trym.prog 3 #[.string ns, .string t] w fun e w' => e = .returned (.bool true) ∧ Below w.heap.size w w' := by
  go_enter Trym.func3, Trym.ntmps3
  go_wp2_with fail
  refine (bytes6 ns t _ (by omega)).mono ?_
  rintro e w0 ⟨rfl, rfl⟩
  go_wp2_with fail
  refine (topic8 ns t _ hn ht).mono ?_
  rintro e w1 ⟨rfl, hb1⟩
  go_wp2_with fail
  refine (list7 _ _).mono ?_
  rintro e w2 ⟨g, rfl, h1, h2, h3, hb2⟩
  have HH : Held w0 g (pk ns t) w2 := ⟨h3, hb1.trans (hb2.mono hb1.size)⟩
  clear h1 h2 h3 hb1 hb2
  go_wp2_with fail
  go_loopw [6] (fun i wr => ∃ k : Nat, k ≤ 12 ∧ i = .int .i64 k ∧ Held w0 g (pk ns t) wr) (fun i _ => 12 - (intOf i).toNat)
  case atStart => exact ⟨0, Nat.zero_le _, rfl, HH⟩
  case round =>
    obtain ⟨k, hk, rfl, HK⟩ := hrel
    clear HH
    by_cases hlt : k < 12
    · obtain ⟨wo, rfl⟩ : ∃ wo : World, wo = wr := ⟨_, rfl⟩
      go_wp2_with fail
      go_loopw [7] (fun j wr => ∃ m : Nat, k + 1 ≤ m ∧ m ≤ 12 ∧ j = .int .i64 m ∧ Held w0 g (pk ns t) wr) (fun j _ => 12 - (intOf j).toNat)
      case atStart => exact ⟨k + 1, Nat.le_refl _, by omega, by go_num, HK⟩
      case round =>
        obtain ⟨m, hm1, hm2, rfl, HM⟩ := hrel
        clear HK
        by_cases hlt2 : m < 12
        · have c1 := HM.1 k hlt
          have c2 := HM.1 m hlt2
          have hne : ((pk ns t k).toList == (pk ns t m).toList) = false := toList_ne (pk_ne hlt hlt2 (by omega))
          go_wp2_with fail
          go_quiet (fail)
          go_wp2
          go_roundw
          case rel => exact ⟨m + 1, by omega, by omega, by go_num, HM.drewN nq⟩
          case measure => simp [intOf]; omega
        · go_wp2
          go_roundw
          case rel => exact ⟨k + 1, by omega, by go_num, HM⟩
          case measure => simp [intOf]; omega
    · go_wp2
      go_ret
      exact ⟨rfl, HK.2⟩

set_option maxHeartbeats 1000000 in
theorem distinct_walk (ns t : ByteArray) (w : World) (hm : ns.size ≤ 9223372036854775807) (hn : t.size ≤ 9223372036854775807) :
    Calls Trym.prog 3 #[.string ns, .string t] w fun e w' => e = .returned (.bool true) ∧ Below w.heap.size w w' := by
  by_cases h : ns.size + t.size ≤ 1048576
  · by_cases h1 : ns.size ≤ 16384
    · by_cases h2 : t.size ≤ 16384
      · exact distinct_yes ns t w h1 h2
      · go_enter Trym.func3, Trym.ntmps3
        go_wp2_with fail
        refine (bytes6 ns t _ h).mono ?_
        rintro e w0 ⟨rfl, rfl⟩
        go_wp2
        go_ret
        exact ⟨rfl, Below.refl _ _⟩
    · go_enter Trym.func3, Trym.ntmps3
      go_wp2_with fail
      refine (bytes6 ns t _ h).mono ?_
      rintro e w0 ⟨rfl, rfl⟩
      go_wp2
      go_ret
      exact ⟨rfl, Below.refl _ _⟩
  · go_enter Trym.func3, Trym.ntmps3
    go_wp2_with fail
    refine (bytes6_no ns t _ (by omega) hm hn).mono ?_
    rintro e w0 ⟨rfl, rfl⟩
    go_wp2
    go_ret
    exact ⟨rfl, Below.refl _ _⟩
end Go.Proofs.Qxb6601595aMods
