/-
  THE WALK OF FnAppendThenReadIsIdentity (function 4).
-/
import Derived.Test.Qxb6001233aModsRoundTripWalk
namespace Go.Proofs.Qxb6001233aMods
open Go.RowKit Go.Lib

theorem isEmpty_L (s : ByteArray) (b : Bool) (h : (L s).isEmpty = b) : s.toList.isEmpty = b := by
  rw [Lib.toList_data]; exact h

set_option maxHeartbeats 2000000 in
theorem ident_digits (ng : Bool) (s : ByteArray) (x : Int) (w : World) (hs : s.size ≤ 1048576) (h1 : -65536 ≤ x) (h2 : x ≤ 65536) (h0 : L s ≠ []) (hcan : Nb.Canon (L s) → Nb.rd (Nb.app ⟨ng, L s, x⟩) = some ⟨ng, L s, x⟩) :
    Calls Trym.prog 4 #[.bool ng, .string s, .int .i64 x] w fun e w' => e = .returned (.bool true) ∧ Below w.heap.size w w' := by
  have hne : s.toList.isEmpty = false := isEmpty_L s false (by cases hL : L s with | nil => exact absurd hL h0 | cons => rfl)
  have hal : (Nb.app ⟨ng, L s, x⟩).length ≤ (L s).length + 65540 := Nb.app_length ⟨ng, L s, x⟩ h1 h2
  have hlen := L_len s
  have hsz : (⟨(Nb.app ⟨ng, L s, x⟩).toArray⟩ : ByteArray).size ≤ 16777216 := by show (Nb.app _).length ≤ _; omega
  have HL : (L s).length ≤ 16777216 := by omega
  have HC : Hid (Nb.Canon (L s) → Nb.rd (Nb.app ⟨ng, L s, x⟩) = some ⟨ng, L s, x⟩) := hcan
  clear h0 hal hlen hcan
  go_enter Trym.func4, Trym.ntmps4
  go_wp2_with fail
  refine (bytes13 ng s x _ hs).mono ?_
  rintro e w' ⟨rfl, rfl⟩
  go_wp2_with fail
  refine (canon14 s _ (by omega)).mono ?_
  rintro e w' ⟨⟨b, rfl, hcb⟩, rfl⟩
  cases b with
  | false =>
    go_wp2
    go_ret
    exact ⟨rfl, Below.refl _ _⟩
  | true =>
    have V2 : Hid (numV (Nb.rd (L ⟨(Nb.app ⟨ng, L s, x⟩).toArray⟩)) = .tuple #[.agg #[.bool ng, .string s, .int .i64 x], .bool true]) := by
      show numV _ = _
      rw [L_mk, numV_some (HC.out (hcb rfl))]
      simp only [mk_L]
    have HA := append12 ng (L s) x
    rw [mk_L] at HA
    have HA' : Hid (∀ (w : World), (L s).length ≤ 16777216 → -65536 ≤ x → x ≤ 65536 → Calls Trym.prog 12 #[.agg #[.bool ng, .string s, .int .i64 x], .slice none 0 0] w fun e w' => Reads (Nb.app ⟨ng, L s, x⟩) e w' ∧ Below w.heap.size w w') := HA
    clear HA hcb HC
    go_wp2_with fail
    refine (HA'.out _ HL h1 h2).mono ?_
    rintro e w2 ⟨⟨g, cap, rfl, hcv⟩, hb2⟩
    obtain ⟨c0, c1, c2, z2⟩ := three_cells hb2
    go_wp2_with fail
    refine (read11 _ _ hsz).mono ?_
    rintro e w3 ⟨rfl, hb3⟩
    rw [V2.out]
    have d0 := (hb3.cell (p := ⟨w'.heap.size, 0, none⟩) z2).trans c0
    have d1 := (hb3.cell (p := ⟨w'.heap.size, 1, none⟩) z2).trans c1
    have d2 := (hb3.cell (p := ⟨w'.heap.size, 2, none⟩) z2).trans c2
    have z3 : w'.heap.size < w3.heap.size := by have := hb3.size; omega
    clear c0 c1 c2 hcv
    go_wp2
    go_ret
    refine ⟨by simp, ?_⟩
    exact (((Below.refl _ _).alloc (Nat.le_refl _) _).trans (hb2.mono (by simp))).trans ((hb3.mono (by omega)).alloc (by omega) _)

set_option maxHeartbeats 2000000 in
theorem ident_none (ng : Bool) (s : ByteArray) (x : Int) (w : World) (hs : s.size ≤ 1048576) (h1 : -65536 ≤ x) (h2 : x ≤ 65536) (h0 : L s = []) :
    Calls Trym.prog 4 #[.bool ng, .string s, .int .i64 x] w fun e w' => e = .returned (.bool true) ∧ Below w.heap.size w w' := by
  obtain rfl : s = ⟨#[]⟩ := by rw [← mk_L s, h0]
  have V2 : Hid (numV (Nb.rd (L ⟨(Nb.app ⟨ng, [], x⟩).toArray⟩)) = .tuple #[.agg #[.bool false, .string ⟨#[]⟩, .int .i64 0], .bool true]) := by
    show numV _ = _
    rw [L_mk, Nb.app_zero rfl, numV_some Nb.rd_zero]
    rfl
  have hsz : (⟨(Nb.app ⟨ng, [], x⟩).toArray⟩ : ByteArray).size ≤ 16777216 := by rw [Nb.app_zero rfl]; show 1 ≤ _; omega
  clear hs h0
  have hs : (⟨#[]⟩ : ByteArray).size ≤ 1048576 := by show 0 ≤ _; omega
  go_enter Trym.func4, Trym.ntmps4
  go_wp2_with fail
  refine (bytes13 ng ⟨#[]⟩ x _ hs).mono ?_
  rintro e w' ⟨rfl, rfl⟩
  go_wp2_with fail
  refine (canon14 ⟨#[]⟩ _ (by omega)).mono ?_
  rintro e w' ⟨⟨b, rfl, hcb⟩, rfl⟩
  cases b with
  | false =>
    go_wp2
    go_ret
    exact ⟨rfl, Below.refl _ _⟩
  | true =>
    clear hcb
    go_wp2_with fail
    refine (append12 ng [] x _ (by simp) h1 h2).mono ?_
    rintro e w2 ⟨⟨g, cap, rfl, hcv⟩, hb2⟩
    obtain ⟨c0, c1, c2, z2⟩ := three_cells hb2
    go_wp2_with fail
    refine (read11 _ _ hsz).mono ?_
    rintro e w3 ⟨rfl, hb3⟩
    rw [V2.out]
    clear c0 c1 c2 hcv
    go_wp2
    go_ret
    refine ⟨by simp, ?_⟩
    exact (((Below.refl _ _).alloc (Nat.le_refl _) _).trans (hb2.mono (by simp))).trans ((hb3.mono (by omega)).alloc (by have := hb3.size; omega) _)

set_option maxHeartbeats 2000000 in
theorem ident_walk (ng : Bool) (s : ByteArray) (x : Int) (w : World) (hm : s.size ≤ 9223372036854775807) :
    Calls Trym.prog 4 #[.bool ng, .string s, .int .i64 x] w fun e w' => e = .returned (.bool true) ∧ Below w.heap.size w w' := by
  by_cases hs : s.size ≤ 1048576
  · by_cases h2 : x ≤ 65536
    · by_cases h1 : -65536 ≤ x
      · by_cases h0 : L s = []
        · exact ident_none ng s x w hs h1 h2 h0
        · exact ident_digits ng s x w hs h1 h2 h0 (fun hc => Nb.rd_app hc h0)
      · go_enter Trym.func4, Trym.ntmps4
        go_wp2_with fail
        refine (bytes13 ng s x _ hs).mono ?_
        rintro e w' ⟨rfl, rfl⟩
        go_wp2
        go_ret
        exact ⟨rfl, Below.refl _ _⟩
    · go_enter Trym.func4, Trym.ntmps4
      go_wp2_with fail
      refine (bytes13 ng s x _ hs).mono ?_
      rintro e w' ⟨rfl, rfl⟩
      go_wp2
      go_ret
      exact ⟨rfl, Below.refl _ _⟩
  · go_enter Trym.func4, Trym.ntmps4
    go_wp2_with fail
    refine (bytes13_no ng s x _ (by omega) hm).mono ?_
    rintro e w' ⟨rfl, rfl⟩
    go_wp2
    go_ret
    exact ⟨rfl, Below.refl _ _⟩
end Go.Proofs.Qxb6001233aMods
