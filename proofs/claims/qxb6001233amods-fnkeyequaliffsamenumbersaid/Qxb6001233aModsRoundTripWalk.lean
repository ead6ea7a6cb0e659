/-
  THE WALK OF FnReadAppendRoundTrip (function 3).
-/
import Derived.Test.Qxb6001233aModsApp
namespace Go.Proofs.Qxb6001233aMods
open Go.RowKit Go.Lib

theorem rd_back {l : List UInt8} {n : Nb.Num} (h : Nb.rd l = some n) : Nb.rd (Nb.app n) = some n := by
  obtain ⟨hc, hz, _⟩ := Nb.rd_canon h
  by_cases h0 : n.dig = []
  · rw [Nb.app_zero h0, hz h0]; exact Nb.rd_zero
  · exact Nb.rd_app hc h0

theorem three_cells {w1 w2 : World} {a b c : Value} (h : Below (w1.alloc (.cells #[a, b, c] 24)).heap.size (w1.alloc (.cells #[a, b, c] 24)) w2) :
    w2.cell? ⟨w1.heap.size, 0, none⟩ = some a ∧ w2.cell? ⟨w1.heap.size, 1, none⟩ = some b ∧ w2.cell? ⟨w1.heap.size, 2, none⟩ = some c ∧ w1.heap.size < w2.heap.size := by
  refine ⟨?_, ?_, ?_, ?_⟩
  · rw [h.cell (p := ⟨w1.heap.size, 0, none⟩) (by simp)]; simp
  · rw [h.cell (p := ⟨w1.heap.size, 1, none⟩) (by simp)]; simp
  · rw [h.cell (p := ⟨w1.heap.size, 2, none⟩) (by simp)]; simp
  · have := h.size; simp at this; omega

set_option maxHeartbeats 2000000 in
theorem trip_yes (s : ByteArray) (n : Nb.Num) (w : World) (hs : s.size ≤ 1048576) (hr : Nb.rd (L s) = some n) (h1 : -65536 ≤ n.ex) (h2 : n.ex ≤ 65536) :
    Calls Trym.prog 3 #[.string s] w fun e w' => e = .returned (.bool true) ∧ Below w.heap.size w w' := by
  have hcan := Nb.rd_canon hr
  have hd : n.dig.length ≤ 1048576 := by have := hcan.2.2.1; rw [L_len] at this; omega
  have hal := Nb.app_length n h1 h2
  have V1 : Hid (numV (Nb.rd (L s)) = .tuple #[.agg #[.bool n.neg, .string ⟨n.dig.toArray⟩, .int .i64 n.ex], .bool true]) := numV_some hr
  have V2 : Hid (numV (Nb.rd (L ⟨(Nb.app n).toArray⟩)) = .tuple #[.agg #[.bool n.neg, .string ⟨n.dig.toArray⟩, .int .i64 n.ex], .bool true]) := numV_some (rd_back hr)
  have hsz : (⟨(Nb.app n).toArray⟩ : ByteArray).size ≤ 16777216 := by show (Nb.app n).length ≤ _; omega
  clear hr hcan
  go_enter Trym.func3, Trym.ntmps3
  go_wp2_with fail
  refine (bytes10 s _ hs).mono ?_
  rintro e w' ⟨rfl, rfl⟩
  go_wp2_with fail
  refine (read11 s _ (by omega)).mono ?_
  rintro e w1 ⟨rfl, hb1⟩
  rw [V1.out]
  go_wp2_with fail
  refine (append12 n.neg n.dig n.ex _ (by omega) h1 h2).mono ?_
  rintro e w2 ⟨⟨g, cap, rfl, hcv⟩, hb2⟩
  obtain ⟨c0, c1, c2, z2⟩ := three_cells hb2
  go_wp2_with fail
  refine (read11 _ _ hsz).mono ?_
  rintro e w3 ⟨rfl, hb3⟩
  rw [V2.out]
  have d0 := (hb3.cell (p := ⟨w1.heap.size, 0, none⟩) z2).trans c0
  have d1 := (hb3.cell (p := ⟨w1.heap.size, 1, none⟩) z2).trans c1
  have d2 := (hb3.cell (p := ⟨w1.heap.size, 2, none⟩) z2).trans c2
  have z3 : w1.heap.size < w3.heap.size := by have := hb3.size; omega
  clear c0 c1 c2 hcv
  go_wp2_with fail
  refine (append12 n.neg n.dig n.ex _ (by omega) h1 h2).mono ?_
  rintro e w4 ⟨⟨g4, cap4, rfl, hcv4⟩, hb4⟩
  go_wp2
  go_ret
  refine ⟨by simp, ?_⟩
  have s1 := hb1.size
  have s2 := hb2.size
  simp only [World.size_alloc] at s2
  exact ((hb1.trans (((Below.refl _ _).alloc s1 _).trans (hb2.mono (by simp; omega)))).trans ((hb3.mono (by omega)).alloc (by omega) _)).trans (hb4.mono (by simp; omega))

set_option maxHeartbeats 2000000 in
theorem trip_walk (s : ByteArray) (w : World) (hm : s.size ≤ 9223372036854775807) :
    Calls Trym.prog 3 #[.string s] w fun e w' => e = .returned (.bool true) ∧ Below w.heap.size w w' := by
  by_cases hs : s.size ≤ 1048576
  · cases hr : Nb.rd (L s) with
    | none =>
      have V1 : Hid (numV (Nb.rd (L s)) = .tuple #[.agg #[.bool false, .string ⟨#[]⟩, .int .i64 0], .bool false]) := numV_none hr
      clear hr
      go_enter Trym.func3, Trym.ntmps3
      go_wp2_with fail
      refine (bytes10 s _ hs).mono ?_
      rintro e w' ⟨rfl, rfl⟩
      go_wp2_with fail
      refine (read11 s _ (by omega)).mono ?_
      rintro e w1 ⟨rfl, hb1⟩
      rw [V1.out]
      go_wp2
      go_ret
      exact ⟨rfl, hb1.alloc hb1.size _⟩
    | some n =>
      by_cases h1 : n.ex ≤ 65536
      · by_cases h2 : -65536 ≤ n.ex
        · exact trip_yes s n w hs hr h2 h1
        · have V1 : Hid (numV (Nb.rd (L s)) = .tuple #[.agg #[.bool n.neg, .string ⟨n.dig.toArray⟩, .int .i64 n.ex], .bool true]) := numV_some hr
          clear hr
          go_enter Trym.func3, Trym.ntmps3
          go_wp2_with fail
          refine (bytes10 s _ hs).mono ?_
          rintro e w' ⟨rfl, rfl⟩
          go_wp2_with fail
          refine (read11 s _ (by omega)).mono ?_
          rintro e w1 ⟨rfl, hb1⟩
          rw [V1.out]
          go_wp2
          go_ret
          exact ⟨rfl, hb1.alloc hb1.size _⟩
      · have V1 : Hid (numV (Nb.rd (L s)) = .tuple #[.agg #[.bool n.neg, .string ⟨n.dig.toArray⟩, .int .i64 n.ex], .bool true]) := numV_some hr
        clear hr
        go_enter Trym.func3, Trym.ntmps3
        go_wp2_with fail
        refine (bytes10 s _ hs).mono ?_
        rintro e w' ⟨rfl, rfl⟩
        go_wp2_with fail
        refine (read11 s _ (by omega)).mono ?_
        rintro e w1 ⟨rfl, hb1⟩
        rw [V1.out]
        go_wp2
        go_ret
        exact ⟨rfl, hb1.alloc hb1.size _⟩
  · go_enter Trym.func3, Trym.ntmps3
    go_wp2_with fail
    refine (bytes10_no s _ (by omega) hm).mono ?_
    rintro e w' ⟨rfl, rfl⟩
    go_wp2
    go_ret
    exact ⟨rfl, Below.refl _ _⟩
end Go.Proofs.Qxb6001233aMods
