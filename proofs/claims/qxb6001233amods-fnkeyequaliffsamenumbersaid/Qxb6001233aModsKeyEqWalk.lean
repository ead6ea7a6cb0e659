/-
  THE WALK OF FnKeyEqualIffSameNumber (function 8).
-/
import Derived.Test.Qxb6001233aModsKeyWalk
import Derived.Test.Qxb6001233aModsRoundTripWalk
import Derived.Deep.RegionHeld3
namespace Go.Proofs.Qxb6001233aMods
open Go.RowKit Go.Lib

theorem keep_call {p q : Nat} {a b c d e f : Value} {wp w2 : World} (hb : Below wp.heap.size wp w2)
    (h : wp.cell? ⟨p, 0, none⟩ = some a ∧ wp.cell? ⟨p, 1, none⟩ = some b ∧ wp.cell? ⟨p, 2, none⟩ = some c ∧ wp.cell? ⟨q, 0, none⟩ = some d ∧ wp.cell? ⟨q, 1, none⟩ = some e ∧ wp.cell? ⟨q, 2, none⟩ = some f ∧ p < wp.heap.size ∧ q < wp.heap.size) :
    w2.cell? ⟨p, 0, none⟩ = some a ∧ w2.cell? ⟨p, 1, none⟩ = some b ∧ w2.cell? ⟨p, 2, none⟩ = some c ∧ w2.cell? ⟨q, 0, none⟩ = some d ∧ w2.cell? ⟨q, 1, none⟩ = some e ∧ w2.cell? ⟨q, 2, none⟩ = some f ∧ p < w2.heap.size ∧ q < w2.heap.size := by
  obtain ⟨h0, h1, h2, h3, h4, h5, hp, hq⟩ := h
  have hz := hb.size
  exact ⟨(hb.cell (p := ⟨p, 0, none⟩) hp).trans h0, (hb.cell (p := ⟨p, 1, none⟩) hp).trans h1, (hb.cell (p := ⟨p, 2, none⟩) hp).trans h2,
    (hb.cell (p := ⟨q, 0, none⟩) hq).trans h3, (hb.cell (p := ⟨q, 1, none⟩) hq).trans h4, (hb.cell (p := ⟨q, 2, none⟩) hq).trans h5, by omega, by omega⟩

theorem eql24 (na nb : Nb.Num) (w : World) (h : na ≠ nb) : (binOp .eql 24 (.agg #[.bool na.neg, .string ⟨na.dig.toArray⟩, .int .i64 na.ex]) (.agg #[.bool nb.neg, .string ⟨nb.dig.toArray⟩, .int .i64 nb.ex])).run Trym.prog w = .ok (.bool false) w := by
  obtain ⟨an, ad, ax⟩ := na
  obtain ⟨bn, bd, bx⟩ := nb
  simp only
  by_cases h1 : an = bn
  · subst h1
    by_cases h2 : ad = bd
    · subst h2
      have h3 : (ax == bx) = false := by
        rw [beq_eq_false_iff_ne]; intro e; exact h (by rw [e])
      go_simp
    · go_simp
  · go_simp

theorem eql24_same (na : Nb.Num) (w : World) : (binOp .eql 24 (.agg #[.bool na.neg, .string ⟨na.dig.toArray⟩, .int .i64 na.ex]) (.agg #[.bool na.neg, .string ⟨na.dig.toArray⟩, .int .i64 na.ex])).run Trym.prog w = .ok (.bool true) w := by
  go_simp

theorem toList_ne {a b : ByteArray} (h : a ≠ b) : (a.toList == b.toList) = false := by
  rw [Lib.toList_data, Lib.toList_data, beq_eq_false_iff_ne]
  intro e
  exact h (by rw [← mk_L a, ← mk_L b]; show ByteArray.mk a.data.toList.toArray = ByteArray.mk b.data.toList.toArray; rw [e])

/-- 'Do the keys agree' and 'do the numbers agree' are one answer, and that is how '==' runs on the numbers. -/
theorem answers (na nb : Nb.Num) (fa : Nb.Fits na) (fb : Nb.Fits nb) : ∃ r : Bool, ((⟨(Nb.key na).toArray⟩ : ByteArray).toList == (⟨(Nb.key nb).toArray⟩ : ByteArray).toList) = r ∧
    ∀ w, (binOp .eql 24 (.agg #[.bool na.neg, .string ⟨na.dig.toArray⟩, .int .i64 na.ex]) (.agg #[.bool nb.neg, .string ⟨nb.dig.toArray⟩, .int .i64 nb.ex])).run Trym.prog w = .ok (.bool r) w := by
  by_cases h : na = nb
  · subst h
    exact ⟨true, by simp, fun w => eql24_same na w⟩
  · refine ⟨false, toList_ne (fun e => h (Nb.key_inj fa fb ?_)), fun w => eql24 na nb w h⟩
    have := congrArg L e
    exact this

set_option maxHeartbeats 4000000 in
theorem keyeq_yes (a b : ByteArray) (na nb : Nb.Num) (w : World) (hs : a.size + b.size ≤ 1048576) (ha : Nb.rd (L a) = some na) (hb : Nb.rd (L b) = some nb) (fa : Nb.Fits na) (fb : Nb.Fits nb) (ra : inRange na = true) (rb : inRange nb = true) :
    Calls Trym.prog 8 #[.string a, .string b] w fun e w' => e = .returned (.bool true) ∧ Below w.heap.size w w' := by
  have VA : Hid (numV (Nb.rd (L a)) = .tuple #[aggV na, .bool true]) := numV_some ha
  have VB : Hid (numV (Nb.rd (L b)) = .tuple #[aggV nb, .bool true]) := numV_some hb
  have la : na.dig.length ≤ 1048576 := by have := (Nb.rd_canon ha).2.2.1; rw [L_len] at this; omega
  have lb : nb.dig.length ≤ 1048576 := by have := (Nb.rd_canon hb).2.2.1; rw [L_len] at this; omega
  obtain ⟨r, hr, hrun⟩ := answers na nb fa fb
  have RA : Hid (inRange na = true) := ra
  have RB : Hid (inRange nb = true) := rb
  have KA : Hid (∀ w, Calls Trym.prog 21 #[.agg #[.bool na.neg, .string ⟨na.dig.toArray⟩, .int .i64 na.ex]] w fun e w' => e = .returned (.string ⟨(Nb.key na).toArray⟩) ∧ Below w.heap.size w w') := fun w => key21 na.neg na.dig na.ex w (by omega) fa
  have KB : Hid (∀ w, Calls Trym.prog 21 #[.agg #[.bool nb.neg, .string ⟨nb.dig.toArray⟩, .int .i64 nb.ex]] w fun e w' => e = .returned (.string ⟨(Nb.key nb).toArray⟩) ∧ Below w.heap.size w w') := fun w => key21 nb.neg nb.dig nb.ex w (by omega) fb
  clear ha hb ra rb fa fb
  generalize (⟨(Nb.key na).toArray⟩ : ByteArray) = ka at KA hr
  generalize (⟨(Nb.key nb).toArray⟩ : ByteArray) = kb at KB hr
  go_enter Trym.func8, Trym.ntmps8
  go_wp2_with fail
  refine (bytes19 a b _ hs).mono ?_
  rintro e w0 ⟨rfl, rfl⟩
  go_wp2_with fail
  refine (read11 a _ (by omega)).mono ?_
  rintro e w1 ⟨rfl, hb1⟩
  rw [VA.out]
  go_wp2_with fail
  refine (read11 b _ (by omega)).mono ?_
  rintro e w2 ⟨rfl, hb2⟩
  rw [VB.out]
  obtain ⟨c0, c1, c2, z2⟩ := three_cells hb2
  go_wp2_with fail
  refine (range20 na _).mono ?_
  rintro e w3 ⟨rfl, hb3⟩
  rw [RA.out]
  obtain ⟨d0, d1, d2, z3⟩ := three_cells hb3
  have b3 := hb3
  have e0 := (hb3.cell (p := ⟨w1.heap.size, 0, none⟩) (by simp; omega)).trans ((World.cell?_alloc_past _ _ _ z2).trans c0)
  have e1 := (hb3.cell (p := ⟨w1.heap.size, 1, none⟩) (by simp; omega)).trans ((World.cell?_alloc_past _ _ _ z2).trans c1)
  have e2 := (hb3.cell (p := ⟨w1.heap.size, 2, none⟩) (by simp; omega)).trans ((World.cell?_alloc_past _ _ _ z2).trans c2)
  have z4 : w1.heap.size < w3.heap.size := by omega
  clear c0 c1 c2 hb3
  go_wp2_with fail
  refine (range20 nb _).mono ?_
  rintro e w4 ⟨rfl, hb4⟩
  rw [RB.out]
  have s1 := hb1.size
  have s2 := hb2.size
  simp only [World.size_alloc] at s2
  have B2 : Below w0.heap.size w0 w2 := hb1.trans (((Below.refl _ _).alloc s1 _).trans (hb2.mono (by simp; omega)))
  have B3 : Below w0.heap.size w0 w3 := (B2.alloc B2.size _).trans (b3.mono (by simp; omega))
  have B4 : Below w0.heap.size w0 w4 := B3.trans (hb4.mono B3.size)
  have S4 := keep_call hb4 ⟨e0, e1, e2, d0, d1, d2, z4, z3⟩
  clear B2 B3 s1 s2
  clear e0 e1 e2 d0 d1 d2 z3 z4
  obtain ⟨e0, e1, e2, d0, d1, d2, z4, z3⟩ := S4
  go_wp2_with fail
  go_region_held3 (fun wx => wx.cell? ⟨w1.heap.size, 0, none⟩ = some (.bool na.neg) ∧ wx.cell? ⟨w1.heap.size, 1, none⟩ = some (.string ⟨na.dig.toArray⟩) ∧ wx.cell? ⟨w1.heap.size, 2, none⟩ = some (.int .i64 na.ex) ∧ wx.cell? ⟨w2.heap.size, 0, none⟩ = some (.bool nb.neg) ∧ wx.cell? ⟨w2.heap.size, 1, none⟩ = some (.string ⟨nb.dig.toArray⟩) ∧ wx.cell? ⟨w2.heap.size, 2, none⟩ = some (.int .i64 nb.ex) ∧ w1.heap.size < wx.heap.size ∧ w2.heap.size < wx.heap.size) (first | exact ⟨e0, e1, e2, d0, d1, d2, z4, z3⟩ | exact keep_call (by assumption) (by assumption))
    (first
      | (go_at_call_of 21 (na.ex); refine (KA.out _).mono ?_; rintro e w5 ⟨rfl, hb5⟩)
      | (go_at_call_of 21 (nb.ex); refine (KB.out _).mono ?_; rintro e w5 ⟨rfl, hb5⟩))
  go_wp2
  go_ret
  rename_i w6 hb6 hH
  refine ⟨rfl, ?_⟩
  have s6 := hb6.size
  exact (B4.drew.trans (hb6.mono (Nat.le_trans B4.size (Nat.le_refl _)))).trans (hb5.mono (Nat.le_trans B4.size s6))

set_option maxHeartbeats 4000000 in
theorem keyeq_early (a b : ByteArray) (na nb : Nb.Num) (oka okb : Bool) (w : World) (hs : a.size + b.size ≤ 1048576) (VA : Hid (numV (Nb.rd (L a)) = .tuple #[aggV na, .bool oka])) (VB : Hid (numV (Nb.rd (L b)) = .tuple #[aggV nb, .bool okb]))
    (hno : oka = false ∨ okb = false) :
    Calls Trym.prog 8 #[.string a, .string b] w fun e w' => e = .returned (.bool true) ∧ Below w.heap.size w w' := by
  have HNO : Hid (oka = false ∨ okb = false) := hno
  clear hno
  go_enter Trym.func8, Trym.ntmps8
  go_wp2_with fail
  refine (bytes19 a b _ hs).mono ?_
  rintro e w0 ⟨rfl, rfl⟩
  go_wp2_with fail
  refine (read11 a _ (by omega)).mono ?_
  rintro e w1 ⟨rfl, hb1⟩
  rw [VA.out]
  go_wp2_with fail
  refine (read11 b _ (by omega)).mono ?_
  rintro e w2 ⟨rfl, hb2⟩
  rw [VB.out]
  have s1 := hb1.size
  have s2 := hb2.size
  simp only [World.size_alloc] at s2
  have B2 : Below w0.heap.size w0 w2 := hb1.trans (((Below.refl _ _).alloc s1 _).trans (hb2.mono (by simp; omega)))
  cases oka with
  | false =>
    go_wp2
    go_ret
    exact ⟨rfl, B2.alloc B2.size _⟩
  | true =>
    cases okb with
    | false =>
      go_wp2
      go_ret
      exact ⟨rfl, B2.alloc B2.size _⟩
    | true => exact absurd HNO.out (by simp)

set_option maxHeartbeats 4000000 in
theorem keyeq_far (a b : ByteArray) (na nb : Nb.Num) (w : World) (hs : a.size + b.size ≤ 1048576) (VA : Hid (numV (Nb.rd (L a)) = .tuple #[aggV na, .bool true])) (VB : Hid (numV (Nb.rd (L b)) = .tuple #[aggV nb, .bool true]))
    (hno : inRange na = false ∨ inRange nb = false) :
    Calls Trym.prog 8 #[.string a, .string b] w fun e w' => e = .returned (.bool true) ∧ Below w.heap.size w w' := by
  have HNO : Hid (inRange na = false ∨ inRange nb = false) := hno
  clear hno
  go_enter Trym.func8, Trym.ntmps8
  go_wp2_with fail
  refine (bytes19 a b _ hs).mono ?_
  rintro e w0 ⟨rfl, rfl⟩
  go_wp2_with fail
  refine (read11 a _ (by omega)).mono ?_
  rintro e w1 ⟨rfl, hb1⟩
  rw [VA.out]
  go_wp2_with fail
  refine (read11 b _ (by omega)).mono ?_
  rintro e w2 ⟨rfl, hb2⟩
  rw [VB.out]
  have s1 := hb1.size
  have s2 := hb2.size
  simp only [World.size_alloc] at s2
  have B2 : Below w0.heap.size w0 w2 := hb1.trans (((Below.refl _ _).alloc s1 _).trans (hb2.mono (by simp; omega)))
  obtain ⟨c0, c1, c2, z2⟩ := three_cells hb2
  go_wp2_with fail
  refine (range20 na _).mono ?_
  rintro e w3 ⟨rfl, hb3⟩
  have B3 : Below w0.heap.size w0 w3 := (B2.alloc B2.size _).trans (hb3.mono (by simp; omega))
  generalize hra : inRange na = ra
  have HRA : Hid (inRange na = ra) := hra
  clear hra
  cases ra with
  | false =>
    go_wp2
    go_ret
    exact ⟨rfl, B3⟩
  | true =>
    have RB : Hid (inRange nb = false) := by
      rcases HNO.out with h | h
      · rw [HRA.out] at h; cases h
      · exact h
    obtain ⟨d0, d1, d2, z3⟩ := three_cells hb3
    go_wp2_with fail
    refine (range20 nb _).mono ?_
    rintro e w4 ⟨rfl, hb4⟩
    rw [RB.out]
    go_wp2
    go_ret
    exact ⟨rfl, B3.trans (hb4.mono B3.size)⟩

theorem fits_of {l : List UInt8} {n : Nb.Num} (h : Nb.rd l = some n) (hr : inRange n = true) : Nb.Fits n := by
  obtain ⟨hc, hz, _⟩ := Nb.rd_canon h
  have hr2 : n.dig = [] ∨ (-130 ≤ n.ex ∧ n.ex ≤ 125) := of_decide_eq_true hr
  exact ⟨hc.1, hz, fun h0 => by rcases hr2 with e | e; exact absurd e h0; exact e.1, fun h0 => by rcases hr2 with e | e; exact absurd e h0; exact e.2⟩

set_option maxHeartbeats 4000000 in
theorem keyeq_walk (a b : ByteArray) (w : World) (hm : a.size ≤ 9223372036854775807) (hn : b.size ≤ 9223372036854775807) :
    Calls Trym.prog 8 #[.string a, .string b] w fun e w' => e = .returned (.bool true) ∧ Below w.heap.size w w' := by
  by_cases hs : a.size + b.size ≤ 1048576
  · cases ha : Nb.rd (L a) with
    | none =>
      cases hb : Nb.rd (L b) with
      | none => exact keyeq_early a b Nb.zero Nb.zero false false w hs (numV_none ha) (numV_none hb) (.inl rfl)
      | some nb => exact keyeq_early a b Nb.zero nb false true w hs (numV_none ha) (numV_some hb) (.inl rfl)
    | some na =>
      cases hb : Nb.rd (L b) with
      | none => exact keyeq_early a b na Nb.zero true false w hs (numV_some ha) (numV_none hb) (.inr rfl)
      | some nb =>
        by_cases ra : inRange na = true
        · by_cases rb : inRange nb = true
          · exact keyeq_yes a b na nb w hs ha hb (fits_of ha ra) (fits_of hb rb) ra rb
          · exact keyeq_far a b na nb w hs (numV_some ha) (numV_some hb) (.inr (by simpa using rb))
        · exact keyeq_far a b na nb w hs (numV_some ha) (numV_some hb) (.inl (by simpa using ra))
  · go_enter Trym.func8, Trym.ntmps8
    go_wp2_with fail
    refine (bytes19_no a b _ (by omega) hm hn).mono ?_
    rintro e w0 ⟨rfl, rfl⟩
    go_wp2
    go_ret
    exact ⟨rfl, Below.refl _ _⟩
end Go.Proofs.Qxb6001233aMods
