/-
  THE WALK OF FnTopicKeysInjectiveOverTopics (function 5).
-/
import Derived.Test.Qxb6601595aModsTagWalk
import Derived.Deep.CutRange
namespace Go.Proofs.Qxb6601595aMods
open Go.RowKit

set_option maxHeartbeats 1000000 in
theorem bytes12 (a b c d : ByteArray) (w : World) (hs : a.size + b.size + c.size + d.size ≤ 1048576) :
    Calls Trym.prog 12 #[.string a, .string b, .string c, .string d] w fun e w' => e = .returned (.bool true) ∧ w' = w := by
  go_enter Trym.func12, Trym.ntmps12
  go_wp2
  go_ret
  exact ⟨rfl, rfl⟩

set_option maxHeartbeats 1000000 in
theorem bytes12_no (a b c d : ByteArray) (w : World) (hs : 1048576 < a.size + b.size + c.size + d.size) (ha : a.size ≤ 9223372036854775807) (hb : b.size ≤ 9223372036854775807) (hc : c.size ≤ 9223372036854775807) (hd : d.size ≤ 9223372036854775807) :
    Calls Trym.prog 12 #[.string a, .string b, .string c, .string d] w fun e w' => e = .returned (.bool false) ∧ w' = w := by
  by_cases h1 : 1048576 < a.size
  · go_enter Trym.func12, Trym.ntmps12
    go_wp2
    go_ret
    exact ⟨rfl, rfl⟩
  · by_cases h2 : 1048576 < b.size
    · go_enter Trym.func12, Trym.ntmps12
      go_wp2
      go_ret
      exact ⟨rfl, rfl⟩
    · by_cases h3 : 1048576 < a.size + b.size
      · go_enter Trym.func12, Trym.ntmps12
        go_wp2
        go_ret
        exact ⟨rfl, rfl⟩
      · by_cases h4 : 1048576 < c.size
        · go_enter Trym.func12, Trym.ntmps12
          go_wp2
          go_ret
          exact ⟨rfl, rfl⟩
        · by_cases h5 : 1048576 < a.size + b.size + c.size
          · go_enter Trym.func12, Trym.ntmps12
            go_wp2
            go_ret
            exact ⟨rfl, rfl⟩
          · by_cases h6 : 1048576 < d.size
            · go_enter Trym.func12, Trym.ntmps12
              go_wp2
              go_ret
              exact ⟨rfl, rfl⟩
            · go_enter Trym.func12, Trym.ntmps12
              go_wp2
              go_ret
              exact ⟨rfl, rfl⟩

theorem toList_eq (a : ByteArray) : (a.toList == a.toList) = true := by simp

/-- The whole way: the answer of each pair is told ahead by 'r'. -/
def Pair (f g : Nat → ByteArray) (same : Bool) : Prop := ∀ i j, i < 12 → j < 12 → ((f i).toList == (g j).toList) = (same && ((i : Int) == (j : Int)))

def Held2 (w : World) (p q : Nat) (f g : Nat → ByteArray) (wr : World) : Prop :=
  (∀ j, j < 12 → wr.cell? ⟨p, j, none⟩ = some (.string (f j))) ∧ (∀ j, j < 12 → wr.cell? ⟨q, j, none⟩ = some (.string (g j))) ∧ Below w.heap.size w wr
theorem Held2.drewN {w : World} {p q : Nat} {f g : Nat → ByteArray} {wr : World} (h : Held2 w p q f g wr) (n : Nat) : Held2 w p q f g (wr.drewN n) :=
  ⟨h.1, h.2.1, ⟨h.2.2.os, h.2.2.tape, h.2.2.output, h.2.2.size, h.2.2.block⟩⟩

set_option maxHeartbeats 4000000 in
theorem inj_yes (n1 t1 n2 t2 : ByteArray) (w : World) (z1 : n1.size ≤ 16384) (z2 : t1.size ≤ 16384) (z3 : n2.size ≤ 16384) (z4 : t2.size ≤ 16384) (h1 : hasB (L n1) 123 = false) (h2 : hasB (L n2) 123 = false) (h3 : hasB (L t1) 125 = false) (h4 : hasB (L t2) 125 = false)
    (b1 b2 : Bool) (e1 : (n1.toList == n2.toList) = b1) (e2 : (t1.toList == t2.toList) = b2) (HP : Pair (pk n1 t1) (pk n2 t2) (b1 && b2)) :
    Calls Trym.prog 5 #[.string n1, .string t1, .string n2, .string t2] w fun e w' => e = .returned (.bool true) ∧ Below w.heap.size w w' := by
  have H1 : Hid (hasB (L n1) 123 = false) := h1
  have H2 : Hid (hasB (L n2) 123 = false) := h2
  have H3 : Hid (hasB (L t1) 125 = false) := h3
  have H4 : Hid (hasB (L t2) 125 = false) := h4
  clear h1 h2 h3 h4
  go_enter Trym.func5, Trym.ntmps5
  go_wp2_with fail
  refine (bytes12 n1 t1 n2 t2 _ (by omega)).mono ?_
  rintro e w0 ⟨rfl, rfl⟩
  go_wp2_with fail
  refine (has10 n1 123 _ (by omega)).mono ?_
  rintro e w0 ⟨rfl, rfl⟩
  rw [H1.out]
  go_wp2_with fail
  refine (has10 n2 123 _ (by omega)).mono ?_
  rintro e w0 ⟨rfl, rfl⟩
  rw [H2.out]
  go_wp2_with fail
  refine (has10 t1 125 _ (by omega)).mono ?_
  rintro e w0 ⟨rfl, rfl⟩
  rw [H3.out]
  go_wp2_with fail
  refine (has10 t2 125 _ (by omega)).mono ?_
  rintro e w0 ⟨rfl, rfl⟩
  rw [H4.out]
  go_wp2_with fail
  refine (topic8 n1 t1 _ z1 z2).mono ?_
  rintro e w1 ⟨rfl, hb1⟩
  go_wp2_with fail
  refine (list7 _ _).mono ?_
  rintro e w2 ⟨p, rfl, p1, p2, p3, hb2⟩
  go_wp2_with fail
  refine (topic8 n2 t2 _ z3 z4).mono ?_
  rintro e w3 ⟨rfl, hb3⟩
  go_wp2_with fail
  refine (list7 _ _).mono ?_
  rintro e w4 ⟨q, rfl, q1, q2, q3, hb4⟩
  have B2 : Below w0.heap.size w0 w2 := hb1.trans (hb2.mono hb1.size)
  have B34 : Below w2.heap.size w2 w4 := hb3.trans (hb4.mono hb3.size)
  have HH : Held2 w0 p q (pk n1 t1) (pk n2 t2) w4 := ⟨fun j hj => (B34.cell (p := ⟨p, j, none⟩) p2).trans (p3 j hj), q3, B2.trans (B34.mono B2.size)⟩
  clear p1 p2 p3 q1 q2 q3 hb1 hb2 hb3 hb4 B2 B34 H1 H2 H3 H4
  go_upto_region 11 with fail
  go_cut [11] from 14 to 75 (fun b wc => b = .bool (b1 && b2) ∧ wc = w4)
  case first =>
    clear HP HH
    cases b1 with
    | true =>
      go_wp2
      go_meet
      case rel => exact ⟨by simp, rfl⟩
    | false =>
      go_wp2
      go_meet
      case rel => exact ⟨by simp, rfl⟩
  case rest =>
    obtain ⟨rfl, rfl⟩ := hcut
    generalize (b1 && b2) = same at *
    clear e1 e2
    go_wp2_with fail
    go_loopw [12] (fun i wr => ∃ k : Nat, k ≤ 12 ∧ i = .int .i64 k ∧ Held2 w0 p q (pk n1 t1) (pk n2 t2) wr) (fun i _ => 12 - (intOf i).toNat)
    case atStart => exact ⟨0, Nat.zero_le _, rfl, HH⟩
    case round =>
      obtain ⟨k, hk, rfl, HK⟩ := hrel
      clear HH
      by_cases hlt : k < 12
      · obtain ⟨wo, rfl⟩ : ∃ wo : World, wo = wr := ⟨_, rfl⟩
        go_wp2_with fail
        go_loopw [13] (fun j wr => ∃ m : Nat, m ≤ 12 ∧ j = .int .i64 m ∧ Held2 w0 p q (pk n1 t1) (pk n2 t2) wr) (fun j _ => 12 - (intOf j).toNat)
        case atStart => exact ⟨0, Nat.zero_le _, rfl, HK⟩
        case round =>
          obtain ⟨m, hm2, rfl, HM⟩ := hrel
          clear HK
          by_cases hlt2 : m < 12
          · have c1 := HM.1 k hlt
            have c2 := HM.2.1 m hlt2
            have hpq := HP k m hlt hlt2
            have HP' : Hid (Pair (pk n1 t1) (pk n2 t2) same) := HP
            clear HP
            cases same with
            | true =>
              by_cases hkm : k = m
              · have hb : ((k : Int) == (m : Int)) = true := by simp [hkm]
                rw [hb, Bool.true_and] at hpq
                clear hkm
                go_wp2_with fail
                go_quiet (fail)
                go_wp2
                go_roundw
                case rel => exact ⟨m + 1, by omega, by go_num, HM.drewN nq⟩
                case measure => simp [intOf]; omega
              · have hb : ((k : Int) == (m : Int)) = false := by simp; omega
                rw [hb, Bool.true_and] at hpq
                clear hkm
                go_wp2_with fail
                go_quiet (fail)
                go_wp2
                go_roundw
                case rel => exact ⟨m + 1, by omega, by go_num, HM.drewN nq⟩
                case measure => simp [intOf]; omega
            | false =>
              rw [Bool.false_and] at hpq
              go_wp2_with fail
              go_quiet (fail)
              go_wp2
              go_roundw
              case rel => exact ⟨m + 1, by omega, by go_num, HM.drewN nq⟩
              case measure => simp [intOf]; omega
          · go_wp2
            go_roundw
            case rel => exact ⟨k + 1, by omega, by go_num, HM⟩
            case measure => simp [intOf]; omega
      · go_wp2
        go_ret
        exact ⟨rfl, HK.2.2⟩

theorem pair_of {n1 t1 n2 t2 : ByteArray} (h1 : hasB (L n1) 123 = false) (h2 : hasB (L n2) 123 = false) (h3 : hasB (L t1) 125 = false) (h4 : hasB (L t2) 125 = false) :
    Pair (pk n1 t1) (pk n2 t2) ((n1.toList == n2.toList) && (t1.toList == t2.toList)) := by
  intro i j hi hj
  by_cases e : pk n1 t1 i = pk n2 t2 j
  · obtain ⟨rfl, rfl, rfl⟩ := pk_inj hi hj h1 h2 h3 h4 e
    simp
  · rw [toList_ne e]
    by_cases a : n1 = n2
    · subst a
      by_cases b : t1 = t2
      · subst b
        have hij : ((i : Int) == (j : Int)) = false := by
          rw [beq_eq_false_iff_ne]
          intro hc
          have : i = j := by omega
          subst this
          exact e rfl
        rw [hij]
        simp
      · rw [toList_ne b]; simp
    · rw [toList_ne a]; simp

set_option maxHeartbeats 4000000 in
theorem inj_early (n1 t1 n2 t2 : ByteArray) (w : World) (h : n1.size + t1.size + n2.size + t2.size ≤ 1048576) (hz : 16384 < n1.size ∨ 16384 < t1.size ∨ 16384 < n2.size ∨ 16384 < t2.size) :
    Calls Trym.prog 5 #[.string n1, .string t1, .string n2, .string t2] w fun e w' => e = .returned (.bool true) ∧ Below w.heap.size w w' := by
  by_cases c1 : 16384 < n1.size
  · clear hz
    go_enter Trym.func5, Trym.ntmps5
    go_wp2_with fail
    refine (bytes12 n1 t1 n2 t2 _ h).mono ?_
    rintro e w0 ⟨rfl, rfl⟩
    go_wp2
    go_ret
    exact ⟨rfl, Below.refl _ _⟩
  · by_cases c2 : 16384 < t1.size
    · clear hz
      go_enter Trym.func5, Trym.ntmps5
      go_wp2_with fail
      refine (bytes12 n1 t1 n2 t2 _ h).mono ?_
      rintro e w0 ⟨rfl, rfl⟩
      go_wp2
      go_ret
      exact ⟨rfl, Below.refl _ _⟩
    · by_cases c3 : 16384 < n2.size
      · clear hz
        go_enter Trym.func5, Trym.ntmps5
        go_wp2_with fail
        refine (bytes12 n1 t1 n2 t2 _ h).mono ?_
        rintro e w0 ⟨rfl, rfl⟩
        go_wp2
        go_ret
        exact ⟨rfl, Below.refl _ _⟩
      · have c4 : 16384 < t2.size := by omega
        clear hz
        go_enter Trym.func5, Trym.ntmps5
        go_wp2_with fail
        refine (bytes12 n1 t1 n2 t2 _ h).mono ?_
        rintro e w0 ⟨rfl, rfl⟩
        go_wp2
        go_ret
        exact ⟨rfl, Below.refl _ _⟩

set_option maxHeartbeats 4000000 in
theorem inj_walk (n1 t1 n2 t2 : ByteArray) (w : World) (m1 : n1.size ≤ 9223372036854775807) (m2 : t1.size ≤ 9223372036854775807) (m3 : n2.size ≤ 9223372036854775807) (m4 : t2.size ≤ 9223372036854775807) :
    Calls Trym.prog 5 #[.string n1, .string t1, .string n2, .string t2] w fun e w' => e = .returned (.bool true) ∧ Below w.heap.size w w' := by
  by_cases h : n1.size + t1.size + n2.size + t2.size ≤ 1048576
  · by_cases hz : 16384 < n1.size ∨ 16384 < t1.size ∨ 16384 < n2.size ∨ 16384 < t2.size
    · exact inj_early n1 t1 n2 t2 w h hz
    · have z1 : n1.size ≤ 16384 := by omega
      have z2 : t1.size ≤ 16384 := by omega
      have z3 : n2.size ≤ 16384 := by omega
      have z4 : t2.size ≤ 16384 := by omega
      clear hz
      by_cases b1 : hasB (L n1) 123 = true
      · have B1 : Hid (hasB (L n1) 123 = true) := b1
        clear b1
        go_enter Trym.func5, Trym.ntmps5
        go_wp2_with fail
        refine (bytes12 n1 t1 n2 t2 _ h).mono ?_
        rintro e w0 ⟨rfl, rfl⟩
        go_wp2_with fail
        refine (has10 n1 123 _ (by omega)).mono ?_
        rintro e w0 ⟨rfl, rfl⟩
        rw [B1.out]
        go_wp2
        go_ret
        exact ⟨rfl, Below.refl _ _⟩
      · have B1 : Hid (hasB (L n1) 123 = false) := by simpa [Hid] using b1
        clear b1
        by_cases b2 : hasB (L n2) 123 = true
        · have B2 : Hid (hasB (L n2) 123 = true) := b2
          clear b2
          go_enter Trym.func5, Trym.ntmps5
          go_wp2_with fail
          refine (bytes12 n1 t1 n2 t2 _ h).mono ?_
          rintro e w0 ⟨rfl, rfl⟩
          go_wp2_with fail
          refine (has10 n1 123 _ (by omega)).mono ?_
          rintro e w0 ⟨rfl, rfl⟩
          rw [B1.out]
          go_wp2_with fail
          refine (has10 n2 123 _ (by omega)).mono ?_
          rintro e w0 ⟨rfl, rfl⟩
          rw [B2.out]
          go_wp2
          go_ret
          exact ⟨rfl, Below.refl _ _⟩
        · have B2 : Hid (hasB (L n2) 123 = false) := by simpa [Hid] using b2
          clear b2
          by_cases b3 : hasB (L t1) 125 = true
          · have B3 : Hid (hasB (L t1) 125 = true) := b3
            clear b3
            go_enter Trym.func5, Trym.ntmps5
            go_wp2_with fail
            refine (bytes12 n1 t1 n2 t2 _ h).mono ?_
            rintro e w0 ⟨rfl, rfl⟩
            go_wp2_with fail
            refine (has10 n1 123 _ (by omega)).mono ?_
            rintro e w0 ⟨rfl, rfl⟩
            rw [B1.out]
            go_wp2_with fail
            refine (has10 n2 123 _ (by omega)).mono ?_
            rintro e w0 ⟨rfl, rfl⟩
            rw [B2.out]
            go_wp2_with fail
            refine (has10 t1 125 _ (by omega)).mono ?_
            rintro e w0 ⟨rfl, rfl⟩
            rw [B3.out]
            go_wp2
            go_ret
            exact ⟨rfl, Below.refl _ _⟩
          · have B3 : Hid (hasB (L t1) 125 = false) := by simpa [Hid] using b3
            clear b3
            by_cases b4 : hasB (L t2) 125 = true
            · have B4 : Hid (hasB (L t2) 125 = true) := b4
              clear b4
              go_enter Trym.func5, Trym.ntmps5
              go_wp2_with fail
              refine (bytes12 n1 t1 n2 t2 _ h).mono ?_
              rintro e w0 ⟨rfl, rfl⟩
              go_wp2_with fail
              refine (has10 n1 123 _ (by omega)).mono ?_
              rintro e w0 ⟨rfl, rfl⟩
              rw [B1.out]
              go_wp2_with fail
              refine (has10 n2 123 _ (by omega)).mono ?_
              rintro e w0 ⟨rfl, rfl⟩
              rw [B2.out]
              go_wp2_with fail
              refine (has10 t1 125 _ (by omega)).mono ?_
              rintro e w0 ⟨rfl, rfl⟩
              rw [B3.out]
              go_wp2_with fail
              refine (has10 t2 125 _ (by omega)).mono ?_
              rintro e w0 ⟨rfl, rfl⟩
              rw [B4.out]
              go_wp2
              go_ret
              exact ⟨rfl, Below.refl _ _⟩
            · have B4 : Hid (hasB (L t2) 125 = false) := by simpa [Hid] using b4
              exact inj_yes n1 t1 n2 t2 w z1 z2 z3 z4 B1.out B2.out B3.out B4.out _ _ rfl rfl (pair_of B1.out B2.out B3.out B4.out)
  · go_enter Trym.func5, Trym.ntmps5
    go_wp2_with fail
    refine (bytes12_no n1 t1 n2 t2 _ (by omega) m1 m2 m3 m4).mono ?_
    rintro e w0 ⟨rfl, rfl⟩
    go_wp2
    go_ret
    exact ⟨rfl, Below.refl _ _⟩
end Go.Proofs.Qxb6601595aMods
