/-
  THE WALK OF FnFormatUUIDPlacesEveryNibble (function 3).
-/
import Derived.Test.Qxb6612450aModsCopy
import Derived.Deep.QuietTactic
import Derived.Deep.Cut
namespace Go.Proofs.Qxb6612450aMods
open Go.RowKit

set_option maxHeartbeats 400000 in
theorem bytes5 (a : Option Addr) (n c : Nat) (w : World) (hn : n ≤ 1048576) : Calls Trym.prog 5 #[.slice a n c] w fun e w' => e = .returned (.bool true) ∧ w' = w := by
  go_enter Trym.func5, Trym.ntmps5
  go_wp2
  go_ret
  exact ⟨rfl, rfl⟩
set_option maxHeartbeats 400000 in
theorem bytes5_no (a : Option Addr) (n c : Nat) (w : World) (hn : 1048576 < n) (hm : n ≤ 9223372036854775807) : Calls Trym.prog 5 #[.slice a n c] w fun e w' => e = .returned (.bool false) ∧ w' = w := by
  go_enter Trym.func5, Trym.ntmps5
  go_wp2
  go_ret
  exact ⟨rfl, rfl⟩

/-- How many dashes stand ahead of byte k: told before and behind the round's test. -/
def dsb (k : Nat) : Nat := (if 4 < k then 1 else 0) + (if 6 < k then 1 else 0) + (if 8 < k then 1 else 0) + (if 10 < k then 1 else 0)

theorem dsb_le (k : Nat) : dsb k ≤ 4 := by unfold dsb; split <;> split <;> split <;> split <;> omega

/-- The bytes' digits where the law looks for them. -/
theorem place {B : List UInt8} {k : Nat} (h : 10 ≤ B.length) (hk : k < B.length) :
    bt (uu B) (2 * k + dsb (k + 1)) = ((nibU (bt B k / 16).toNat).toNat : Int) ∧ bt (uu B) (2 * k + dsb (k + 1) + 1) = ((nibU (bt B k % 16).toNat).toNat : Int) := by
  have hb := bt_lo B k
  have e1 : 2 * k + dsb (k + 1) - ahead (2 * k + dsb (k + 1)) = 2 * k := by unfold dsb ahead; split <;> split <;> split <;> split <;> split <;> split <;> split <;> split <;> omega
  have e2 : 2 * k + dsb (k + 1) + 1 - ahead (2 * k + dsb (k + 1) + 1) = 2 * k + 1 := by unfold dsb ahead; split <;> split <;> split <;> split <;> split <;> split <;> split <;> split <;> omega
  have d1 : ¬ isDash (2 * k + dsb (k + 1)) := by unfold isDash dsb; split <;> split <;> split <;> split <;> omega
  have d2 : ¬ isDash (2 * k + dsb (k + 1) + 1) := by unfold isDash dsb; split <;> split <;> split <;> split <;> omega
  have l := dsb_le (k + 1)
  constructor
  · rw [uu_hex h d1 (by omega), e1, nt_even hk, show (bt B k).toNat / 16 = (bt B k / 16).toNat from by omega]
  · rw [uu_hex h d2 (by omega), e2, nt_odd hk, show (bt B k).toNat % 16 = (bt B k % 16).toNat from by omega]

theorem idx (S : ByteArray) (i : Int) (m : Nat) (h : m < S.size) (hi : i = m) (v : Int) (hv : ((S[m]'h).toNat : Int) = v) (w : World) : (Instr.index 9 (.string S) (.int .i64 i)).run Trym.prog w = .ok (.int .u8 v) w := by
  subst hi; subst hv
  have h0 : (0 : Int) ≤ (m : Int) := by omega
  have h1 : (m : Int) < (S.size : Int) := by omega
  go_simp

theorem Bytes.drewN {w : World} {g : Nat} {B : List UInt8} (h : Bytes w g B) (n : Nat) : Bytes (w.drewN n) g B := h

set_option maxHeartbeats 4000000 in
theorem nibble_yes (x : Addr) (n cap : Nat) (z : List Int) (w : World) (h10 : 10 ≤ n) (hn : n ≤ 65536) (hx : Came w x z n) :
    Calls Trym.prog 3 #[.slice (some x) n cap] w fun e w' => e = .returned (.bool true) ∧ Below w.heap.size w w' := by
  go_enter Trym.func3, Trym.ntmps3
  go_wp2_with fail
  refine (bytes5 _ n cap _ (by omega)).mono ?_
  rintro e w0 ⟨rfl, rfl⟩
  go_upto_region 9 with (at_make; go_must (refine law_make rfl (.tmp 20) (.tmp 20) rfl _ _ n rfl rfl rfl (by omega) ?_; intro w1 hm))
  go_wp2_with (have _t := hm; refine law_copy rfl (.tmp 22) (.tmp 23) rfl w0 w1 x z n cap hm hx rfl rfl ?_; intro w2 hB hb2 hz2; clear hm)
  have hlen := bytesOf_len hx.1
  clear hx
  generalize bytesOf z n = B at hB hlen
  have HB : Hid (B.length = n) := hlen
  clear hlen
  refine (fmt6 B n w0.heap.size w2 hn h10 HB.out hB hz2).mono ?_
  rintro e w3 ⟨rfl, hb3⟩
  have hB3 : Bytes w3 w0.heap.size B := hB.below hb3 hz2
  have B3 : Below w0.heap.size w0 w3 := hb2.trans (hb3.mono (by omega))
  clear hB hb2 hb3 hz2
  have hsz : (⟨(uu B).toArray⟩ : ByteArray).size = 2 * n + 4 := by rw [size_mk, uu_len (by rw [HB.out]; exact h10), HB.out]
  have hat : ∀ k (h : k < (⟨(uu B).toArray⟩ : ByteArray).size), (((⟨(uu B).toArray⟩ : ByteArray)[k]'h).toNat : Int) = bt (uu B) k := fun k h => L_at _ k h
  have hdash : ∀ k, isDash k → bt (uu B) k = 45 := fun k hk => uu_dash (by rw [HB.out]; exact h10) hk
  have hpl : ∀ k, k < n → bt (uu B) (2 * k + dsb (k + 1)) = ((nibU (bt B k / 16).toNat).toNat : Int) ∧ bt (uu B) (2 * k + dsb (k + 1) + 1) = ((nibU (bt B k % 16).toNat).toNat : Int) := fun k hk => place (by rw [HB.out]; exact h10) (by rw [HB.out]; exact hk)
  generalize (⟨(uu B).toArray⟩ : ByteArray) = S at hsz hat
  have s0 : ((S.size : Int) != 2 * (n : Int) + 4) = false := by simp; omega
  have z1 : 2 * n + 4 ≤ S.size := by omega
  have z2 : S.size ≤ 2 * n + 4 := by omega
  have q8 : 8 < S.size := by omega
  have k8 : (((S[8]'q8).toNat : Int) != 45) = false := by rw [hat 8, hdash 8 (by unfold isDash; omega)]; rfl
  have q13 : 13 < S.size := by omega
  have k13 : (((S[13]'q13).toNat : Int) != 45) = false := by rw [hat 13, hdash 13 (by unfold isDash; omega)]; rfl
  have q18 : 18 < S.size := by omega
  have k18 : (((S[18]'q18).toNat : Int) != 45) = false := by rw [hat 18, hdash 18 (by unfold isDash; omega)]; rfl
  have q23 : 23 < S.size := by omega
  have k23 : (((S[23]'q23).toNat : Int) != 45) = false := by rw [hat 23, hdash 23 (by unfold isDash; omega)]; rfl
  have HAT : Hid (∀ k (h : k < S.size), ((S[k]'h).toNat : Int) = bt (uu B) k) := hat
  have HPL : Hid (∀ k, k < n → bt (uu B) (2 * k + dsb (k + 1)) = ((nibU (bt B k / 16).toNat).toNat : Int) ∧ bt (uu B) (2 * k + dsb (k + 1) + 1) = ((nibU (bt B k % 16).toNat).toNat : Int)) := hpl
  clear hat hdash hpl hsz
  go_wp2_with fail
  clear k8 k13 k18 k23 s0
  go_loopw [5, 6] (fun dd i wr => ∃ k : Nat, k ≤ n ∧ i = .int .i64 k ∧ dd = .int .i64 (dsb k : Nat) ∧ Bytes wr w0.heap.size B ∧ Below w0.heap.size w0 wr) (fun _ i _ => n - (intOf i).toNat)
  case atStart => exact ⟨0, Nat.zero_le _, rfl, rfl, hB3, B3⟩
  case round =>
    obtain ⟨k, hk, rfl, rfl, hBr, hbr⟩ := hrel
    clear hB3 B3
    by_cases hlt : k < n
    · have c1 := hBr k (by rw [HB.out]; exact hlt)
      have b0 := bt_lo B k
      have b1 := bt_hi B k
      have hp := HPL.out k hlt
      have dl := dsb_le (k + 1)
      have dk := dsb_le k
      by_cases D : k = 4 ∨ k = 6 ∨ k = 8 ∨ k = 10
      · have E : dsb (k + 1) = dsb k + 1 := by unfold dsb; split <;> split <;> split <;> split <;> split <;> split <;> split <;> split <;> omega
        rw [E] at hp dl
        have g1 : 2 * k + (dsb k + 1) < S.size := by omega
        have g2 : 2 * k + (dsb k + 1) + 1 < S.size := by omega
        have p1 : ((S[2 * k + (dsb k + 1)]'g1).toNat : Int) = ((nibU (bt B k / 16).toNat).toNat : Int) := (HAT.out _ g1).trans hp.1
        have p2 : ((S[2 * k + (dsb k + 1) + 1]'g2).toNat : Int) = ((nibU (bt B k % 16).toNat).toNat : Int) := (HAT.out _ g2).trans hp.2
        have i1 := idx S (2 * (k : Int) + ((dsb k : Int) + 1)) _ g1 (by omega) _ p1
        have i2 := idx S (2 * (k : Int) + ((dsb k : Int) + 1) + 1) _ g2 (by omega) _ p2
        have HE : Hid (dsb (k + 1) = dsb k + 1) := E
        clear hp dl E p1 p2
        by_cases d4 : k = 4
        · clear D
          have D : True := trivial
          have n4 : ((k : Int) == 4) = true := by simp; omega
          clear d4
          clear D
          go_wp2_with fail
          go_quiet ((go_at_call 7; exact Calls.quiet_of_same (nib7 _ (by omega) (by omega) _)))
          go_wp2
          go_roundw
          case rel => exact ⟨k + 1, by omega, by go_num, by rw [HE.out]; go_num, hBr.drewN nq, below_drewN hbr nq⟩
          case measure => simp [intOf]; omega
        · by_cases d6 : k = 6
          · clear D
            have D : True := trivial
            have n4 : ((k : Int) == 4) = false := by simp; omega
            have n6 : ((k : Int) == 6) = true := by simp; omega
            clear d4 d6
            clear D
            go_wp2_with fail
            go_quiet ((go_at_call 7; exact Calls.quiet_of_same (nib7 _ (by omega) (by omega) _)))
            go_wp2
            go_roundw
            case rel => exact ⟨k + 1, by omega, by go_num, by rw [HE.out]; go_num, hBr.drewN nq, below_drewN hbr nq⟩
            case measure => simp [intOf]; omega
          · by_cases d8 : k = 8
            · clear D
              have D : True := trivial
              have n4 : ((k : Int) == 4) = false := by simp; omega
              have n6 : ((k : Int) == 6) = false := by simp; omega
              have n8 : ((k : Int) == 8) = true := by simp; omega
              clear d4 d6 d8
              clear D
              go_wp2_with fail
              go_quiet ((go_at_call 7; exact Calls.quiet_of_same (nib7 _ (by omega) (by omega) _)))
              go_wp2
              go_roundw
              case rel => exact ⟨k + 1, by omega, by go_num, by rw [HE.out]; go_num, hBr.drewN nq, below_drewN hbr nq⟩
              case measure => simp [intOf]; omega
            · have d10 : k = 10 := by omega
              have n4 : ((k : Int) == 4) = false := by simp; omega
              have n6 : ((k : Int) == 6) = false := by simp; omega
              have n8 : ((k : Int) == 8) = false := by simp; omega
              have n10 : ((k : Int) == 10) = true := by simp; omega
              clear d4 d6 d8 d10
              clear D
              go_wp2_with fail
              go_quiet ((go_at_call 7; exact Calls.quiet_of_same (nib7 _ (by omega) (by omega) _)))
              go_wp2
              go_roundw
              case rel => exact ⟨k + 1, by omega, by go_num, by rw [HE.out]; go_num, hBr.drewN nq, below_drewN hbr nq⟩
              case measure => simp [intOf]; omega
      · clear c1
        have c1 := hBr k (by rw [HB.out]; exact hlt)
        have n4 : ((k : Int) == 4) = false := by simp; omega
        have n6 : ((k : Int) == 6) = false := by simp; omega
        have n8 : ((k : Int) == 8) = false := by simp; omega
        have n10 : ((k : Int) == 10) = false := by simp; omega
        have E : dsb (k + 1) = dsb k := by unfold dsb; split <;> split <;> split <;> split <;> split <;> split <;> split <;> split <;> omega
        rw [E] at hp dl
        have g1 : 2 * k + (dsb k) < S.size := by omega
        have g2 : 2 * k + (dsb k) + 1 < S.size := by omega
        have p1 : ((S[2 * k + (dsb k)]'g1).toNat : Int) = ((nibU (bt B k / 16).toNat).toNat : Int) := (HAT.out _ g1).trans hp.1
        have p2 : ((S[2 * k + (dsb k) + 1]'g2).toNat : Int) = ((nibU (bt B k % 16).toNat).toNat : Int) := (HAT.out _ g2).trans hp.2
        have i1 := idx S (2 * (k : Int) + (dsb k : Int)) _ g1 (by omega) _ p1
        have i2 := idx S (2 * (k : Int) + (dsb k : Int) + 1) _ g2 (by omega) _ p2
        have HE : Hid (dsb (k + 1) = dsb k) := E
        clear hp dl E p1 p2
        go_wp2_with fail
        go_quiet ((go_at_call 7; exact Calls.quiet_of_same (nib7 _ (by omega) (by omega) _)))
        go_wp2
        go_roundw
        case rel => exact ⟨k + 1, by omega, by go_num, by rw [HE.out], hBr.drewN nq, below_drewN hbr nq⟩
        case measure => simp [intOf]; omega
    · go_wp2
      go_ret
      exact ⟨rfl, hbr⟩

set_option maxHeartbeats 1000000 in
theorem nibble_short (a : Option Addr) (n cap : Nat) (w : World) (hn : n < 10 ∨ 65536 < n) (hm : n ≤ 9223372036854775807) :
    Calls Trym.prog 3 #[.slice a n cap] w fun e w' => e = .returned (.bool true) ∧ Below w.heap.size w w' := by
  by_cases h : n ≤ 1048576
  · by_cases h1 : 65536 < n
    · clear hn
      go_enter Trym.func3, Trym.ntmps3
      go_wp2_with fail
      refine (bytes5 a n cap _ h).mono ?_
      rintro e w0 ⟨rfl, rfl⟩
      go_wp2
      go_ret
      exact ⟨rfl, Below.refl _ _⟩
    · have h2 : n < 10 := by omega
      clear hn
      go_enter Trym.func3, Trym.ntmps3
      go_wp2_with fail
      refine (bytes5 a n cap _ h).mono ?_
      rintro e w0 ⟨rfl, rfl⟩
      go_wp2
      go_ret
      exact ⟨rfl, Below.refl _ _⟩
  · go_enter Trym.func3, Trym.ntmps3
    go_wp2_with fail
    refine (bytes5_no a n cap _ (by omega) hm).mono ?_
    rintro e w0 ⟨rfl, rfl⟩
    go_wp2
    go_ret
    exact ⟨rfl, Below.refl _ _⟩

theorem nibble_walk (x : Addr) (n cap : Nat) (z : List Int) (w : World) (hm : n ≤ 9223372036854775807) (hx : Came w x z n) :
    Calls Trym.prog 3 #[.slice (some x) n cap] w fun e w' => e = .returned (.bool true) ∧ Below w.heap.size w w' := by
  by_cases h : n < 10 ∨ 65536 < n
  · exact nibble_short _ n cap w h hm
  · exact nibble_yes x n cap z w (by omega) (by omega) hx
end Go.Proofs.Qxb6612450aMods
