/-
  THE WALK OF FnFormatUUIDOrdersAsBytesAndReadsBack (function 4).
-/
import Derived.Test.Qxb6612450aModsParse
namespace Go.Proofs.Qxb6612450aMods
open Go.RowKit

set_option maxHeartbeats 1000000 in
theorem bytes8 (a b : Option Addr) (n m c d : Nat) (w : World) (hs : n + m ≤ 1048576) : Calls Trym.prog 8 #[.slice a n c, .slice b m d] w fun e w' => e = .returned (.bool true) ∧ w' = w := by
  go_enter Trym.func8, Trym.ntmps8
  go_wp2
  go_ret
  exact ⟨rfl, rfl⟩
set_option maxHeartbeats 1000000 in
theorem bytes8_no (a b : Option Addr) (n m c d : Nat) (w : World) (hs : 1048576 < n + m) (hn : n ≤ 9223372036854775807) (hm : m ≤ 9223372036854775807) : Calls Trym.prog 8 #[.slice a n c, .slice b m d] w fun e w' => e = .returned (.bool false) ∧ w' = w := by
  by_cases h1 : 1048576 < n
  · go_enter Trym.func8, Trym.ntmps8
    go_wp2
    go_ret
    exact ⟨rfl, rfl⟩
  · by_cases h2 : 1048576 < m
    · go_enter Trym.func8, Trym.ntmps8
      go_wp2
      go_ret
      exact ⟨rfl, rfl⟩
    · go_enter Trym.func8, Trym.ntmps8
      go_wp2
      go_ret
      exact ⟨rfl, rfl⟩

set_option maxHeartbeats 1000000 in
theorem orders_early (a b : Option Addr) (n m c d : Nat) (w : World) (hn : n ≤ 9223372036854775807) (hm : m ≤ 9223372036854775807) (h : n < 10 ∨ 65536 < n ∨ m < 10 ∨ 65536 < m) :
    Calls Trym.prog 4 #[.slice a n c, .slice b m d] w fun e w' => e = .returned (.bool true) ∧ Below w.heap.size w w' := by
  by_cases hs : n + m ≤ 1048576
  · by_cases h1 : 65536 < n
    · clear h
      go_enter Trym.func4, Trym.ntmps4
      go_wp2_with fail
      refine (bytes8 a b n m c d _ hs).mono ?_
      rintro e w0 ⟨rfl, rfl⟩
      go_wp2
      go_ret
      exact ⟨rfl, Below.refl _ _⟩
    · by_cases h2 : 65536 < m
      · clear h
        go_enter Trym.func4, Trym.ntmps4
        go_wp2_with fail
        refine (bytes8 a b n m c d _ hs).mono ?_
        rintro e w0 ⟨rfl, rfl⟩
        go_wp2
        go_ret
        exact ⟨rfl, Below.refl _ _⟩
      · by_cases h3 : n < 10
        · clear h
          go_enter Trym.func4, Trym.ntmps4
          go_wp2_with fail
          refine (bytes8 a b n m c d _ hs).mono ?_
          rintro e w0 ⟨rfl, rfl⟩
          go_wp2
          go_ret
          exact ⟨rfl, Below.refl _ _⟩
        · have h4 : m < 10 := by omega
          clear h
          go_enter Trym.func4, Trym.ntmps4
          go_wp2_with fail
          refine (bytes8 a b n m c d _ hs).mono ?_
          rintro e w0 ⟨rfl, rfl⟩
          go_wp2
          go_ret
          exact ⟨rfl, Below.refl _ _⟩
  · go_enter Trym.func4, Trym.ntmps4
    go_wp2_with fail
    refine (bytes8_no a b n m c d _ (by omega) hn hm).mono ?_
    rintro e w0 ⟨rfl, rfl⟩
    go_wp2
    go_ret
    exact ⟨rfl, Below.refl _ _⟩

set_option maxHeartbeats 4000000 in
theorem orders_yes (x y : Addr) (n m c d : Nat) (za zb : List Int) (w : World) (n10 : 10 ≤ n) (nn : n ≤ 65536) (m10 : 10 ≤ m) (mm : m ≤ 65536) (hx : Came w x za n) (hy : Came w y zb m) :
    Calls Trym.prog 4 #[.slice (some x) n c, .slice (some y) m d] w fun e w' => e = .returned (.bool true) ∧ Below w.heap.size w w' := by
  go_enter Trym.func4, Trym.ntmps4
  go_wp2_with fail
  refine (bytes8 _ _ n m c d _ (by omega)).mono ?_
  rintro e w0 ⟨rfl, rfl⟩
  go_upto_region 11 with (at_make; go_must (refine law_make rfl (.tmp 34) (.tmp 34) rfl _ _ n rfl rfl rfl (by omega) ?_; intro w1 hm1))
  go_upto_region 13 with (have _t := hm1; refine law_copy rfl (.tmp 36) (.tmp 37) rfl w0 w1 x za n c hm1 hx rfl rfl ?_; intro w2 hA hb2 hz2; clear hm1)
  have hy2 := hy.below hb2
  go_upto_region 15 with (at_make; go_must (refine law_make rfl (.tmp 43) (.tmp 43) rfl _ _ m rfl rfl rfl (by omega) ?_; intro w3 hm3))
  go_wp2_with (have _t := hm3; refine law_copy rfl (.tmp 45) (.tmp 46) rfl w2 w3 y zb m d hm3 hy2 rfl rfl ?_; intro w4 hB hb4 hz4; clear hm3)
  have lA := bytesOf_len hx.1
  have lB := bytesOf_len hy.1
  have hA4 : Bytes w4 w0.heap.size (bytesOf za n) := hA.below hb4 hz2
  have B4 : Below w0.heap.size w0 w4 := hb2.trans (hb4.mono (by omega))
  have s24 : w2.heap.size ≤ w4.heap.size := by omega
  clear hx hy hy2 hA hb2 hb4
  generalize bytesOf za n = A at *
  generalize bytesOf zb m = B at *
  have LA : Hid (A.length = n) := lA
  have LB : Hid (B.length = m) := lB
  clear lA lB
  refine (fmt6 A n w0.heap.size w4 nn n10 LA.out hA4 (by omega)).mono ?_
  rintro e w5 ⟨rfl, hb5⟩
  have hA5 := hA4.below hb5 (by omega)
  have hB5 := hB.below hb5 hz4
  have B5 := B4.trans (hb5.mono B4.size)
  have s5 := hb5.size
  clear hA4 hB B4 hb5
  go_wp2_with fail
  refine (fmt6 B m w2.heap.size w5 mm m10 LB.out hB5 (by omega)).mono ?_
  rintro e w6 ⟨rfl, hb6⟩
  have hA6 := hA5.below hb6 (by omega)
  have hB6 := hB5.below hb6 (by omega)
  have B6 := B5.trans (hb6.mono B5.size)
  have s6 := hb6.size
  clear hA5 hB5 B5 hb6
  have cmpU : Hid (cmpL (uu A) (uu B) = cmpL A B) := cmp_uu (by rw [LA.out]; exact n10) (by rw [LB.out]; exact m10)
  have szA : (⟨(uu A).toArray⟩ : ByteArray).size ≤ 1048576 := by rw [size_mk, uu_len (by rw [LA.out]; exact n10), LA.out]; omega
  obtain ⟨SA, hSA⟩ : ∃ SA : ByteArray, SA = ⟨(uu A).toArray⟩ := ⟨_, rfl⟩
  obtain ⟨SB, hSB⟩ : ∃ SB : ByteArray, SB = ⟨(uu B).toArray⟩ := ⟨_, rfl⟩
  have HSA : Hid (SA = ⟨(uu A).toArray⟩) := hSA
  have HSB : Hid (SB = ⟨(uu B).toArray⟩) := hSB
  rw [← hSA] at szA
  rw [← hSA, ← hSB]
  clear hSA hSB
  go_wp2_with fail
  refine (parse9 A n SA w6 n10 nn LA.out HSA.out).mono ?_
  rintro e w7 ⟨oa, rfl, ha7, hoa, hb7⟩
  have hA7 := hA6.below hb7 (by omega)
  have hB7 := hB6.below hb7 (by omega)
  have B7 := B6.trans (hb7.mono B6.size)
  have s7 := hb7.size
  clear hA6 hB6 B6 hb7
  go_wp2_with fail
  refine (equal10 A n oa w0.heap.size w7 (by omega) LA.out ha7 hA7 hoa (by omega)).mono ?_
  rintro e w8 ⟨rfl, hb8⟩
  have hA8 := hA7.below hb8 (by omega)
  have hB8 := hB7.below hb8 (by omega)
  have B8 := B7.trans (hb8.mono B7.size)
  have s8 := hb8.size
  clear hA7 hB7 B7 hb8 ha7 hoa
  go_wp2_with fail
  refine (parse9 B m SB w8 m10 mm LB.out HSB.out).mono ?_
  rintro e w9 ⟨ob, rfl, hb9, hob, hbl9⟩
  have hA9 := hA8.below hbl9 (by omega)
  have hB9 := hB8.below hbl9 (by omega)
  have B9 := B8.trans (hbl9.mono B8.size)
  have s9 := hbl9.size
  clear hA8 hB8 B8 hbl9
  go_wp2_with fail
  refine (equal10 B m ob w2.heap.size w9 (by omega) LB.out hb9 hB9 hob (by omega)).mono ?_
  rintro e w10 ⟨rfl, hb10⟩
  have hA10 := hA9.below hb10 (by omega)
  have hB10 := hB9.below hb10 (by omega)
  have B10 := B9.trans (hb10.mono B9.size)
  have s10 := hb10.size
  clear hA9 hB9 B9 hb10 hb9 hob
  go_wp2_with fail
  refine (cmpstr11 SA SB w10 szA).mono ?_
  rintro e w11 ⟨rfl, hb11⟩
  have hA11 := hA10.below hb11 (by omega)
  have hB11 := hB10.below hb11 (by omega)
  have B11 := B10.trans (hb11.mono B10.size)
  have s11 := hb11.size
  clear hA10 hB10 B10 hb11
  have eC : cmpL (L SA) (L SB) = cmpL A B := by rw [HSA.out, HSB.out, L_mk, L_mk, cmpU.out]
  rw [eC]
  clear eC
  go_wp2_with fail
  refine (cmpbytes12 A B n m w0.heap.size w2.heap.size w11 (by omega) LA.out LB.out hA11 hB11 (by omega) (by omega)).mono ?_
  rintro e w12 ⟨rfl, hb12⟩
  have B12 := B11.trans (hb12.mono B11.size)
  clear hA11 hB11 B11 hb12
  go_wp2
  go_ret
  exact ⟨by simp, B12⟩

theorem orders_walk (x y : Addr) (n m c d : Nat) (za zb : List Int) (w : World) (hn : n ≤ 9223372036854775807) (hm : m ≤ 9223372036854775807) (hx : Came w x za n) (hy : Came w y zb m) :
    Calls Trym.prog 4 #[.slice (some x) n c, .slice (some y) m d] w fun e w' => e = .returned (.bool true) ∧ Below w.heap.size w w' := by
  by_cases h : n < 10 ∨ 65536 < n ∨ m < 10 ∨ 65536 < m
  · exact orders_early _ _ n m c d w hn hm h
  · exact orders_yes x y n m c d za zb w (by omega) (by omega) (by omega) (by omega) hx hy
end Go.Proofs.Qxb6612450aMods
