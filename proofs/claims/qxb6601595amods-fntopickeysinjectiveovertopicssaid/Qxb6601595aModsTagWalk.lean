/-
  THE WALKS OF storeB1HasByte (10), storeB1RedisHashTag (11) at a topic's key, AND FnTopicKeysShareTopicHashTag (4).
-/
import Derived.Test.Qxb6601595aModsDistinctWalk
import Derived.Test.Qxb6601595aModsTagPlain
namespace Go.Proofs.Qxb6601595aMods
open Go.RowKit

theorem any_step (s : ByteArray) (k : Nat) (h : k < s.size) (c : Int) : ((L s).take (k + 1)).any (fun x => (x.toNat : Int) == c) = (((L s).take k).any (fun x => (x.toNat : Int) == c) || ((s[k].toNat : Int) == c)) := by
  rw [List.take_add_one, L_at s k h]
  simp

theorem any_here (s : ByteArray) (k : Nat) (h : k < s.size) (c : Int) (hc : ((s[k].toNat : Int) == c) = true) : hasB (L s) c = true := by
  rw [hasB, List.any_eq_true]
  exact ⟨s[k], List.mem_of_getElem? (L_at s k h), hc⟩

set_option maxHeartbeats 1000000 in
theorem has10 (s : ByteArray) (c : Int) (w : World) (hs : s.size ≤ 1048576) :
    Calls Trym.prog 10 #[.string s, .int .u8 c] w fun e w' => e = .returned (.bool (hasB (L s) c)) ∧ w' = w := by
  go_enter Trym.func10, Trym.ntmps10
  go_wp2_with fail
  go_loop [4, 5] (fun b i => ∃ k : Nat, k ≤ s.size ∧ b = .bool false ∧ i = .int .i64 k ∧ Hid (((L s).take k).any (fun x => (x.toNat : Int) == c) = false)) (fun _ i => s.size - (intOf i).toNat)
  case atStart => exact ⟨0, Nat.zero_le _, rfl, rfl, rfl⟩
  case round =>
    obtain ⟨k, hk, rfl, rfl, Hk⟩ := hrel
    by_cases hlt : k < s.size
    · have HS := any_step s k hlt c
      rw [Hk.out, Bool.false_or] at HS
      have HS' : Hid (((L s).take (k + 1)).any (fun x => (x.toNat : Int) == c) = ((s[k].toNat : Int) == c)) := HS
      clear HS
      generalize hb : ((s[k].toNat : Int) == c) = bb at *
      have Hb : Hid (((s[k].toNat : Int) == c) = bb) := hb
      cases bb with
      | true =>
        have HT : Hid (hasB (L s) c = true) := any_here s k hlt c hb
        go_wp2
        go_ret
        exact ⟨by rw [HT.out]; simp, rfl⟩
      | false =>
        go_wp2
        go_round
        case rel => exact ⟨k + 1, by omega, rfl, by go_num, HS'⟩
        case measure => simp [intOf]; omega
    · have HF : Hid (hasB (L s) c = false) := by
        have := Hk.out
        rw [List.take_of_length_le (by rw [L_len]; omega)] at this
        exact this
      go_wp2
      go_ret
      exact ⟨by rw [HF.out]; simp, rfl⟩

theorem ret_str {a b : ByteArray} (h : a = b) : Ending.returned (.string a) = .returned (.string b) := by rw [h]

set_option maxHeartbeats 1000000 in
theorem tag11 (s t : ByteArray) (o : Nat) (w : World) (hs : s.size ≤ 1048576) (ho : o + 1 + t.size < s.size) (ht : 0 < t.size)
    (F1 : ∀ k (h : k < s.size), k < o → (s[k].toNat : Int) ≠ 123) (F2 : ∀ (h : o < s.size), ((s[o]'h).toNat : Int) = 123)
    (F3 : ∀ k (h : k < s.size), o + 1 ≤ k → k < o + 1 + t.size → (s[k].toNat : Int) ≠ 125) (F4 : ∀ (h : o + 1 + t.size < s.size), ((s[o + 1 + t.size]'h).toNat : Int) = 125) (hx : s.extract (o + 1) (o + 1 + t.size) = t) :
    Calls Trym.prog 11 #[.string s] w fun e w' => e = .returned (.string t) ∧ w' = w := by
  have H1 : Hid (∀ k (h : k < s.size), k < o → (s[k].toNat : Int) ≠ 123) := F1
  have H2 : Hid (∀ (h : o < s.size), ((s[o]'h).toNat : Int) = 123) := F2
  have H3 : Hid (∀ k (h : k < s.size), o + 1 ≤ k → k < o + 1 + t.size → (s[k].toNat : Int) ≠ 125) := F3
  have H4 : Hid (∀ (h : o + 1 + t.size < s.size), ((s[o + 1 + t.size]'h).toNat : Int) = 125) := F4
  have HX : Hid (s.extract (o + 1) (o + 1 + t.size) = t) := hx
  clear F1 F2 F3 F4 hx
  go_enter Trym.func11, Trym.ntmps11
  go_wp2_with fail
  go_loop [3, 4] (fun b i => ∃ k : Nat, k ≤ o ∧ b = .int .i64 (-1) ∧ i = .int .i64 k) (fun _ i => s.size - (intOf i).toNat)
  case atStart => exact ⟨0, Nat.zero_le _, rfl, rfl⟩
  case round =>
    obtain ⟨k, hk, rfl, rfl⟩ := hrel
    have hks : k < s.size := by omega
    by_cases hlt : k < o
    · have c1 : ((s[k].toNat : Int) == 123) = false := beq_eq_false_iff_ne.2 (H1.out k hks hlt)
      go_wp2
      go_round
      case rel => exact ⟨k + 1, by omega, rfl, by go_num⟩
      case measure => simp [intOf]; omega
    · obtain rfl : k = o := by omega
      have c1 : ((s[k].toNat : Int) == 123) = true := beq_iff_eq.2 (H2.out hks)
      go_wp2_with fail
      go_loop [2, 5] (fun b i => ∃ m : Nat, k + 1 ≤ m ∧ m ≤ k + 1 + t.size ∧ b = .string ⟨#[]⟩ ∧ i = .int .i64 m) (fun _ i => s.size - (intOf i).toNat)
      case atStart => exact ⟨k + 1, Nat.le_refl _, by omega, rfl, by go_num⟩
      case round =>
        obtain ⟨m, hm1, hm2, rfl, rfl⟩ := hrel
        have hms : m < s.size := by omega
        by_cases hlt2 : m < k + 1 + t.size
        · have c2 : ((s[m].toNat : Int) == 125) = false := beq_eq_false_iff_ne.2 (H3.out m hms hm1 hlt2)
          go_wp2
          go_round
          case rel => exact ⟨m + 1, by omega, by omega, rfl, by go_num⟩
          case measure => simp [intOf]; omega
        · obtain rfl : m = k + 1 + t.size := by omega
          have c2 : ((s[k + 1 + t.size].toNat : Int) == 125) = true := beq_iff_eq.2 (H4.out hms)
          go_wp2
          go_ret
          exact ⟨ret_str HX.out, rfl⟩

theorem tag_pk (ns t : ByteArray) (j : Nat) (w : World) (hn : ns.size ≤ 16384) (ht : t.size ≤ 16384) (h0 : 0 < t.size) (h1 : hasB (L ns) 123 = false) (h2 : hasB (L t) 125 = false) :
    Calls Trym.prog 11 #[.string (pk ns t j)] w fun e w' => e = .returned (.string t) ∧ w' = w := by
  have hz := pk_size ns t j
  have hp := part_size j
  exact tag11 (pk ns t j) t (ns.size + 1) w (by omega) (by omega) h0 (fun k h hk => pk_ahead h1 h hk) (fun h => pk_open h) (fun k h a b => pk_mid h2 h a b) (fun h => pk_shut h) (pk_cut ns t j)

set_option maxHeartbeats 400000 in
theorem bytes9 (s t : ByteArray) (w : World) (hs : s.size + t.size ≤ 1048576) :
    Calls Trym.prog 9 #[.string s, .string t] w fun e w' => e = .returned (.bool true) ∧ w' = w := by
  go_enter Trym.func9, Trym.ntmps9
  go_wp2
  go_ret
  exact ⟨rfl, rfl⟩

set_option maxHeartbeats 400000 in
theorem bytes9_no (s t : ByteArray) (w : World) (hs : 1048576 < s.size + t.size) (hm : s.size ≤ 9223372036854775807) (hn : t.size ≤ 9223372036854775807) :
    Calls Trym.prog 9 #[.string s, .string t] w fun e w' => e = .returned (.bool false) ∧ w' = w := by
  by_cases h1 : 1048576 < s.size
  · go_enter Trym.func9, Trym.ntmps9
    go_wp2
    go_ret
    exact ⟨rfl, rfl⟩
  · by_cases h2 : 1048576 < t.size
    · go_enter Trym.func9, Trym.ntmps9
      go_wp2
      go_ret
      exact ⟨rfl, rfl⟩
    · go_enter Trym.func9, Trym.ntmps9
      go_wp2
      go_ret
      exact ⟨rfl, rfl⟩

set_option maxHeartbeats 1000000 in
theorem share_yes (ns t : ByteArray) (w : World) (hn : ns.size ≤ 16384) (ht : t.size ≤ 16384) (h0 : 0 < t.size) (h1 : hasB (L ns) 123 = false) (h2 : hasB (L t) 125 = false) :
    Calls Trym.prog 4 #[.string ns, .string t] w fun e w' => e = .returned (.bool true) ∧ Below w.heap.size w w' := by
  have HT : Hid (∀ j w, Calls Trym.prog 11 #[.string (pk ns t j)] w fun e w' => e = .returned (.string t) ∧ w' = w) := fun j w => tag_pk ns t j w hn ht h0 h1 h2
  have H1 : Hid (hasB (L ns) 123 = false) := h1
  have H2 : Hid (hasB (L t) 125 = false) := h2
  have hz : ((t.size : Int) == 0) = false := beq_eq_false_iff_ne.2 (by omega)
  clear h1 h2
  go_enter Trym.func4, Trym.ntmps4
  go_wp2_with fail
  refine (bytes9 ns t _ (by omega)).mono ?_
  rintro e w0 ⟨rfl, rfl⟩
  go_wp2_with fail
  refine (has10 ns 123 _ (by omega)).mono ?_
  rintro e w0 ⟨rfl, rfl⟩
  rw [H1.out]
  go_wp2_with fail
  refine (has10 t 125 _ (by omega)).mono ?_
  rintro e w0 ⟨rfl, rfl⟩
  rw [H2.out]
  go_wp2_with fail
  refine (topic8 ns t _ hn ht).mono ?_
  rintro e w1 ⟨rfl, hb1⟩
  go_wp2_with fail
  refine (list7 _ _).mono ?_
  rintro e w2 ⟨g, rfl, g1, g2, g3, hb2⟩
  have HH : Held w0 g (pk ns t) w2 := ⟨g3, hb1.trans (hb2.mono hb1.size)⟩
  clear g1 g2 g3 hb1 hb2
  go_wp2_with fail
  go_loopw [6] (fun i wr => ∃ k : Nat, k ≤ 12 ∧ i = .int .i64 k ∧ Held w0 g (pk ns t) wr) (fun i _ => 12 - (intOf i).toNat)
  case atStart => exact ⟨0, Nat.zero_le _, rfl, HH⟩
  case round =>
    obtain ⟨k, hk, rfl, HK⟩ := hrel
    clear HH
    by_cases hlt : k < 12
    · have c1 := HK.1 k hlt
      go_wp2_with fail
      refine (HT.out k _).mono ?_
      rintro e w3 ⟨rfl, rfl⟩
      go_wp2
      go_roundw
      case rel => exact ⟨k + 1, by omega, by go_num, HK⟩
      case measure => simp [intOf]; omega
    · go_wp2
      go_ret
      exact ⟨rfl, HK.2⟩

set_option maxHeartbeats 1000000 in
theorem share_walk (ns t : ByteArray) (w : World) (hm : ns.size ≤ 9223372036854775807) (hn : t.size ≤ 9223372036854775807) :
    Calls Trym.prog 4 #[.string ns, .string t] w fun e w' => e = .returned (.bool true) ∧ Below w.heap.size w w' := by
  by_cases h : ns.size + t.size ≤ 1048576
  · by_cases h1 : ns.size ≤ 16384
    · by_cases h2 : t.size ≤ 16384
      · by_cases b1 : hasB (L ns) 123 = true
        · have B1 : Hid (hasB (L ns) 123 = true) := b1
          clear b1
          go_enter Trym.func4, Trym.ntmps4
          go_wp2_with fail
          refine (bytes9 ns t _ h).mono ?_
          rintro e w0 ⟨rfl, rfl⟩
          go_wp2_with fail
          refine (has10 ns 123 _ (by omega)).mono ?_
          rintro e w0 ⟨rfl, rfl⟩
          rw [B1.out]
          go_wp2
          go_ret
          exact ⟨rfl, Below.refl _ _⟩
        · have B1 : Hid (hasB (L ns) 123 = false) := by simpa [Hid] using b1
          by_cases b2 : hasB (L t) 125 = true
          · have B2 : Hid (hasB (L t) 125 = true) := b2
            clear b1 b2
            go_enter Trym.func4, Trym.ntmps4
            go_wp2_with fail
            refine (bytes9 ns t _ h).mono ?_
            rintro e w0 ⟨rfl, rfl⟩
            go_wp2_with fail
            refine (has10 ns 123 _ (by omega)).mono ?_
            rintro e w0 ⟨rfl, rfl⟩
            rw [B1.out]
            go_wp2_with fail
            refine (has10 t 125 _ (by omega)).mono ?_
            rintro e w0 ⟨rfl, rfl⟩
            rw [B2.out]
            go_wp2
            go_ret
            exact ⟨rfl, Below.refl _ _⟩
          · have B2 : Hid (hasB (L t) 125 = false) := by simpa [Hid] using b2
            by_cases h0 : 0 < t.size
            · exact share_yes ns t w h1 h2 h0 B1.out B2.out
            · have hz : ((t.size : Int) == 0) = true := beq_iff_eq.2 (by omega)
              clear b1 b2
              go_enter Trym.func4, Trym.ntmps4
              go_wp2_with fail
              refine (bytes9 ns t _ h).mono ?_
              rintro e w0 ⟨rfl, rfl⟩
              go_wp2_with fail
              refine (has10 ns 123 _ (by omega)).mono ?_
              rintro e w0 ⟨rfl, rfl⟩
              rw [B1.out]
              go_wp2_with fail
              refine (has10 t 125 _ (by omega)).mono ?_
              rintro e w0 ⟨rfl, rfl⟩
              rw [B2.out]
              go_wp2
              go_ret
              exact ⟨rfl, Below.refl _ _⟩
      · go_enter Trym.func4, Trym.ntmps4
        go_wp2_with fail
        refine (bytes9 ns t _ h).mono ?_
        rintro e w0 ⟨rfl, rfl⟩
        go_wp2
        go_ret
        exact ⟨rfl, Below.refl _ _⟩
    · go_enter Trym.func4, Trym.ntmps4
      go_wp2_with fail
      refine (bytes9 ns t _ h).mono ?_
      rintro e w0 ⟨rfl, rfl⟩
      go_wp2
      go_ret
      exact ⟨rfl, Below.refl _ _⟩
  · go_enter Trym.func4, Trym.ntmps4
    go_wp2_with fail
    refine (bytes9_no ns t _ (by omega) hm hn).mono ?_
    rintro e w0 ⟨rfl, rfl⟩
    go_wp2
    go_ret
    exact ⟨rfl, Below.refl _ _⟩
end Go.Proofs.Qxb6601595aMods
