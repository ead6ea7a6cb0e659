/-
  THE WALKS OF zzCompareStr (11), zzCompareBytes (12) AND zzEqualBytes (10).
-/
import Derived.Test.Qxb6612450aModsCopy
import Derived.Deep.QuietTactic
import Derived.Deep.CutRange
namespace Go.Proofs.Qxb6612450aMods
open Go.RowKit

/-! ### The order, a step at a time -/
theorem drop_bt {A : List UInt8} {k : Nat} (h : k < A.length) : ∃ c, A.drop k = c :: A.drop (k + 1) ∧ bt A k = (c.toNat : Int) :=
  ⟨A[k], List.drop_eq_getElem_cons h, bt_some (List.getElem?_eq_getElem h)⟩
theorem cmp_less {A B : List UInt8} {k : Nat} (ha : k < A.length) (hb : k < B.length) (h : bt A k < bt B k) : cmpL (A.drop k) (B.drop k) = -1 := by
  obtain ⟨c, e1, e2⟩ := drop_bt ha
  obtain ⟨d, f1, f2⟩ := drop_bt hb
  rw [e1, f1, cmpL, if_pos (by omega)]
theorem cmp_more {A B : List UInt8} {k : Nat} (ha : k < A.length) (hb : k < B.length) (h : bt B k < bt A k) : cmpL (A.drop k) (B.drop k) = 1 := by
  obtain ⟨c, e1, e2⟩ := drop_bt ha
  obtain ⟨d, f1, f2⟩ := drop_bt hb
  rw [e1, f1, cmpL, if_neg (by omega), if_pos (by omega)]
theorem cmp_on {A B : List UInt8} {k : Nat} (ha : k < A.length) (hb : k < B.length) (h1 : ¬ bt A k < bt B k) (h2 : ¬ bt B k < bt A k) : cmpL (A.drop k) (B.drop k) = cmpL (A.drop (k + 1)) (B.drop (k + 1)) := by
  obtain ⟨c, e1, e2⟩ := drop_bt ha
  obtain ⟨d, f1, f2⟩ := drop_bt hb
  rw [e1, f1, cmpL, if_neg (by omega), if_neg (by omega)]
theorem cmp_short {A B : List UInt8} {k : Nat} (ha : k = A.length) (hb : k < B.length) : cmpL (A.drop k) (B.drop k) = -1 := by
  obtain ⟨d, f1, _⟩ := drop_bt hb
  rw [List.drop_eq_nil_of_le (by omega), f1]; rfl
theorem cmp_long {A B : List UInt8} {k : Nat} (ha : k < A.length) (hb : k = B.length) : cmpL (A.drop k) (B.drop k) = 1 := by
  obtain ⟨d, f1, _⟩ := drop_bt ha
  rw [f1, List.drop_eq_nil_of_le (show B.length ≤ k from by omega)]; rfl
theorem cmp_end {A B : List UInt8} {k : Nat} (ha : k = A.length) (hb : k = B.length) : cmpL (A.drop k) (B.drop k) = 0 := by
  rw [List.drop_eq_nil_of_le (by omega), List.drop_eq_nil_of_le (by omega)]; rfl

theorem idxb (S : ByteArray) (m : Nat) (h : m < S.size) (w : World) : (Instr.index 9 (.string S) (.int .i64 m)).run Trym.prog w = .ok (.int .u8 (bt (L S) m)) w := by
  rw [← L_at S m h]
  have h0 : (0 : Int) ≤ (m : Int) := by omega
  have h1 : (m : Int) < (S.size : Int) := by omega
  go_simp

theorem ret_int {k : IntKind} {a b : Int} (h : a = b) : Ending.returned (.int k a) = .returned (.int k b) := by rw [h]

set_option maxHeartbeats 4000000 in
theorem cmpstr11 (s t : ByteArray) (w : World) (hs : s.size ≤ 1048576) :
    Calls Trym.prog 11 #[.string s, .string t] w fun e w' => e = .returned (.int .i64 (cmpL (L s) (L t))) ∧ Below w.heap.size w w' := by
  have La := L_len s
  have Lb := L_len t
  generalize hA : L s = A at La
  generalize hB : L t = B at Lb
  have HLa : Hid (A.length = s.size) := La
  have HLb : Hid (B.length = t.size) := Lb
  have I : Hid (∀ (m : Nat), m < s.size → ∀ w, (Instr.index 9 (.string s) (.int .i64 m)).run Trym.prog w = .ok (.int .u8 (bt A m)) w) := fun m h w => by rw [← hA]; exact idxb s m h w
  have J : Hid (∀ (m : Nat), m < t.size → ∀ w, (Instr.index 9 (.string t) (.int .i64 m)).run Trym.prog w = .ok (.int .u8 (bt B m)) w) := fun m h w => by rw [← hB]; exact idxb t m h w
  clear hA hB La Lb
  go_enter Trym.func11, Trym.ntmps11
  go_upto_if 12 with fail
  go_cut [5] from 7 to 14 (fun v wc => v = .int .i64 (min s.size t.size : Nat) ∧ wc = w)
  case first =>
    by_cases h : t.size < s.size
    · have E : Hid (min s.size t.size = t.size) := Nat.min_eq_right (by omega)
      go_wp2
      go_meet
      case rel => exact ⟨by rw [E.out], rfl⟩
    · have E : Hid (min s.size t.size = s.size) := Nat.min_eq_left (by omega)
      go_wp2
      go_meet
      case rel => exact ⟨by rw [E.out], rfl⟩
  case rest =>
    obtain ⟨rfl, rfl⟩ := hcut
    obtain ⟨m, hm⟩ : ∃ m, m = min s.size t.size := ⟨_, rfl⟩
    have m1 : m ≤ s.size := by omega
    have m2 : m ≤ t.size := by omega
    have m3 : m = s.size ∨ m = t.size := by omega
    have M3 : Hid (m = s.size ∨ m = t.size) := m3
    rw [← hm]
    clear hm m3
    go_wp2_with fail
    go_loopw [4, 6] (fun b i wr => ∃ k : Nat, k ≤ m ∧ i = .int .i64 k ∧ b = .int .i64 0 ∧ Hid (cmpL A B = cmpL (A.drop k) (B.drop k)) ∧ Below wc.heap.size wc wr) (fun _ i _ => m - (intOf i).toNat)
    case atStart => exact ⟨0, Nat.zero_le _, rfl, rfl, rfl, Below.refl _ _⟩
    case round =>
      obtain ⟨k, hk, rfl, rfl, HK, hbr⟩ := hrel
      by_cases hlt : k < m
      · have i1 := I.out k (by omega)
        have j1 := J.out k (by omega)
        have ha : k < A.length := by rw [HLa.out]; omega
        have hb : k < B.length := by rw [HLb.out]; omega
        by_cases c1 : bt A k < bt B k
        · have R : Hid (cmpL A B = -1) := HK.out.trans (cmp_less ha hb c1)
          clear ha hb
          go_wp2_with fail
          go_quiet (fail)
          go_wp2
          go_ret
          exact ⟨ret_int (by rw [R.out]), below_drewN hbr _⟩
        · by_cases c2 : bt B k < bt A k
          · have R : Hid (cmpL A B = 1) := HK.out.trans (cmp_more ha hb c2)
            clear ha hb
            go_wp2_with fail
            go_quiet (fail)
            go_wp2_with fail
            go_quiet (fail)
            go_wp2
            go_ret
            exact ⟨ret_int (by rw [R.out]), below_drewN (below_drewN hbr _) _⟩
          · have R : Hid (cmpL A B = cmpL (A.drop (k + 1)) (B.drop (k + 1))) := HK.out.trans (cmp_on ha hb c1 c2)
            clear ha hb
            go_wp2_with fail
            go_quiet (fail)
            go_wp2_with fail
            go_quiet (fail)
            go_wp2
            go_roundw
            case rel => exact ⟨k + 1, by omega, by go_num, rfl, R, below_drewN hbr _⟩
            case measure => simp [intOf]; omega
      · obtain rfl : k = m := by omega
        by_cases c1 : s.size < t.size
        · have R : Hid (cmpL A B = -1) := HK.out.trans (cmp_short (by rw [HLa.out]; have := M3.out; omega) (by rw [HLb.out]; have := M3.out; omega))
          go_wp2
          go_ret
          exact ⟨ret_int (by rw [R.out]), hbr⟩
        · by_cases c2 : t.size < s.size
          · have R : Hid (cmpL A B = 1) := HK.out.trans (cmp_long (by rw [HLa.out]; have := M3.out; omega) (by rw [HLb.out]; have := M3.out; omega))
            go_wp2
            go_ret
            exact ⟨ret_int (by rw [R.out]), hbr⟩
          · have R : Hid (cmpL A B = 0) := HK.out.trans (cmp_end (by rw [HLa.out]; have := M3.out; omega) (by rw [HLb.out]; have := M3.out; omega))
            go_wp2
            go_ret
            exact ⟨ret_int (by rw [R.out]), hbr⟩

set_option maxHeartbeats 4000000 in
theorem cmpbytes12 (A B : List UInt8) (na nb p q : Nat) (w : World) (hs : na ≤ 1048576) (La : A.length = na) (Lb : B.length = nb) (Pa : Bytes w p A) (Pb : Bytes w q B) (hp : p < w.heap.size) (hq : q < w.heap.size) :
    Calls Trym.prog 12 #[.slice (some ⟨p, 0, none⟩) na na, .slice (some ⟨q, 0, none⟩) nb nb] w fun e w' => e = .returned (.int .i64 (cmpL A B)) ∧ Below w.heap.size w w' := by
  have HLa : Hid (A.length = na) := La
  have HLb : Hid (B.length = nb) := Lb
  have I : Hid (∀ (wx : World), Below w.heap.size w wx → ∀ (m : Nat), m < na → wx.cell? ⟨p, m, none⟩ = some (.int .u8 (bt A m))) := fun wx hb m h => (Pa.below hb hp) m (by rw [La]; exact h)
  have J : Hid (∀ (wx : World), Below w.heap.size w wx → ∀ (m : Nat), m < nb → wx.cell? ⟨q, m, none⟩ = some (.int .u8 (bt B m))) := fun wx hb m h => (Pb.below hb hq) m (by rw [Lb]; exact h)
  clear La Lb Pa Pb hp hq
  go_enter Trym.func12, Trym.ntmps12
  go_upto_if 12 with fail
  go_cut [5] from 7 to 14 (fun v wc => v = .int .i64 (min na nb : Nat) ∧ wc = w)
  case first =>
    by_cases h : nb < na
    · have E : Hid (min na nb = nb) := Nat.min_eq_right (by omega)
      go_wp2
      go_meet
      case rel => exact ⟨by rw [E.out], rfl⟩
    · have E : Hid (min na nb = na) := Nat.min_eq_left (by omega)
      go_wp2
      go_meet
      case rel => exact ⟨by rw [E.out], rfl⟩
  case rest =>
    obtain ⟨rfl, rfl⟩ := hcut
    obtain ⟨m, hm⟩ : ∃ m, m = min na nb := ⟨_, rfl⟩
    have m1 : m ≤ na := by omega
    have m2 : m ≤ nb := by omega
    have m3 : m = na ∨ m = nb := by omega
    have M3 : Hid (m = na ∨ m = nb) := m3
    rw [← hm]
    clear hm m3
    go_wp2_with fail
    go_loopw [4, 6] (fun b i wr => ∃ k : Nat, k ≤ m ∧ i = .int .i64 k ∧ b = .int .i64 0 ∧ Hid (cmpL A B = cmpL (A.drop k) (B.drop k)) ∧ Below wc.heap.size wc wr) (fun _ i _ => m - (intOf i).toNat)
    case atStart => exact ⟨0, Nat.zero_le _, rfl, rfl, rfl, Below.refl _ _⟩
    case round =>
      obtain ⟨k, hk, rfl, rfl, HK, hbr⟩ := hrel
      by_cases hlt : k < m
      · have i1 := I.out wr hbr k (by omega)
        have j1 := J.out wr hbr k (by omega)
        have ha : k < A.length := by rw [HLa.out]; omega
        have hb : k < B.length := by rw [HLb.out]; omega
        by_cases c1 : bt A k < bt B k
        · have R : Hid (cmpL A B = -1) := HK.out.trans (cmp_less ha hb c1)
          clear ha hb
          go_wp2_with fail
          go_quiet (fail)
          go_wp2
          go_ret
          exact ⟨ret_int (by rw [R.out]), below_drewN hbr _⟩
        · by_cases c2 : bt B k < bt A k
          · have R : Hid (cmpL A B = 1) := HK.out.trans (cmp_more ha hb c2)
            clear ha hb
            go_wp2_with fail
            go_quiet (fail)
            go_wp2_with fail
            go_quiet (fail)
            go_wp2
            go_ret
            exact ⟨ret_int (by rw [R.out]), below_drewN (below_drewN hbr _) _⟩
          · have R : Hid (cmpL A B = cmpL (A.drop (k + 1)) (B.drop (k + 1))) := HK.out.trans (cmp_on ha hb c1 c2)
            clear ha hb
            go_wp2_with fail
            go_quiet (fail)
            go_wp2_with fail
            go_quiet (fail)
            go_wp2
            go_roundw
            case rel => exact ⟨k + 1, by omega, by go_num, rfl, R, below_drewN hbr _⟩
            case measure => simp [intOf]; omega
      · obtain rfl : k = m := by omega
        by_cases c1 : na < nb
        · have R : Hid (cmpL A B = -1) := HK.out.trans (cmp_short (by rw [HLa.out]; have := M3.out; omega) (by rw [HLb.out]; have := M3.out; omega))
          go_wp2
          go_ret
          exact ⟨ret_int (by rw [R.out]), hbr⟩
        · by_cases c2 : nb < na
          · have R : Hid (cmpL A B = 1) := HK.out.trans (cmp_long (by rw [HLa.out]; have := M3.out; omega) (by rw [HLb.out]; have := M3.out; omega))
            go_wp2
            go_ret
            exact ⟨ret_int (by rw [R.out]), hbr⟩
          · have R : Hid (cmpL A B = 0) := HK.out.trans (cmp_end (by rw [HLa.out]; have := M3.out; omega) (by rw [HLb.out]; have := M3.out; omega))
            go_wp2
            go_ret
            exact ⟨ret_int (by rw [R.out]), hbr⟩

set_option maxHeartbeats 4000000 in
theorem equal10 (A : List UInt8) (n p q : Nat) (w : World) (hn : n ≤ 1048576) (La : A.length = n) (Pa : Bytes w p A) (Pb : Bytes w q A) (hp : p < w.heap.size) (hq : q < w.heap.size) :
    Calls Trym.prog 10 #[.slice (some ⟨p, 0, none⟩) n n, .slice (some ⟨q, 0, none⟩) n n] w fun e w' => e = .returned (.bool true) ∧ Below w.heap.size w w' := by
  have I : Hid (∀ (wx : World), Below w.heap.size w wx → ∀ (m : Nat), m < n → wx.cell? ⟨p, m, none⟩ = some (.int .u8 (bt A m))) := fun wx hb m h => (Pa.below hb hp) m (by rw [La]; exact h)
  have J : Hid (∀ (wx : World), Below w.heap.size w wx → ∀ (m : Nat), m < n → wx.cell? ⟨q, m, none⟩ = some (.int .u8 (bt A m))) := fun wx hb m h => (Pb.below hb hq) m (by rw [La]; exact h)
  clear La Pa Pb hp hq
  go_enter Trym.func10, Trym.ntmps10
  go_wp2_with fail
  go_loopw [5] (fun i wr => ∃ k : Nat, k ≤ n ∧ i = .int .i64 k ∧ Below w.heap.size w wr) (fun i _ => n - (intOf i).toNat)
  case atStart => exact ⟨0, Nat.zero_le _, rfl, Below.refl _ _⟩
  case round =>
    obtain ⟨k, hk, rfl, hbr⟩ := hrel
    by_cases hlt : k < n
    · have i1 := I.out wr hbr k hlt
      have j1 := J.out wr hbr k hlt
      go_wp2_with fail
      go_quiet (fail)
      go_wp2
      go_roundw
      case rel => exact ⟨k + 1, by omega, by go_num, below_drewN hbr _⟩
      case measure => simp [intOf]; omega
    · go_wp2
      go_ret
      exact ⟨rfl, hbr⟩
end Go.Proofs.Qxb6612450aMods
