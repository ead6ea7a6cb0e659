/-
  SMALL WALKS: ZZReadNumber (11), the three bounds on length (10, 13, 19), zzInDynamoRange (20), zzIsDigit (26), zzCanonicalDigits (14).
-/
import Derived.Test.Qxb6001233aModsRead
namespace Go.Proofs.Qxb6001233aMods
open Go.RowKit

/-- All old cells, all old marks read as before. -/
theorem bcell {W w1 : World} (hb : Below W.heap.size W w1) : (∀ b o, b < W.heap.size → w1.cell? ⟨b, o, none⟩ = W.cell? ⟨b, o, none⟩) ∧ (∀ b o, b < W.heap.size → w1.frozen? ⟨b, o, none⟩ = W.frozen? ⟨b, o, none⟩) :=
  ⟨fun b o h => hb.cell (p := ⟨b, o, none⟩) h, fun b o h => hb.frozen (p := ⟨b, o, none⟩) h⟩

set_option maxHeartbeats 400000 in
theorem bytes10 (s : ByteArray) (w : World) (hs : s.size ≤ 1048576) :
    Calls Trym.prog 10 #[.string s] w fun e w' => e = .returned (.bool true) ∧ w' = w := by
  go_enter Trym.func10, Trym.ntmps10
  go_wp2
  go_ret
  exact ⟨rfl, rfl⟩

set_option maxHeartbeats 400000 in
theorem read11 (s : ByteArray) (w : World) (hs : s.size ≤ 16777216) :
    Calls Trym.prog 11 #[.string s] w fun e w' => e = .returned (numV (Nb.rd (L s))) ∧ Below w.heap.size w w' := by
  go_enter Trym.func11, Trym.ntmps11
  go_wp2_with fail
  refine (read25 s _ hs).mono ?_
  rintro e w1 ⟨rfl, hb⟩
  obtain ⟨hc, hf⟩ := bcell hb
  have hz : w.heap.size + 1 ≤ w1.heap.size := by have := hb.size; simp at this; omega
  unfold numV
  go_wp2
  refine bodyPost_ret (v := numV (Nb.rd (L s))) (by simp [results, Trym.results11, go_sem, hc, numV]) rfl ⟨rfl, ?_⟩
  exact (((((Below.refl _ _).alloc (Nat.le_refl _) _).trans (hb.mono (by simp))).setCell (Nat.le_refl _) _).setCell (Nat.le_refl _) _).setCell (Nat.le_refl _) _

set_option maxHeartbeats 400000 in
theorem bytes13 (b : Bool) (s : ByteArray) (x : Int) (w : World) (hs : s.size ≤ 1048576) :
    Calls Trym.prog 13 #[.bool b, .string s, .int .i64 x] w fun e w' => e = .returned (.bool true) ∧ w' = w := by
  go_enter Trym.func13, Trym.ntmps13
  go_wp2
  go_ret
  exact ⟨rfl, rfl⟩

set_option maxHeartbeats 400000 in
theorem bytes10_no (s : ByteArray) (w : World) (hs : 1048576 < s.size) (hm : s.size ≤ 9223372036854775807) :
    Calls Trym.prog 10 #[.string s] w fun e w' => e = .returned (.bool false) ∧ w' = w := by
  go_enter Trym.func10, Trym.ntmps10
  go_wp2
  go_ret
  exact ⟨rfl, rfl⟩

set_option maxHeartbeats 400000 in
theorem bytes13_no (b : Bool) (s : ByteArray) (x : Int) (w : World) (hs : 1048576 < s.size) (hm : s.size ≤ 9223372036854775807) :
    Calls Trym.prog 13 #[.bool b, .string s, .int .i64 x] w fun e w' => e = .returned (.bool false) ∧ w' = w := by
  go_enter Trym.func13, Trym.ntmps13
  go_wp2
  go_ret
  exact ⟨rfl, rfl⟩

set_option maxHeartbeats 400000 in
theorem bytes19 (s t : ByteArray) (w : World) (hs : s.size + t.size ≤ 1048576) :
    Calls Trym.prog 19 #[.string s, .string t] w fun e w' => e = .returned (.bool true) ∧ w' = w := by
  go_enter Trym.func19, Trym.ntmps19
  go_wp2
  go_ret
  exact ⟨rfl, rfl⟩

set_option maxHeartbeats 400000 in
theorem bytes19_no (s t : ByteArray) (w : World) (hs : 1048576 < s.size + t.size) (hm : s.size ≤ 9223372036854775807) (hn : t.size ≤ 9223372036854775807) :
    Calls Trym.prog 19 #[.string s, .string t] w fun e w' => e = .returned (.bool false) ∧ w' = w := by
  by_cases h1 : 1048576 < s.size
  · go_enter Trym.func19, Trym.ntmps19
    go_wp2
    go_ret
    exact ⟨rfl, rfl⟩
  · by_cases h2 : 1048576 < t.size
    · go_enter Trym.func19, Trym.ntmps19
      go_wp2
      go_ret
      exact ⟨rfl, rfl⟩
    · go_enter Trym.func19, Trym.ntmps19
      go_wp2
      go_ret
      exact ⟨rfl, rfl⟩

def digB (c : UInt8) : Bool := decide (48 ≤ c.toNat ∧ c.toNat ≤ 57)

set_option maxHeartbeats 400000 in
theorem isdig26 (c : UInt8) (w : World) :
    Calls Trym.prog 26 #[.int .u8 (c.toNat : Int)] w fun e w' => e = .returned (.bool (digB c)) ∧ w' = w := by
  by_cases h1 : (48 : Int) ≤ (c.toNat : Int)
  · by_cases h2 : (c.toNat : Int) ≤ 57
    · have E : Hid (digB c = true) := by show digB c = true; simp [digB]; omega
      go_enter Trym.func26, Trym.ntmps26
      go_wp2
      go_ret
      exact ⟨by rw [E.out]; simp, rfl⟩
    · have E : Hid (digB c = false) := by show digB c = false; simp [digB]; omega
      go_enter Trym.func26, Trym.ntmps26
      go_wp2
      go_ret
      exact ⟨by rw [E.out]; simp, rfl⟩
  · have E : Hid (digB c = false) := by show digB c = false; simp [digB]; omega
    go_enter Trym.func26, Trym.ntmps26
    go_wp2
    go_ret
    exact ⟨by rw [E.out]; simp, rfl⟩

/-- What zzInDynamoRange says. -/
def inRange (n : Nb.Num) : Bool := decide (n.dig = [] ∨ (-130 ≤ n.ex ∧ n.ex ≤ 125))

/-- A Number as a value. -/
abbrev aggV (n : Nb.Num) : Value := .agg #[.bool n.neg, .string ⟨n.dig.toArray⟩, .int .i64 n.ex]

set_option maxHeartbeats 400000 in
theorem range20 (n : Nb.Num) (w : World) :
    Calls Trym.prog 20 #[aggV n] w fun e w' => e = .returned (.bool (inRange n)) ∧ Below w.heap.size w w' := by
  obtain ⟨neg, d, x⟩ := n
  simp only [aggV]
  by_cases h0 : d = []
  · have E : Hid (inRange ⟨neg, d, x⟩ = true) := by show inRange _ = true; simp [inRange, h0]
    subst h0
    go_enter Trym.func20, Trym.ntmps20
    go_wp2
    go_ret
    exact ⟨by rw [E.out]; simp, (Below.refl _ _).alloc (Nat.le_refl _) _⟩
  · have hne : d.isEmpty = false := by cases d with | nil => exact absurd rfl h0 | cons => rfl
    by_cases h1 : -130 ≤ x
    · have E : Hid (inRange ⟨neg, d, x⟩ = decide (x ≤ 125)) := by show inRange _ = _; simp [inRange, h0, h1]
      clear h0
      go_enter Trym.func20, Trym.ntmps20
      go_wp2
      go_ret
      exact ⟨by rw [E.out]; simp, (Below.refl _ _).alloc (Nat.le_refl _) _⟩
    · have E : Hid (inRange ⟨neg, d, x⟩ = false) := by show inRange _ = _; simp [inRange, h0, h1]
      clear h0
      go_enter Trym.func20, Trym.ntmps20
      go_wp2
      go_ret
      exact ⟨by rw [E.out]; simp, (Below.refl _ _).alloc (Nat.le_refl _) _⟩

theorem at0_L (d : ByteArray) (k : Nat) (h : k < d.size) : Nb.at0 (L d) k = d[k] := by
  have h' : k < (L d).length := by rw [L_len]; exact h
  simp only [Nb.at0, List.getElem?_eq_getElem h', Option.getD_some]
  rfl
theorem dg_of_digB {c : UInt8} (h : digB c = true) : Nb.dg c := by
  simp only [digB, decide_eq_true_eq] at h
  exact h

theorem canon_nil : Nb.Canon [] := by
  refine ⟨?_, ?_, ?_⟩ <;> (intro c h; simp at h)
theorem canon_of (d : ByteArray) (h0 : 0 < d.size) (hl : d.size - 1 < d.size) (h1 : ∀ j, j < d.size → Nb.dg (Nb.at0 (L d) j)) (h2 : d[0].toNat ≠ 48) (h3 : (d[d.size - 1]'hl).toNat ≠ 48) : Nb.Canon (L d) := by
  refine ⟨?_, ?_, ?_⟩
  · intro c hc
    obtain ⟨j, hj⟩ := List.mem_iff_getElem?.1 hc
    have hlt : j < (L d).length := by
      rcases Nat.lt_or_ge j (L d).length with h | h
      · exact h
      · rw [List.getElem?_eq_none h] at hj; cases hj
    have := h1 j (by rw [← L_len]; exact hlt)
    rwa [Nb.at0_some hj] at this
  · intro c hc
    rw [List.head?_eq_getElem?] at hc
    have := Nb.at0_some hc
    rw [at0_L d 0 h0] at this
    rw [← this]; exact h2
  · intro c hc
    rw [List.getLast?_eq_getElem?, L_len] at hc
    have := Nb.at0_some hc
    rw [at0_L d _ hl] at this
    rw [← this]; exact h3

/-- It answers some bool; if yes, the digits are canonical. -/
def Canons (d : ByteArray) (e : Ending) : Prop := ∃ b, e = .returned (.bool b) ∧ (b = true → Nb.Canon (L d))

set_option maxHeartbeats 1000000 in
theorem canon14 (d : ByteArray) (w : World) (hs : d.size ≤ 16777216) :
    Calls Trym.prog 14 #[.string d] w fun e w' => Canons d e ∧ w' = w := by
  by_cases h0 : 0 < d.size
  · have hne : d.toList.isEmpty = false := by
      rw [Lib.toList_data]
      show (L d).isEmpty = false
      cases hL : L d with
      | nil => have := L_len d; rw [hL] at this; simp at this; omega
      | cons => rfl
    go_enter Trym.func14, Trym.ntmps14
    go_wp2_with fail
    go_loop [2, 3] (fun b i => ∃ k : Nat, k ≤ d.size ∧ b = .bool false ∧ i = .int .i64 k ∧ Hid (∀ j, j < k → Nb.dg (Nb.at0 (L d) j))) (fun _ i => d.size - (intOf i).toNat)
    case atStart => exact ⟨0, Nat.zero_le _, rfl, rfl, fun j h => absurd h (by omega)⟩
    case round =>
      obtain ⟨k, hk, rfl, rfl, Hk⟩ := hrel
      by_cases hlt : k < d.size
      · have HS : Hid (digB d[k] = true → ∀ j, j < k + 1 → Nb.dg (Nb.at0 (L d) j)) := by
          intro h j hj
          by_cases e : j = k
          · subst e; rw [at0_L d j hlt]; exact dg_of_digB h
          · exact Hk.out j (by omega)
        generalize hdb : digB d[k] = db
        have Hdb : Hid (digB d[k] = db) := hdb
        clear hdb
        cases db with
        | true =>
          go_wp2_with (go_at_call 26; refine (isdig26 _ _).mono ?_; rintro e w' ⟨rfl, rfl⟩; rw [Hdb.out])
          go_round
          case rel => exact ⟨k + 1, by omega, rfl, by go_num, HS.out Hdb.out⟩
          case measure => simp [intOf]; omega
        | false =>
          go_wp2_with (go_at_call 26; refine (isdig26 _ _).mono ?_; rintro e w' ⟨rfl, rfl⟩; rw [Hdb.out])
          go_ret
          exact ⟨⟨false, rfl, fun h => nomatch h⟩, rfl⟩
      · have hke : k = d.size := by omega
        subst hke
        have hl : d.size - 1 < d.size := by omega
        by_cases c1 : ((d[0].toNat : Int) != 48) = true
        · by_cases c2 : (((d[d.size - 1]'hl).toNat : Int) != 48) = true
          · go_wp2
            go_ret
            exact ⟨⟨true, by simp, fun _ => canon_of d h0 hl Hk.out (by simp at c1; omega) (by simp at c2; omega)⟩, rfl⟩
          · have c3 : (((d[d.size - 1]'hl).toNat : Int) != 48) = false := by simpa using c2
            clear c2
            go_wp2
            go_ret
            exact ⟨⟨false, by simp, fun h => nomatch h⟩, rfl⟩
        · have c3 : ((d[0].toNat : Int) != 48) = false := by simpa using c1
          clear c1
          go_wp2
          go_ret
          exact ⟨⟨false, by simp, fun h => nomatch h⟩, rfl⟩
  · have hL : L d = [] := L_nil h0
    have hd : d = ⟨#[]⟩ := by rw [← mk_L d, hL]
    subst hd
    go_enter Trym.func14, Trym.ntmps14
    go_wp2
    go_ret
    exact ⟨⟨true, rfl, fun _ => canon_nil⟩, rfl⟩
end Go.Proofs.Qxb6001233aMods
