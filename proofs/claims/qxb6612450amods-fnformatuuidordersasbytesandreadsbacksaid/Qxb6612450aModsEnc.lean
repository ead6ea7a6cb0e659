/-
  THE WALKS OF encoding/hex's EncodedLen (16), Encode (17), EncodeToString (15), OF formatUUID (13), ZZformatUUID (6) AND zzNibble (7).
-/
import Derived.Test.Qxb6612450aModsRows
import Derived.Test.Qxb6612450aModsPlain
import Derived.WalkKit
import Derived.WalkSpells
import Derived.WalkLawsBesides
import Derived.ProofKit
import Derived.BigQuiet
import Derived.Laws.IdiomStrings
import Derived.Lib.Strings
import Derived.Deep.DeepMust
namespace Go.Proofs.Qxb6612450aMods
open Go.RowKit

theorem info5 : (Trym.prog.info? 5).map (fun i => (i.zero, i.size, i.bytes)) = some (some (.int .u8 0), 1, 1) := by kernel_rfl

def L (s : ByteArray) : List UInt8 := s.data.toList
theorem L_len (s : ByteArray) : (L s).length = s.size := by simp [L]
theorem L_mk (l : List UInt8) : L ⟨l.toArray⟩ = l := rfl
theorem L_inj {a b : ByteArray} (h : L a = L b) : a = b := by
  apply ByteArray.ext
  apply Array.ext'
  exact h
theorem size_mk (l : List UInt8) : (⟨l.toArray⟩ : ByteArray).size = l.length := rfl
theorem L_at (s : ByteArray) (k : Nat) (h : k < s.size) : (s[k].toNat : Int) = bt (L s) k := by
  have e : (L s)[k]? = some s[k] := by rw [List.getElem?_eq_getElem (by rw [L_len]; exact h)]; rfl
  rw [bt_some e]

/-- The cells from the head of block g on read as the bytes B. -/
def Bytes (w : World) (g : Nat) (B : List UInt8) : Prop := ∀ j, j < B.length → w.cell? ⟨g, j, none⟩ = some (.int .u8 (bt B j))
theorem Bytes.below {w w' : World} {g C : Nat} {B : List UInt8} (h : Bytes w g B) (hb : Below C w w') (hg : g < C) : Bytes w' g B :=
  fun j hj => (hb.cell (p := ⟨g, j, none⟩) hg).trans (h j hj)

theorem tab_at : ∀ (x : Nat) (h : x < (⟨#[48, 49, 50, 51, 52, 53, 54, 55, 56, 57, 97, 98, 99, 100, 101, 102]⟩ : ByteArray).size), ((⟨#[48, 49, 50, 51, 52, 53, 54, 55, 56, 57, 97, 98, 99, 100, 101, 102]⟩ : ByteArray)[x]'h) = nibU x
  | 0, _ => rfl
  | 1, _ => rfl
  | 2, _ => rfl
  | 3, _ => rfl
  | 4, _ => rfl
  | 5, _ => rfl
  | 6, _ => rfl
  | 7, _ => rfl
  | 8, _ => rfl
  | 9, _ => rfl
  | 10, _ => rfl
  | 11, _ => rfl
  | 12, _ => rfl
  | 13, _ => rfl
  | 14, _ => rfl
  | 15, _ => rfl
  | (k + 16), h => absurd h (by show ¬ (k + 16 < 16); omega)

theorem hex_even {B : List UInt8} {k : Nat} (h : k < B.length) : bt (hexL B) (2 * k) = ((nibU (bt B k / 16).toNat).toNat : Int) := by
  rw [bt_some (hexL_at (by omega)), nt_even h]
  have := bt_lo B k
  rw [show (bt B k).toNat / 16 = (bt B k / 16).toNat from by omega]
theorem hex_odd {B : List UInt8} {k : Nat} (h : k < B.length) : bt (hexL B) (2 * k + 1) = ((nibU (bt B k % 16).toNat).toNat : Int) := by
  rw [bt_some (hexL_at (by omega)), nt_odd h]
  have := bt_lo B k
  rw [show (bt B k).toNat % 16 = (bt B k % 16).toNat from by omega]

structure EncSt (w : World) (g p n : Nat) (B : List UInt8) (k : Nat) (wr : World) : Prop where
  bel : Below g w wr
  src : ∀ j, j < n → wr.cell? ⟨p, j, none⟩ = some (.int .u8 (bt B j))
  dst : ∀ j, j < 2 * n → ∃ v, wr.cell? ⟨g, j, none⟩ = some v ∧ (j < 2 * k → v = .int .u8 (bt (hexL B) j))
  fr : ∀ j, j < 2 * n → wr.frozen? ⟨g, j, none⟩ = false

theorem EncSt.step {w wr : World} {g p n : Nat} {B : List UInt8} {k : Nat} (T : EncSt w g p n B k wr) (hne : p ≠ g) (x y : Int) (hx : x = bt (hexL B) (2 * k)) (hy : y = bt (hexL B) (2 * k + 1)) :
    EncSt w g p n B (k + 1) ((wr.setCell ⟨g, 2 * k, none⟩ (.int .u8 x)).setCell ⟨g, 2 * k + 1, none⟩ (.int .u8 y)) := by
  subst hx; subst hy
  have other : ∀ (b j : Nat), (b = g → j ≠ 2 * k ∧ j ≠ 2 * k + 1) → ((wr.setCell ⟨g, 2 * k, none⟩ (.int .u8 (bt (hexL B) (2 * k)))).setCell ⟨g, 2 * k + 1, none⟩ (.int .u8 (bt (hexL B) (2 * k + 1)))).cell? ⟨b, j, none⟩ = wr.cell? ⟨b, j, none⟩ := by
    intro b j h
    rw [World.cell?_setCell_other _ _ _ _ (by intro e; injection e with e1 e2; exact (h e1.symm).2 e2.symm), World.cell?_setCell_other _ _ _ _ (by intro e; injection e with e1 e2; exact (h e1.symm).1 e2.symm)]
  refine ⟨?_, ?_, ?_, ?_⟩
  · exact (T.bel.setCell (Nat.le_refl _) _).setCell (Nat.le_refl _) _
  · intro j hj
    rw [other p j (fun e => absurd e hne)]
    exact T.src j hj
  · intro j hj
    obtain ⟨v, hv, hw⟩ := T.dst j hj
    by_cases e1 : j = 2 * k + 1
    · subst e1
      refine ⟨_, World.cell?_setCell_same _ _ _ (u := v) ?_, fun _ => rfl⟩
      rw [World.cell?_setCell_other _ _ _ _ (by intro e; injection e with e1 e2; omega)]
      exact hv
    · by_cases e2 : j = 2 * k
      · subst e2
        refine ⟨_, ?_, fun _ => rfl⟩
        rw [World.cell?_setCell_other _ _ _ _ (by intro e; injection e with e1 e2; omega)]
        exact World.cell?_setCell_same _ _ _ hv
      · exact ⟨v, (other g j (fun _ => ⟨e2, e1⟩)).trans hv, fun h => hw (by omega)⟩
  · intro j hj
    rw [World.frozen?_setCell, World.frozen?_setCell]
    exact T.fr j hj

set_option maxHeartbeats 1000000 in
theorem enc17 (B : List UInt8) (n g p : Nat) (w : World) (hn : n ≤ 65536) (hB : B.length = n) (hs : Bytes w p B) (hd : ∀ j, j < 2 * n → ∃ v, w.cell? ⟨g, j, none⟩ = some v) (hf : ∀ j, j < 2 * n → w.frozen? ⟨g, j, none⟩ = false) (hne : p ≠ g) :
    Calls Trym.prog 17 #[.slice (some ⟨g, 0, none⟩) (2 * n) (2 * n), .slice (some ⟨p, 0, none⟩) n n] w fun e w' => e = .returned (.int .i64 (n * 2)) ∧ Bytes w' g (hexL B) ∧ Below g w w' := by
  have H0 : EncSt w g p n B 0 w := ⟨Below.refl _ _, fun j hj => hs j (by omega), fun j hj => by obtain ⟨v, hv⟩ := hd j hj; exact ⟨v, hv, fun h => absurd h (by omega)⟩, hf⟩
  have HB : Hid (B.length = n) := hB
  clear hB hs hd hf
  go_enter Trym.func17, Trym.ntmps17
  go_wp2_with fail
  go_loopw [5, 10] (fun jj i wr => ∃ k : Nat, k ≤ n ∧ i = .int .i64 k ∧ jj = .int .i64 (2 * k) ∧ EncSt w g p n B k wr) (fun _ i _ => n - (intOf i).toNat)
  case atStart => exact ⟨0, Nat.zero_le _, rfl, rfl, H0⟩
  case round =>
    obtain ⟨k, hk, rfl, rfl, T⟩ := hrel
    clear H0
    by_cases hlt : k < n
    · have c1 := T.src k hlt
      obtain ⟨v0, d0, -⟩ := T.dst (2 * k) (by omega)
      obtain ⟨v1, d1, -⟩ := T.dst (2 * k + 1) (by omega)
      have f0 := T.fr (2 * k) (by omega)
      have f1 := T.fr (2 * k + 1) (by omega)
      have b0 := bt_lo B k
      have b1 := bt_hi B k
      go_wp2
      go_roundw
      case rel => exact ⟨k + 1, by omega, by go_num, by go_num, T.step hne _ _ (by rw [tab_at, hex_even (by rw [HB.out]; exact hlt)]) (by rw [tab_at, hex_odd (by rw [HB.out]; exact hlt)])⟩
      case measure => simp [intOf]; omega
    · obtain rfl : k = n := by omega
      go_wp2
      go_ret
      refine ⟨rfl, ?_, T.bel⟩
      intro j hj
      rw [hexL_len, HB.out] at hj
      obtain ⟨v, hv, hw⟩ := T.dst j hj
      rw [hv, hw hj]

/-- 'make([]byte, n)': a new row of n cells. -/
def Made (w0 : World) (n : Nat) (w' : World) : Prop := (∃ cur : Array Value, w'.heap[w0.heap.size]? = some (.cells cur 5 (0, 0)) ∧ cur.size = n) ∧ Below w0.heap.size w0 w' ∧ w0.heap.size < w'.heap.size

theorem law_make {ops : Array Oper} {rest : List Oper} {o : Oper} {a : Act} {Q : Exit → Act → World → Prop} (hgd : o.guard = none) (l c : Operand)
    (ho : o.op = Op.makeSlice 22 l c) (w0 : World) (C : Int) (n : Nat) (hl : a.eval l = .int .i64 C) (hc : a.eval c = .int .i64 C) (hC : C = (n : Int)) (hn : n ≤ 140737488355320)
    (h : ∀ w', Made w0 n w' → wpList Trym.prog ops Q rest (a.put o.dst (.slice (some ⟨w0.heap.size, 0, none⟩) n n)) w') : wpList Trym.prog ops Q (o :: rest) a w0 := by
  obtain ⟨i0, hi, hz0, hz1, hz2⟩ := info_parts info5
  refine wpList_make_full w0 hgd l c 22 ho w0.heap.size 5 i0 (.int .u8 0) 1 Trym.underlying22 hi hz0 hz1 .i64 .i64 C C n hl hc hC hC (by rw [hz2]; omega) (by unfold maxLen; omega) (Nat.le_refl _) ?_
  intro w' ho' hg
  refine h w' ⟨?_, (Below.refl _ _).grown hg (Nat.le_refl _) (fun k hk => nomatch hk), ?_⟩
  · rcases ho'.2 with ⟨h1, _⟩ | ⟨g, cap, cur, hv, _, hh, _, _, hs, _⟩
    · cases h1
    · injection hv with e1 e2 e3
      injection e1 with e1
      injection e1 with e1
      subst e1; subst e3
      exact ⟨cur, hh, by simpa using hs⟩
  · rcases ho'.2 with ⟨h1, _⟩ | ⟨g, cap, cur, hv, _, hh, _⟩
    · cases h1
    · injection hv with e1 e2 e3
      injection e1 with e1
      injection e1 with e1
      subst e1
      exact (Array.getElem?_eq_some_iff.1 hh).1

theorem cell_of {w : World} {g : Nat} {cur : Array Value} (h : w.heap[g]? = some (.cells cur 5 (0, 0))) (j : Nat) : w.cell? ⟨g, j, none⟩ = cur[j]? := by
  simp [World.cell?, h]
theorem frozen_of {w : World} {g : Nat} {cur : Array Value} (h : w.heap[g]? = some (.cells cur 5 (0, 0))) (j : Nat) : w.frozen? ⟨g, j, none⟩ = false := by
  simp [World.frozen?, h]
theorem Made.cell {w0 w' : World} {n : Nat} (h : Made w0 n w') : ∀ j, j < n → ∃ v, w'.cell? ⟨w0.heap.size, j, none⟩ = some v := by
  obtain ⟨⟨cur, hc, hs⟩, -, -⟩ := h
  intro j hj
  rw [cell_of hc]
  exact ⟨cur[j], Array.getElem?_eq_getElem (by omega)⟩
theorem Made.frozen {w0 w' : World} {n : Nat} (h : Made w0 n w') : ∀ j, j < n → w'.frozen? ⟨w0.heap.size, j, none⟩ = false := by
  obtain ⟨⟨cur, hc, hs⟩, -, -⟩ := h
  intro j _
  exact frozen_of hc j

set_option maxHeartbeats 400000 in
theorem len16 (n : Nat) (w : World) (hn : n ≤ 65536) : Calls Trym.prog 16 #[.int .i64 n] w fun e w' => e = .returned (.int .i64 (n * 2)) ∧ w' = w := by
  go_enter Trym.func16, Trym.ntmps16
  go_wp2
  go_ret
  exact ⟨rfl, rfl⟩

theorem conv_bytes {w : World} {g n : Nat} {B : List UInt8} (h : Bytes w g B) (hn : B.length = n) (cap : Nat) : (convert 22 9 (.slice (some ⟨g, 0, none⟩) n cap)).run Trym.prog w = .ok (.string ⟨B.toArray⟩) w := by
  subst hn
  refine run_convert_bytes_back w 22 9 5 ⟨g, 0, none⟩ cap B Trym.underlying22 Trym.underlying5 Trym.underlying9 ?_
  intro j hj
  have := h j hj
  rw [bt_some (List.getElem?_eq_getElem hj)] at this
  have e : (⟨g, 0, none⟩ : Addr).add j = ⟨g, j, none⟩ := by unfold Addr.add; split <;> simp_all
  rw [e]
  exact this

set_option maxHeartbeats 1000000 in
theorem enc15 (B : List UInt8) (n p : Nat) (w : World) (hn : n ≤ 65536) (hB : B.length = n) (hs : Bytes w p B) (hp : p < w.heap.size) :
    Calls Trym.prog 15 #[.slice (some ⟨p, 0, none⟩) n n] w fun e w' => e = .returned (.string ⟨(hexL B).toArray⟩) ∧ Below w.heap.size w w' := by
  have HB : Hid (B.length = n) := hB
  clear hB
  go_enter Trym.func15, Trym.ntmps15
  go_wp2_with fail
  refine (len16 n _ hn).mono ?_
  rintro e w0 ⟨rfl, rfl⟩
  go_wp2_with (at_make; go_must (refine law_make rfl (.tmp 6) (.tmp 6) rfl _ _ (2 * n) rfl rfl (by omega) (by omega) ?_; intro w1 hm))
  refine (enc17 B n w0.heap.size p w1 hn HB.out (hs.below hm.2.1 hp) hm.cell hm.frozen (by omega)).mono ?_
  rintro e w2 ⟨rfl, hb2, hbl2⟩
  have hcv := conv_bytes hb2 (by rw [hexL_len, HB.out]) (2 * n)
  have B2 : Below w0.heap.size w0 w2 := hm.2.1.trans hbl2
  clear hb2 hbl2 hm
  go_wp2
  go_ret
  exact ⟨rfl, B2⟩

theorem ret_str {a b : ByteArray} (h : a = b) : Ending.returned (.string a) = .returned (.string b) := by rw [h]
theorem below_drewN {B : Nat} {w0 w : World} (h : Below B w0 w) (n : Nat) : Below B w0 (w.drewN n) := ⟨h.os, h.tape, h.output, h.size, h.block⟩

/-- What formatUUID makes of the hexadecimal text. -/
theorem fmt_text {B : List UInt8} (H : ByteArray) (hH : H = ⟨(hexL B).toArray⟩) :
    H.extract 0 8 ++ ⟨#[45]⟩ ++ H.extract 8 12 ++ ⟨#[45]⟩ ++ H.extract 12 16 ++ ⟨#[45]⟩ ++ H.extract 16 20 ++ ⟨#[45]⟩ ++ H.extract 20 H.size = ⟨(uu B).toArray⟩ := by
  subst hH
  apply ByteArray.ext
  apply Array.ext'
  have hl := hexL_len B
  simp only [ByteArray.data_append, Array.toList_append, Lib.extract_data, size_mk]
  unfold uu uuL
  simp
  rw [List.take_of_length_le (by simp)]

set_option maxHeartbeats 1000000 in
theorem fmt13 (B : List UInt8) (n p : Nat) (w : World) (hn : n ≤ 65536) (h10 : 10 ≤ n) (hB : B.length = n) (hs : Bytes w p B) (hp : p < w.heap.size) :
    Calls Trym.prog 13 #[.slice (some ⟨p, 0, none⟩) n n] w fun e w' => e = .returned (.string ⟨(uu B).toArray⟩) ∧ Below w.heap.size w w' := by
  have HB : Hid (B.length = n) := hB
  clear hB
  go_enter Trym.func13, Trym.ntmps13
  go_wp2_with fail
  refine (enc15 B n p _ hn HB.out hs hp).mono ?_
  rintro e w1 ⟨rfl, hb1⟩
  obtain ⟨H, hH⟩ : ∃ H : ByteArray, H = ⟨(hexL B).toArray⟩ := ⟨_, rfl⟩
  have hz : 20 ≤ H.size := by rw [hH, size_mk, hexL_len, HB.out]; omega
  have hz2 : H.size ≤ 131072 := by rw [hH, size_mk, hexL_len, HB.out]; omega
  have HT := fmt_text H hH
  have HT' : Hid (H.extract 0 8 ++ ⟨#[45]⟩ ++ H.extract 8 12 ++ ⟨#[45]⟩ ++ H.extract 12 16 ++ ⟨#[45]⟩ ++ H.extract 16 20 ++ ⟨#[45]⟩ ++ H.extract 20 H.size = ⟨(uu B).toArray⟩) := HT
  rw [← hH]
  clear hH HT
  go_wp2_with fail
  go_quiet (fail)
  go_wp2
  go_ret
  exact ⟨ret_str HT'.out, below_drewN hb1 nq⟩

set_option maxHeartbeats 1000000 in
theorem fmt6 (B : List UInt8) (n p : Nat) (w : World) (hn : n ≤ 65536) (h10 : 10 ≤ n) (hB : B.length = n) (hs : Bytes w p B) (hp : p < w.heap.size) :
    Calls Trym.prog 6 #[.slice (some ⟨p, 0, none⟩) n n] w fun e w' => e = .returned (.string ⟨(uu B).toArray⟩) ∧ Below w.heap.size w w' := by
  have HB : Hid (B.length = n) := hB
  clear hB
  go_enter Trym.func6, Trym.ntmps6
  go_wp2_with fail
  refine (fmt13 B n p _ hn h10 HB.out hs hp).mono ?_
  rintro e w1 ⟨rfl, hb1⟩
  go_wp2
  go_ret
  exact ⟨rfl, hb1⟩

set_option maxHeartbeats 1000000 in
theorem nib7 (x : Int) (h0 : 0 ≤ x) (h1 : x < 16) (w : World) : Calls Trym.prog 7 #[.int .u8 x] w fun e w' => e = .returned (.int .u8 ((nibU x.toNat).toNat : Int)) ∧ w' = w := by
  have hx := nibU_nat (show x.toNat < 16 from by omega)
  by_cases h : x < 10
  · have E : Hid (((nibU x.toNat).toNat : Int) = 48 + x) := by show _ = _; rw [hx, if_pos (by omega)]; omega
    clear hx
    go_enter Trym.func7, Trym.ntmps7
    go_wp2
    go_ret
    exact ⟨by rw [E.out]; rfl, rfl⟩
  · have E : Hid (((nibU x.toNat).toNat : Int) = 97 + x - 10) := by show _ = _; rw [hx, if_neg (by omega)]; omega
    clear hx
    go_enter Trym.func7, Trym.ntmps7
    go_wp2
    go_ret
    exact ⟨by rw [E.out]; rfl, rfl⟩
end Go.Proofs.Qxb6612450aMods
