/-
  THE WALKS OF zzHexValue (14) AND OF zzParseUUID (9) AT A TEXT THAT formatUUID WROTE.
-/
import Derived.Test.Qxb6612450aModsCmp
import Derived.Lib.BufSteps
namespace Go.Proofs.Qxb6612450aMods
open Go.RowKit Go.Lib

set_option maxHeartbeats 400000 in
theorem val_lo (x : Int) (h0 : 48 ≤ x) (h1 : x ≤ 57) (w : World) : Calls Trym.prog 14 #[.int .u8 x] w fun e w' => e = .returned (.tuple #[.int .u8 (x - 48), .bool true]) ∧ w' = w := by
  go_enter Trym.func14, Trym.ntmps14
  go_wp2
  go_ret2
  exact ⟨rfl, rfl⟩
set_option maxHeartbeats 400000 in
theorem val_hi (x : Int) (h0 : 97 ≤ x) (h1 : x ≤ 102) (w : World) : Calls Trym.prog 14 #[.int .u8 x] w fun e w' => e = .returned (.tuple #[.int .u8 (x - 97 + 10), .bool true]) ∧ w' = w := by
  go_enter Trym.func14, Trym.ntmps14
  go_wp2
  go_ret2
  exact ⟨rfl, rfl⟩
theorem val14 (v : Nat) (hv : v < 16) (x : Int) (hx : x = ((nibU v).toNat : Int)) (w : World) : Calls Trym.prog 14 #[.int .u8 x] w fun e w' => e = .returned (.tuple #[.int .u8 (v : Int), .bool true]) ∧ w' = w := by
  rw [nibU_nat hv] at hx
  by_cases h : v < 10
  · rw [if_pos h] at hx
    refine (val_lo x (by omega) (by omega) w).mono ?_
    rintro e w' ⟨rfl, rfl⟩
    exact ⟨by rw [show x - 48 = (v : Int) from by omega], rfl⟩
  · rw [if_neg h] at hx
    refine (val_hi x (by omega) (by omega) w).mono ?_
    rintro e w' ⟨rfl, rfl⟩
    exact ⟨by rw [show x - 97 + 10 = (v : Int) from by omega], rfl⟩

/-- How many digits stand ahead of place i. -/
def cnt (i : Nat) : Nat := i - ahead i
theorem cnt_dash {i : Nat} (h : isDash i) : cnt (i + 1) = cnt i := by
  unfold cnt ahead; unfold isDash at h
  rcases h with rfl | rfl | rfl | rfl <;> rfl
theorem cnt_hex {i : Nat} (h : ¬ isDash i) : cnt (i + 1) = cnt i + 1 := by
  unfold cnt ahead; unfold isDash at h
  split <;> split <;> split <;> split <;> split <;> split <;> split <;> split <;> omega
theorem cnt_le (i : Nat) : cnt i ≤ i := by unfold cnt; omega
theorem cnt_end {n : Nat} (h : 10 ≤ n) : cnt (2 * n + 4) = 2 * n := by
  unfold cnt ahead
  split <;> split <;> split <;> split <;> omega
theorem cnt_lt {n i : Nat} (h : 10 ≤ n) (hd : ¬ isDash i) (hi : i < 2 * n + 4) : cnt i < 2 * n := by
  unfold cnt ahead; unfold isDash at hd
  split <;> split <;> split <;> split <;> omega

/-- The digits read so far, as cells. -/
def vals (l : List Nat) : List Value := l.map fun x : Nat => Value.int .u8 (x : Int)
def Dig (w : World) (D : List Nat) (c : Nat) (v : Value) (wr : World) : Prop := OwnBuf w.heap.size 5 v c (vals (D.take c)) w wr
theorem vals_snoc {D : List Nat} {c : Nat} (h : c < D.length) : vals (D.take c) ++ [.int .u8 ((D.getD c 0 : Nat) : Int)] = vals (D.take (c + 1)) := by
  unfold vals
  rw [List.take_add_one, List.map_append, List.getElem?_eq_getElem h, List.getD_eq_getElem?_getD, List.getElem?_eq_getElem h]
  rfl

theorem Dig.byte {ops : Array Oper} {rest : List Oper} {o : Oper} {a : Act} {Q : Exit → Act → World → Prop} (hgd : o.guard = none) (s x : Operand)
    (ho : o.op = .call { callee := .builtin .append, args := #[s, x], argTypes := #[22, 22] })
    (w : World) (D : List Nat) (c : Nat) (v : Value) (w0 : World) (y : Int) (hy : y = ((D.getD c 0 : Nat) : Int)) (hc : c < D.length) (hl : D.length ≤ 1048576) (hb : Dig w D c v w0) (hs : a.eval s = v)
    (hx : a.eval x = .slice (some ⟨w0.heap.size, 0, none⟩) 1 1)
    (h : ∀ v' w', Dig w D (c + 1) v' w' → wpList Trym.prog ops Q rest (a.put o.dst v') w') : wpList Trym.prog ops Q (o :: rest) a (w0.alloc (.cells #[.int .u8 y] 5)) := by
  obtain ⟨i0, hi, hz0, hz1, hz2⟩ := info_parts info5
  subst hy
  refine wpList_append_byte hgd s x 22 ho w.heap.size 5 i0 Trym.underlying22 hi hz0 hz1 hz2 v c _ hs w w0 _ hb hx (by omega) ?_
  intro v' w' hb'
  apply h
  unfold Dig
  rw [← vals_snoc hc]
  exact hb'

theorem law_room {ops : Array Oper} {rest : List Oper} {o : Oper} {a : Act} {Q : Exit → Act → World → Prop} (hgd : o.guard = none) (l c : Operand)
    (ho : o.op = Op.makeSlice 22 l c) (w0 : World) (D : List Nat) (C : Int) (n : Nat) (hl : a.eval l = .int .i64 0) (hc : a.eval c = .int .i64 C) (hC : C = (n : Int)) (hn : n ≤ 140737488355320)
    (h : ∀ v w', Dig w0 D 0 v w' → wpList Trym.prog ops Q rest (a.put o.dst v) w') : wpList Trym.prog ops Q (o :: rest) a w0 := by
  obtain ⟨i0, hi, hz0, hz1, hz2⟩ := info_parts info5
  refine wpList_make_own w0 hgd l c 22 ho w0.heap.size 5 i0 (.int .u8 0) 1 Trym.underlying22 hi hz0 hz1 .i64 .i64 C n hl hc hC (by rw [hz2]; omega) (by unfold maxLen; omega) (Nat.le_refl _) ?_
  intro w' ho' hg
  exact h _ _ ⟨World.ownsRowF_of ho', (Below.refl _ _).grown hg (Nat.le_refl _) (fun k hk => nomatch hk), hg.size⟩

/-- The digits, all read: a slice and its cells. -/
theorem Dig.all {w wr : World} {D : List Nat} {v : Value} {m : Nat} (h : Dig w D m v wr) (hm : D.length = m) (h0 : 0 < m) :
    ∃ g cap, v = .slice (some ⟨g, 0, none⟩) m cap ∧ w.heap.size ≤ g ∧ g < wr.heap.size ∧ ∀ j, j < m → wr.cell? ⟨g, j, none⟩ = some (.int .u8 ((D.getD j 0 : Nat) : Int)) := by
  obtain ⟨h1, h2, h3⟩ := h
  have hlt := h1.lt
  have hcs : ∀ {g : Nat}, v.ownBlock = some g → ∀ j u, (vals (D.take m))[j]? = some u → wr.cell? ((⟨g, 0, none⟩ : Addr).add j) = some u := fun hg => h1.cells hg
  rcases h1.2 with ⟨_, e⟩ | ⟨g, cap, cur, fz, rfl, hb, hh, _⟩
  · omega
  · refine ⟨g, cap, rfl, hb, (hlt g rfl).2, ?_⟩
    intro j hj
    have e : (⟨g, 0, none⟩ : Addr).add j = ⟨g, j, none⟩ := by unfold Addr.add; split <;> simp_all
    rw [← e]
    refine hcs rfl j _ ?_
    unfold vals
    rw [List.getElem?_map, List.getElem?_take, if_pos hj, List.getElem?_eq_getElem (by omega), List.getD_eq_getElem?_getD, List.getElem?_eq_getElem (by omega)]
    rfl

theorem or16 : ∀ a, a < 16 → ∀ b, b < 16 → bits BinOp.or IntKind.u8 ((a : Nat) * 16 : Int) ((b : Nat) : Int) = (a : Int) * 16 + b := by
  have h : ((List.range 16).all fun a => (List.range 16).all fun b => decide (bits BinOp.or IntKind.u8 ((a : Nat) * 16 : Int) ((b : Nat) : Int) = (a : Int) * 16 + b)) = true := by decide +kernel
  intro a ha b hb
  rw [List.all_eq_true] at h
  have h1 := h a (by simpa using ha)
  rw [List.all_eq_true] at h1
  exact of_decide_eq_true (h1 b (by simpa using hb))
theorem joined {B : List UInt8} {k : Nat} (h : k < B.length) : bits BinOp.or IntKind.u8 ((nt B (2 * k) : Int) * 16) (nt B (2 * k + 1) : Int) = bt B k := by
  rw [or16 _ (nt_lt _ _) _ (nt_lt _ _), nt_even h, nt_odd h]
  have := bt_lo B k
  omega

structure OutSt (w0 : World) (o n : Nat) (B : List UInt8) (k : Nat) (wr : World) : Prop where
  bel : Below o w0 wr
  sz : o < wr.heap.size
  dst : ∀ j, j < n → ∃ v, wr.cell? ⟨o, j, none⟩ = some v ∧ (j < k → v = .int .u8 (bt B j))
  fr : ∀ j, j < n → wr.frozen? ⟨o, j, none⟩ = false

theorem OutSt.step {w0 wr : World} {o n : Nat} {B : List UInt8} {k : Nat} (T : OutSt w0 o n B k wr) (x : Int) (hx : x = bt B k) : OutSt w0 o n B (k + 1) (wr.setCell ⟨o, k, none⟩ (.int .u8 x)) := by
  subst hx
  refine ⟨T.bel.setCell (Nat.le_refl _) _, by simpa [World.setCell] using T.sz, ?_, ?_⟩
  · intro j hj
    obtain ⟨v, hv, hw⟩ := T.dst j hj
    by_cases e : j = k
    · subst e
      exact ⟨_, World.cell?_setCell_same _ _ _ hv, fun _ => rfl⟩
    · refine ⟨v, ?_, fun h => hw (by omega)⟩
      rw [World.cell?_setCell_other _ _ _ _ (by intro c; injection c with c1 c2; omega)]
      exact hv
  · intro j hj
    rw [World.frozen?_setCell]
    exact T.fr j hj
theorem OutSt.drew {w0 wr : World} {o n : Nat} {B : List UInt8} {k : Nat} (T : OutSt w0 o n B k wr) : OutSt w0 o n B k wr.drew := ⟨T.bel.drew, T.sz, T.dst, T.fr⟩

set_option maxHeartbeats 4000000 in
theorem parse9 (B : List UInt8) (n : Nat) (S : ByteArray) (w : World) (h10 : 10 ≤ n) (hn : n ≤ 65536) (hB : B.length = n) (hS : S = ⟨(uu B).toArray⟩) :
    Calls Trym.prog 9 #[.string S] w fun e w' => ∃ o, e = .returned (.tuple #[.slice (some ⟨o, 0, none⟩) n n, .bool true]) ∧ Bytes w' o B ∧ o < w'.heap.size ∧ Below w.heap.size w w' := by
  have z : S.size = 2 * n + 4 := by rw [hS, size_mk, uu_len (by omega), hB]
  have I : Hid (∀ (m : Nat), m < S.size → ∀ w, (Instr.index 9 (.string S) (.int .i64 m)).run Trym.prog w = .ok (.int .u8 (bt (uu B) m)) w) := fun m h w => by
    have := idxb S m h w
    rw [hS, L_mk] at this
    rw [hS]
    exact this
  have DA : Hid (∀ i, isDash i → bt (uu B) i = 45) := fun i hi => uu_dash (by omega) hi
  have HX : Hid (∀ i, ¬ isDash i → i < 2 * n + 4 → bt (uu B) i = ((nibU (nt B (cnt i))).toNat : Int)) := fun i hi hl => uu_hex (by omega) hi (by omega)
  have DL : Hid ((nv B).length = 2 * n) := by show _ = _; rw [nv_len, hB]
  have HB : Hid (B.length = n) := hB
  have z1 : 2 * n + 4 ≤ S.size := by omega
  have z2 : S.size ≤ 2 * n + 4 := by omega
  clear hB hS z
  go_enter Trym.func9, Trym.ntmps9
  go_wp2_with (at_make; go_must (refine law_room rfl _ (.tmp 15) rfl w (nv B) _ S.size rfl rfl rfl (by omega) ?_; intro v0 w0 hd0))
  go_loopw [4, 5] (fun v i wr => ∃ k : Nat, k ≤ 2 * n + 4 ∧ i = .int .i64 k ∧ Dig w (nv B) (cnt k) v wr) (fun _ i _ => 2 * n + 4 - (intOf i).toNat)
  case atStart => exact ⟨0, Nat.zero_le _, rfl, hd0⟩
  case round =>
    obtain ⟨k, hk, rfl, hd⟩ := hrel
    clear hd0
    by_cases hlt : k < 2 * n + 4
    · have i1 := I.out k (by omega)
      by_cases D : isDash k
      · have E : Hid (cnt (k + 1) = cnt k) := cnt_dash D
        have hv := DA.out k D
        have hq : (bt (uu B) k != 45) = false := by rw [hv]; rfl
        unfold isDash at D
        clear hv
        by_cases d8 : k = 8
        · clear D
          have n8 : ((k : Int) == 8) = true := by simp; omega
          clear d8
          go_wp2
          go_roundw
          case rel => exact ⟨k + 1, by omega, by go_num, by rw [E.out]; exact hd⟩
          case measure => simp [intOf]; omega
        · by_cases d13 : k = 13
          · clear D
            have n8 : ((k : Int) == 8) = false := by simp; omega
            have n13 : ((k : Int) == 13) = true := by simp; omega
            clear d8 d13
            go_wp2
            go_roundw
            case rel => exact ⟨k + 1, by omega, by go_num, by rw [E.out]; exact hd⟩
            case measure => simp [intOf]; omega
          · by_cases d18 : k = 18
            · clear D
              have n8 : ((k : Int) == 8) = false := by simp; omega
              have n13 : ((k : Int) == 13) = false := by simp; omega
              have n18 : ((k : Int) == 18) = true := by simp; omega
              clear d8 d13 d18
              go_wp2
              go_roundw
              case rel => exact ⟨k + 1, by omega, by go_num, by rw [E.out]; exact hd⟩
              case measure => simp [intOf]; omega
            · have d23 : k = 23 := by omega
              clear D
              have n8 : ((k : Int) == 8) = false := by simp; omega
              have n13 : ((k : Int) == 13) = false := by simp; omega
              have n18 : ((k : Int) == 18) = false := by simp; omega
              have n23 : ((k : Int) == 23) = true := by simp; omega
              clear d8 d13 d18 d23
              go_wp2
              go_roundw
              case rel => exact ⟨k + 1, by omega, by go_num, by rw [E.out]; exact hd⟩
              case measure => simp [intOf]; omega
      · have hv := HX.out k D hlt
        have HV : Hid (bt (uu B) k = ((nibU (nt B (cnt k))).toNat : Int)) := hv
        have hc : cnt k < (nv B).length := by rw [DL.out]; exact cnt_lt h10 D hlt
        have HC : Hid (cnt k < (nv B).length) := hc
        have E : Hid (cnt (k + 1) = cnt k + 1) := cnt_hex D
        have n8 : ((k : Int) == 8) = false := by unfold isDash at D; simp; omega
        have n13 : ((k : Int) == 13) = false := by unfold isDash at D; simp; omega
        have n18 : ((k : Int) == 18) = false := by unfold isDash at D; simp; omega
        have n23 : ((k : Int) == 23) = false := by unfold isDash at D; simp; omega
        clear D hv hc
        go_wp2_with (first | (go_at_call 14; go_must (refine (val14 (nt B (cnt k)) (nt_lt _ _) _ HV.out _).mono ?_; rintro e w1 ⟨rfl, rfl⟩)) | (at_builtin; go_must (refine Dig.byte rfl (.tmp 49) (.tmp 51) rfl w (nv B) (cnt k) _ _ _ rfl HC.out (by rw [DL.out]; omega) hd rfl rfl ?_; intro v1 w1 hd1)))
        go_roundw
        case rel => exact ⟨k + 1, by omega, by go_num, by rw [E.out]; exact hd1⟩
        case measure => simp [intOf]; omega
    · obtain rfl : k = 2 * n + 4 := by omega
      rw [cnt_end h10] at hd
      obtain ⟨g, cap, rfl, g1, g2, g3⟩ := hd.all DL.out (by omega)
      go_wp2_with (at_make; go_must (refine law_make rfl (.tmp 59) (.tmp 59) rfl _ _ n rfl rfl (by omega) (by omega) ?_; intro w2 hm))
      have g4 : ∀ j, j < 2 * n → w2.cell? ⟨g, j, none⟩ = some (.int .u8 (nt B j : Int)) := fun j hj => (hm.2.1.cell (p := ⟨g, j, none⟩) g2).trans (g3 j hj)
      have O0 : OutSt w2 wr.heap.size n B 0 w2 := ⟨Below.refl _ _, hm.2.2, fun j hj => by obtain ⟨v, hv⟩ := hm.cell j hj; exact ⟨v, hv, fun h => absurd h (by omega)⟩, hm.frozen⟩
      have B2 : Below w.heap.size w w2 := hd.2.1.trans (hm.2.1.mono hd.2.2)
      have s2 : w.heap.size ≤ wr.heap.size := hd.2.2
      obtain ⟨o, ho⟩ : ∃ o, o = wr.heap.size := ⟨_, rfl⟩
      rw [← ho] at O0 g2 s2
      rw [← ho]
      clear g3 hm hd ho
      go_loopw [10] (fun i wx => ∃ k : Nat, k ≤ n ∧ i = .int .i64 k ∧ OutSt w2 o n B k wx) (fun i _ => n - (intOf i).toNat)
      case atStart => exact ⟨0, Nat.zero_le _, rfl, O0⟩
      case round =>
        obtain ⟨k, hk, rfl, T⟩ := hrel
        clear O0
        by_cases hlt2 : k < n
        · have c1 := (T.bel.cell (p := ⟨g, 2 * k, none⟩) g2).trans (g4 (2 * k) (by omega))
          have c2 := (T.bel.cell (p := ⟨g, 2 * k + 1, none⟩) g2).trans (g4 (2 * k + 1) (by omega))
          obtain ⟨v1, d1, -⟩ := T.dst k hlt2
          have f1 := T.fr k hlt2
          have a1 := nt_lt B (2 * k)
          have a2 := nt_lt B (2 * k + 1)
          go_wp2_with fail
          go_region
          go_wp2
          go_roundw
          case rel => exact ⟨k + 1, by omega, by go_num, (T.step _ (joined (by rw [HB.out]; exact hlt2))).drew⟩
          case measure => simp [intOf]; omega
        · obtain rfl : k = n := by omega
          go_wp2
          go_ret2
          refine ⟨o, rfl, ?_, T.sz, B2.trans (T.bel.mono s2)⟩
          intro j hj
          rw [HB.out] at hj
          obtain ⟨v, hv, hw⟩ := T.dst j hj
          rw [hv, hw hj]
end Go.Proofs.Qxb6612450aMods
