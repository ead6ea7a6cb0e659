/-
  THE WALK OF Number.Append (function 12) ONTO nil: it hands back a slice whose bytes are what 'Nb.app' says.
-/
import Derived.Test.Qxb6001233aModsSmall
import Derived.Lib.BufSteps
import Derived.Laws.IdiomStrings
import Derived.Deep.DeepMust
namespace Go.Proofs.Qxb6001233aMods
open Go.RowKit Go.Lib

theorem info5 : (Trym.prog.info? 5).map (fun i => (i.zero, i.size, i.bytes)) = some (some (.int .u8 0), 1, 1) := by kernel_rfl

/-- Bytes as cells. -/
def cells (l : List UInt8) : List Value := l.map fun b => Value.int .u8 b.toNat
theorem cells_app (a b : List UInt8) : cells a ++ cells b = cells (a ++ b) := by simp [cells]
theorem cells_str (s : ByteArray) : strCells s = cells (L s) := rfl
theorem cells_len (l : List UInt8) : (cells l).length = l.length := by simp [cells]

/-- A buffer of the call's own, behind the box of the Number, that holds the bytes l. -/
def Buf (w : World) (n : Nb.Num) (v : Value) (l : List UInt8) (w' : World) : Prop :=
  OwnBuf (w.heap.size + 1) 5 v l.length (cells l) (w.alloc (.cells #[.bool n.neg, .string ⟨n.dig.toArray⟩, .int .i64 n.ex] 24)) w'

theorem Buf.cell0 {w w' : World} {n : Nb.Num} {v : Value} {l : List UInt8} (h : Buf w n v l w') : w'.cell? ⟨w.heap.size, 0, none⟩ = some (.bool n.neg) := by
  rw [h.2.1.cell (p := ⟨w.heap.size, 0, none⟩) (Nat.lt_succ_self _)]
  simp
theorem Buf.cell1 {w w' : World} {n : Nb.Num} {v : Value} {l : List UInt8} (h : Buf w n v l w') : w'.cell? ⟨w.heap.size, 1, none⟩ = some (.string ⟨n.dig.toArray⟩) := by
  rw [h.2.1.cell (p := ⟨w.heap.size, 1, none⟩) (Nat.lt_succ_self _)]
  simp
theorem Buf.cell2 {w w' : World} {n : Nb.Num} {v : Value} {l : List UInt8} (h : Buf w n v l w') : w'.cell? ⟨w.heap.size, 2, none⟩ = some (.int .i64 n.ex) := by
  rw [h.2.1.cell (p := ⟨w.heap.size, 2, none⟩) (Nat.lt_succ_self _)]
  simp
theorem Buf.start (w : World) (n : Nb.Num) : Buf w n (.slice none 0 0) [] (w.alloc (.cells #[.bool n.neg, .string ⟨n.dig.toArray⟩, .int .i64 n.ex] 24)) :=
  ⟨World.ownsRowF_nil _ _ _ _, Below.refl _ _, by simp⟩
theorem Buf.below {w w' : World} {n : Nb.Num} {v : Value} {l : List UInt8} (h : Buf w n v l w') : Below w.heap.size w w' :=
  ((Below.refl _ _).alloc (Nat.le_refl _) _).trans (h.2.1.mono (by omega))

/-- 'b = append(b, c)'. -/
theorem Buf.byte {ops : Array Oper} {rest : List Oper} {o : Oper} {a : Act} {Q : Exit → Act → World → Prop} (hgd : o.guard = none) (s x : Operand)
    (ho : o.op = .call { callee := .builtin .append, args := #[s, x], argTypes := #[27, 27] })
    (w : World) (n : Nb.Num) (v : Value) (l : List UInt8) (w0 : World) (c : UInt8) (hb : Buf w n v l w0) (hs : a.eval s = v)
    (hx : a.eval x = .slice (some ⟨w0.heap.size, 0, none⟩) 1 1) (hlen : l.length ≤ 140737488355327)
    (h : ∀ v' w', Buf w n v' (l ++ [c]) w' → wpList Trym.prog ops Q rest (a.put o.dst v') w') : wpList Trym.prog ops Q (o :: rest) a (w0.alloc (.cells #[.int .u8 (c.toNat : Int)] 5)) := by
  obtain ⟨i0, hi, hz0, hz1, hz2⟩ := info_parts info5
  refine wpList_append_byte hgd s x 27 ho (w.heap.size + 1) 5 i0 Trym.underlying27 hi hz0 hz1 hz2 v l.length (cells l) hs _ w0 c.toNat hb hx (by omega) ?_
  intro v' w' hb'
  apply h
  unfold Buf
  rw [← cells_app, List.length_append]
  exact hb'

/-- 'b = append(b, s...)'. -/
theorem Buf.text {ops : Array Oper} {rest : List Oper} {o : Oper} {a : Act} {Q : Exit → Act → World → Prop} (hgd : o.guard = none) (s x : Operand)
    (ho : o.op = .call { callee := .builtin .append, args := #[s, x], argTypes := #[27, 9] })
    (w : World) (n : Nb.Num) (v : Value) (l : List UInt8) (w0 : World) (d : ByteArray) (hb : Buf w n v l w0) (hs : a.eval s = v)
    (hx : a.eval x = .string d) (hlen : l.length + d.size ≤ 140737488355327)
    (h : ∀ v' w', Buf w n v' (l ++ L d) w' → wpList Trym.prog ops Q rest (a.put o.dst v') w') : wpList Trym.prog ops Q (o :: rest) a w0 := by
  obtain ⟨i0, hi, hz0, hz1, hz2⟩ := info_parts info5
  refine wpList_append_text hgd s x 27 9 ho (w.heap.size + 1) 5 i0 Trym.underlying27 Trym.underlying9 hi hz0 hz1 hz2 v l.length (cells l) hs _ hb d hx (by omega) ?_
  intro v' w' hb'
  apply h
  unfold Buf
  rw [← cells_app, List.length_append, L_len]
  exact hb'

/-- What Append hands back: a slice that reads as the bytes l. -/
def Reads (l : List UInt8) (e : Ending) (w' : World) : Prop :=
  ∃ g cap, e = .returned (.slice (some ⟨g, 0, none⟩) l.length cap) ∧ (convert 27 9 (.slice (some ⟨g, 0, none⟩) l.length cap)).run Trym.prog w' = .ok (.string ⟨l.toArray⟩) w'

theorem Buf.reads {w w' : World} {n : Nb.Num} {v : Value} {l : List UInt8} (h : Buf w n v l w') (hl : l ≠ []) : Reads l (.returned v) w' := by
  rcases h.1.2 with ⟨_, h0⟩ | ⟨g, cap, cur, fz, rfl, _⟩
  · exact absurd (List.eq_nil_of_length_eq_zero h0) hl
  · refine ⟨g, cap, rfl, run_convert_bytes_back w' 27 9 5 ⟨g, 0, none⟩ cap l Trym.underlying27 Trym.underlying5 Trym.underlying9 ?_⟩
    intro j hj
    refine h.1.cells rfl j _ ?_
    simp [cells, List.getElem?_eq_getElem hj]

theorem size_mk (l : List UInt8) : (⟨l.toArray⟩ : ByteArray).size = l.length := rfl
theorem rep_snoc (S : List UInt8) (j : Nat) : S ++ List.replicate j 48 ++ [48] = S ++ List.replicate (j + 1) 48 := by
  rw [List.append_assoc, ← List.replicate_succ']
theorem L_take (d : List UInt8) (k : Nat) : L ((⟨d.toArray⟩ : ByteArray).extract 0 k) = d.take k := by
  show (ByteArray.extract _ _ _).data.toList = _
  rw [Lib.extract_data]
  simp
theorem L_from (d : List UInt8) (k : Nat) : L ((⟨d.toArray⟩ : ByteArray).extract k d.length) = d.drop k := by
  show (ByteArray.extract _ _ _).data.toList = _
  rw [Lib.extract_data, List.take_of_length_le (by simp)]
theorem sign_le (neg : Bool) : (Nb.sign neg).length ≤ 1 := by unfold Nb.sign; split <;> simp

set_option maxHeartbeats 2000000 in
theorem append12 (neg : Bool) (d : List UInt8) (x : Int) (w : World) (hd : d.length ≤ 16777216) (h1 : -65536 ≤ x) (h2 : x ≤ 65536) :
    Calls Trym.prog 12 #[.agg #[.bool neg, .string ⟨d.toArray⟩, .int .i64 x], .slice none 0 0] w fun e w' => Reads (Nb.app ⟨neg, d, x⟩) e w' ∧ Below w.heap.size w w' := by
  have hst := Buf.start w ⟨neg, d, x⟩
  by_cases h0 : d = []
  · as_aux_lemma =>
    have E : Hid (Nb.app ⟨neg, d, x⟩ = [48]) := Nb.app_zero h0
    have hne : d.isEmpty = true := by rw [h0]; rfl
    clear h0
    go_enter Trym.func12, Trym.ntmps12
    go_wp2_with (at_builtin; go_must (refine Buf.byte rfl (.tmp 11) (.tmp 12) rfl w ⟨neg, d, x⟩ _ _ _ 48 hst rfl (by simp; rfl) (by simp) ?_; intro v' w' hb))
    have R := hb.reads (by simp)
    have B := hb.below
    go_ret
    exact ⟨by rw [E.out]; exact R, B⟩
  · have hne : d.isEmpty = false := by
      cases d with
      | nil => exact absurd rfl h0
      | cons => rfl
    have E : Hid (Nb.app ⟨neg, d, x⟩ = Nb.sign neg ++ Nb.body d x) := by show Nb.app _ = _; unfold Nb.app; rw [if_neg h0]
    have hz : 0 < d.length := List.length_pos_iff.2 h0
    have hsg := sign_le neg
    have hS : Hid (Nb.sign neg ++ Nb.body d x ≠ []) := by
      intro h
      rw [List.append_eq_nil_iff] at h
      obtain ⟨c, cs, hc⟩ : ∃ c cs, d = c :: cs := by
        cases d with
        | nil => exact absurd rfl h0
        | cons c cs => exact ⟨c, cs, rfl⟩
      have h3 := h.2
      unfold Nb.body at h3
      split at h3
      · simp at h3
      · split at h3
        · simp at h3
        · rw [List.append_eq_nil_iff] at h3; exact h0 h3.1
    clear h0
    go_enter Trym.func12, Trym.ntmps12
    go_upto_if 15 with fail
    go_cut [1] from 8 to 18 (fun v wc => Buf w ⟨neg, d, x⟩ v (Nb.sign neg) wc)
    case first =>
      as_aux_lemma =>
      cases neg with
      | true =>
        go_wp2_with (at_builtin; go_must (refine Buf.byte rfl (.tmp 16) (.tmp 17) rfl w ⟨true, d, x⟩ _ _ _ 45 hst rfl (by simp; rfl) (by simp) ?_; intro v' w' hb))
        go_meet
        case rel => exact hb
      | false =>
        go_wp2
        go_meet
        case rel => exact hst
    case rest =>
      clear hst
      by_cases hx : x < 0
      · as_aux_lemma =>
        have EB : Hid (Nb.sign neg ++ Nb.body d x = Nb.sign neg ++ [48, 46] ++ List.replicate (-x - 1).toNat 48 ++ d) := by show _ ++ Nb.body _ _ = _; unfold Nb.body; rw [if_pos hx]; simp
        have c0 := hcut.cell0
        have c1 := hcut.cell1
        have c2 := hcut.cell2
        have l2 : (Nb.sign neg).length + (⟨#[48, 46]⟩ : ByteArray).size ≤ 140737488355327 := by show _ + 2 ≤ _; omega
        go_wp2_with (at_builtin; go_must (refine Buf.text rfl (.tmp 22) _ rfl w ⟨neg, d, x⟩ _ _ _ ⟨#[48, 46]⟩ hcut rfl rfl l2 ?_; intro v' w' hb; clear c0 c1 c2; have c0 := hb.cell0; have c1 := hb.cell1; have c2 := hb.cell2))
        clear hcut l2 c0 c1 c2
        go_loopw [1, 5] (fun v i wr => ∃ j : Nat, j ≤ (-x - 1).toNat ∧ i = .int .i64 (-x - 1 - j) ∧ Buf w ⟨neg, d, x⟩ v (Nb.sign neg ++ [48, 46] ++ List.replicate j 48) wr) (fun _ i _ => (intOf i).toNat)
        case atStart => exact ⟨0, Nat.zero_le _, by go_num, by rw [List.replicate_zero, List.append_nil]; exact hb⟩
        case round =>
          obtain ⟨j, hj, rfl, hb2⟩ := hrel
          clear hb
          have hle : (Nb.sign neg ++ [48, 46] ++ List.replicate j 48).length ≤ 140737488355327 := by simp only [List.length_append, List.length_replicate, List.length_cons, List.length_nil]; omega
          by_cases hlt : j < (-x - 1).toNat
          · go_wp2_with (at_builtin; go_must (refine Buf.byte rfl (.tmp 32) (.tmp 33) rfl w ⟨neg, d, x⟩ _ _ _ 48 hb2 rfl rfl hle ?_; intro v3 w3 hb3))
            go_roundw
            case rel => exact ⟨j + 1, by omega, by go_num, by rw [← rep_snoc]; exact hb3⟩
            case measure => simp [intOf]; omega
          · have hje : j = (-x - 1).toNat := by omega
            have c1 := hb2.cell1
            have l3 : (Nb.sign neg ++ [48, 46] ++ List.replicate j 48).length + (⟨d.toArray⟩ : ByteArray).size ≤ 140737488355327 := by rw [size_mk]; simp only [List.length_append, List.length_replicate, List.length_cons, List.length_nil]; omega
            have Hje : Hid (j = (-x - 1).toNat) := hje
            clear hje
            go_wp2_with (at_builtin; go_must (refine Buf.text rfl (.tmp 35) (.tmp 37) rfl w ⟨neg, d, x⟩ _ _ _ ⟨d.toArray⟩ hb2 rfl rfl l3 ?_; intro v3 w3 hb3))
            rw [Hje.out] at hb3
            rw [show L ⟨d.toArray⟩ = d from rfl, ← EB.out] at hb3
            have R := hb3.reads hS.out
            have B := hb3.below
            go_ret
            exact ⟨by rw [E.out]; exact R, B⟩
      · by_cases hw : x + 1 < d.length
        · as_aux_lemma =>
          have EB : Hid (Nb.sign neg ++ Nb.body d x = Nb.sign neg ++ d.take (x + 1).toNat ++ [46] ++ d.drop (x + 1).toNat) := by show _ ++ Nb.body _ _ = _; unfold Nb.body; rw [if_neg hx, if_pos hw]; simp
          have c0 := hcut.cell0
          have c1 := hcut.cell1
          have c2 := hcut.cell2
          obtain ⟨k, rfl⟩ := Int.eq_ofNat_of_zero_le (show 0 ≤ x from by omega)
          have s1 := L_len ((⟨d.toArray⟩ : ByteArray).extract 0 (k + 1))
          have s2 := L_len ((⟨d.toArray⟩ : ByteArray).extract (k + 1) d.length)
          rw [L_take, List.length_take] at s1
          rw [L_from, List.length_drop] at s2
          have l2 : (Nb.sign neg).length + ((⟨d.toArray⟩ : ByteArray).extract 0 (k + 1)).size ≤ 140737488355327 := by omega
          have l3 : (Nb.sign neg ++ d.take (k + 1)).length ≤ 140737488355327 := by simp only [List.length_append, List.length_take]; omega
          have l4 : (Nb.sign neg ++ d.take (k + 1) ++ [46]).length + ((⟨d.toArray⟩ : ByteArray).extract (k + 1) d.length).size ≤ 140737488355327 := by simp only [List.length_append, List.length_take, List.length_cons, List.length_nil]; omega
          clear s1 s2
          go_wp2_with (first | (at_builtin; have _t := c0; refine Buf.text rfl (.tmp 47) (.tmp 51) rfl w ⟨neg, d, k⟩ _ _ _ ((⟨d.toArray⟩ : ByteArray).extract 0 (k + 1)) hcut rfl rfl l2 ?_; intro v1 w1 hb1; rw [L_take] at hb1; clear c0 c1 c2 hcut) | (at_builtin; refine Buf.byte rfl (.tmp 53) (.tmp 54) rfl w ⟨neg, d, k⟩ _ _ _ 46 hb1 rfl rfl l3 ?_; intro v2 w2 hb2; have c1 := hb2.cell1; clear hb1) | (at_builtin; refine Buf.text rfl (.tmp 56) (.tmp 60) rfl w ⟨neg, d, k⟩ _ _ _ ((⟨d.toArray⟩ : ByteArray).extract (k + 1) d.length) hb2 rfl rfl l4 ?_; intro v3 w3 hb3; rw [L_from] at hb3))
          rw [show ((k : Int) + 1).toNat = k + 1 from by omega] at EB
          rw [← EB.out] at hb3
          have R := hb3.reads hS.out
          have B := hb3.below
          go_ret
          exact ⟨by rw [E.out]; exact R, B⟩
        · as_aux_lemma =>
          have EB : Hid (Nb.sign neg ++ Nb.body d x = Nb.sign neg ++ d ++ List.replicate (x + 1 - d.length).toNat 48) := by show _ ++ Nb.body _ _ = _; unfold Nb.body; rw [if_neg hx, if_neg hw]; simp
          have c0 := hcut.cell0
          have c1 := hcut.cell1
          have c2 := hcut.cell2
          have l2 : (Nb.sign neg).length + (⟨d.toArray⟩ : ByteArray).size ≤ 140737488355327 := by rw [size_mk]; omega
          go_wp2_with (at_builtin; go_must (refine Buf.text rfl (.tmp 62) (.tmp 64) rfl w ⟨neg, d, x⟩ _ _ _ ⟨d.toArray⟩ hcut rfl rfl l2 ?_; intro v' w' hb; clear c0 c1 c2; have c0 := hb.cell0; have c1 := hb.cell1; have c2 := hb.cell2))
          clear hcut l2 c0 c1 c2
          go_loopw [1, 7] (fun v i wr => ∃ j : Nat, j ≤ (x + 1 - d.length).toNat ∧ i = .int .i64 (x + 1 - d.length - j) ∧ Buf w ⟨neg, d, x⟩ v (Nb.sign neg ++ d ++ List.replicate j 48) wr) (fun _ i _ => (intOf i).toNat)
          case atStart => exact ⟨0, Nat.zero_le _, by go_num, by rw [List.replicate_zero, List.append_nil]; exact hb⟩
          case round =>
            obtain ⟨j, hj, rfl, hb2⟩ := hrel
            clear hb
            have hle : (Nb.sign neg ++ d ++ List.replicate j 48).length ≤ 140737488355327 := by simp only [List.length_append, List.length_replicate]; omega
            by_cases hlt : j < (x + 1 - d.length).toNat
            · go_wp2_with (at_builtin; go_must (refine Buf.byte rfl (.tmp 77) (.tmp 78) rfl w ⟨neg, d, x⟩ _ _ _ 48 hb2 rfl rfl hle ?_; intro v3 w3 hb3))
              go_roundw
              case rel => exact ⟨j + 1, by omega, by go_num, by rw [← rep_snoc]; exact hb3⟩
              case measure => simp [intOf]; omega
            · have hje : j = (x + 1 - d.length).toNat := by omega
              rw [hje, ← EB.out] at hb2
              clear hje
              go_wp2
              have R := hb2.reads hS.out
              have B := hb2.below
              go_ret
              exact ⟨by rw [E.out]; exact R, B⟩
end Go.Proofs.Qxb6001233aMods
