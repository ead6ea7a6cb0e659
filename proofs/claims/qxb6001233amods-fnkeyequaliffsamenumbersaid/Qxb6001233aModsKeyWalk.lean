/-
  THE WALK OF Number.Key (function 21): it hands back what 'Nb.key' says.
-/
import Derived.Test.Qxb6001233aModsApp
import Derived.Test.Qxb6001233aModsKeyPlain
namespace Go.Proofs.Qxb6001233aMods
open Go.RowKit Go.Lib

/-- A slice of two bytes, laid behind the box. -/
theorem Buf.made (w : World) (n : Nb.Num) (a b : UInt8) (x y : Int) (hx : x = a.toNat) (hy : y = b.toNat) :
    Buf w n (.slice (some ⟨w.heap.size + 1, 0, none⟩) 2 2) [a, b] ((w.alloc (.cells #[.bool n.neg, .string ⟨n.dig.toArray⟩, .int .i64 n.ex] 24)).alloc (.cells #[.int .u8 x, .int .u8 y] 5)) := by
  subst hx; subst hy
  refine ⟨⟨rfl, .inr ⟨w.heap.size + 1, 2, #[.int .u8 (a.toNat : Int), .int .u8 (b.toNat : Int)], (0, 0), rfl, Nat.le_refl _, ?_, Nat.zero_le _, Nat.le_refl _, by unfold maxLen; omega, rfl, rfl⟩⟩, (Below.refl _ _).alloc (by simp) _, by simp⟩
  have := heap_alloc_new (w.alloc (.cells #[.bool n.neg, .string ⟨n.dig.toArray⟩, .int .i64 n.ex] 24)) (.cells #[.int .u8 (a.toNat : Int), .int .u8 (b.toNat : Int)] 5)
  simpa using this

/-- 'b = append(b, c)', the byte spelt as a number. -/
theorem Buf.byteI {ops : Array Oper} {rest : List Oper} {o : Oper} {a : Act} {Q : Exit → Act → World → Prop} (hgd : o.guard = none) (s x : Operand)
    (ho : o.op = .call { callee := .builtin .append, args := #[s, x], argTypes := #[27, 27] })
    (w : World) (n : Nb.Num) (v : Value) (l : List UInt8) (w0 : World) (c : UInt8) (p : Int) (hp : p = c.toNat) (hb : Buf w n v l w0) (hs : a.eval s = v)
    (hx : a.eval x = .slice (some ⟨w0.heap.size, 0, none⟩) 1 1) (hlen : l.length ≤ 140737488355327)
    (h : ∀ v' w', Buf w n v' (l ++ [c]) w' → wpList Trym.prog ops Q rest (a.put o.dst v') w') : wpList Trym.prog ops Q (o :: rest) a (w0.alloc (.cells #[.int .u8 p] 5)) := by
  subst hp
  exact Buf.byte hgd s x ho w n v l w0 c hb hs hx hlen h

/-- 'b = append(b, c, d)'. -/
theorem Buf.two {ops : Array Oper} {rest : List Oper} {o : Oper} {a : Act} {Q : Exit → Act → World → Prop} (hgd : o.guard = none) (s x : Operand)
    (ho : o.op = .call { callee := .builtin .append, args := #[s, x], argTypes := #[27, 27] })
    (w : World) (n : Nb.Num) (v : Value) (l : List UInt8) (w0 : World) (c d : UInt8) (p q : Int) (hp : p = c.toNat) (hq : q = d.toNat) (hb : Buf w n v l w0) (hs : a.eval s = v)
    (hx : a.eval x = .slice (some ⟨w0.heap.size, 0, none⟩) 2 2) (hlen : l.length ≤ 140737488355320)
    (h : ∀ v' w', Buf w n v' (l ++ [c, d]) w' → wpList Trym.prog ops Q rest (a.put o.dst v') w') : wpList Trym.prog ops Q (o :: rest) a (w0.alloc (.cells #[.int .u8 p, .int .u8 q] 5)) := by
  obtain ⟨i0, hi, hz0, hz1, hz2⟩ := info_parts info5
  subst hp; subst hq
  have hb' : OwnBuf (w.heap.size + 1) 5 v l.length (cells l) _ _ := OwnBuf.alloc hb (.cells #[.int .u8 (c.toNat : Int), .int .u8 (d.toNat : Int)] 5)
  refine wpList_append_ownF _ hgd s x 27 ho (w.heap.size + 1) 5 i0 (.int .u8 0) 1 1 Trym.underlying27 hi hz0 hz1 hz2 rfl (by decide) v l.length (cells l) hs hb'.1 ⟨w0.heap.size, 0, none⟩ 2 2 [.int .u8 (c.toNat : Int), .int .u8 (d.toNat : Int)] hx rfl ?_ ?_ (by unfold maxLen; omega) (by omega) hb'.2.2 ?_
  · intro j u hj
    match j, hj with
    | 0, hj => simp at hj; subst hj; simp [Addr.add]
    | 1, hj => simp at hj; subst hj; simp [Addr.add]
    | (j + 2), hj => simp at hj
  · intro u hu; simp at hu; rcases hu with rfl | rfl <;> rfl
  · intro v' w' ho' hg _
    apply h
    unfold Buf
    rw [← cells_app, List.length_append]
    exact hb'.grown ho' hg

/-- 'make([]byte, 0, n)' behind the box. -/
theorem Buf.make {ops : Array Oper} {rest : List Oper} {o : Oper} {a : Act} {Q : Exit → Act → World → Prop} (hgd : o.guard = none) (l c : Operand)
    (ho : o.op = Op.makeSlice 27 l c) (w : World) (n : Nb.Num) (w0 : World) (C : Int) (k : Nat) (hb : Buf w n (.slice none 0 0) [] w0) (hl : a.eval l = .int .i64 0) (hc : a.eval c = .int .i64 C) (hC : C = (k : Int)) (hk : k ≤ 140737488355320)
    (h : ∀ v' w', Buf w n v' [] w' → wpList Trym.prog ops Q rest (a.put o.dst v') w') : wpList Trym.prog ops Q (o :: rest) a w0 := by
  obtain ⟨i0, hi, hz0, hz1, hz2⟩ := info_parts info5
  refine wpList_make_own w0 hgd l c 27 ho (w.heap.size + 1) 5 i0 (.int .u8 0) 1 Trym.underlying27 hi hz0 hz1 .i64 .i64 C k hl hc hC (by rw [hz2]; omega) (by unfold maxLen; omega) hb.2.2 ?_
  intro w' ho' hg
  exact h _ _ ⟨World.ownsRowF_of ho', hb.2.1.grown hg hb.2.2 (fun k hk => nomatch hk), Nat.le_trans hb.2.2 hg.size⟩

theorem ret_inj {a b : Value} (h : Ending.returned a = .returned b) : a = b := by
  injection h

theorem comp_int {c : UInt8} (h : Nb.dg c) : (105 : Int) - (c.toNat : Int) = ((Nb.comp c).toNat : Int) := by
  rw [Nb.comp_nat h]; unfold Nb.dg at h; omega
theorem comp_at {d : List UInt8} {k : Nat} (hk : k < d.length) (h : Nb.dg d[k]) : ∀ h, ((105 : Int) - (((⟨d.toArray⟩ : ByteArray)[k]'h).toNat : Int)) % 256 = ((Nb.comp d[k]).toNat : Int) := by
  intro h2
  have e : ((⟨d.toArray⟩ : ByteArray)[k]'h2) = d[k] := rfl
  rw [e, comp_int h, Nb.comp_nat h]
  unfold Nb.dg at h
  omega
theorem take_map (d : List UInt8) (k : Nat) (c : UInt8) (h : d[k]? = some c) : (d.take k).map Nb.comp ++ [Nb.comp c] = (d.take (k + 1)).map Nb.comp := by
  rw [List.take_add_one, h]; simp

set_option maxHeartbeats 2000000 in
theorem key21 (neg : Bool) (d : List UInt8) (x : Int) (w : World) (hd : d.length ≤ 16777216) (hf : Nb.Fits ⟨neg, d, x⟩) :
    Calls Trym.prog 21 #[.agg #[.bool neg, .string ⟨d.toArray⟩, .int .i64 x]] w fun e w' => e = .returned (.string ⟨(Nb.key ⟨neg, d, x⟩).toArray⟩) ∧ Below w.heap.size w w' := by
  by_cases h0 : d = []
  · as_aux_lemma =>
    have E : Hid (Nb.key ⟨neg, d, x⟩ = [1]) := by show Nb.key _ = _; unfold Nb.key; rw [if_pos h0]
    have hne : d.isEmpty = true := by rw [h0]; rfl
    clear h0
    go_enter Trym.func21, Trym.ntmps21
    go_wp2
    go_ret
    exact ⟨by rw [E.out]; simp, (Below.refl _ _).alloc (Nat.le_refl _) _⟩
  · have hne : d.isEmpty = false := by
      cases d with
      | nil => exact absurd rfl h0
      | cons => rfl
    have hlo : -130 ≤ x := hf.lo h0
    have hhi : x ≤ 125 := hf.hi h0
    cases neg with
    | false =>
      as_aux_lemma =>
      have E : Hid (Nb.key ⟨false, d, x⟩ = [2, Nb.expB x] ++ d) := by show Nb.key _ = _; unfold Nb.key; rw [if_neg h0]; rfl
      have hm := Buf.made w ⟨false, d, x⟩ 2 (Nb.expB x) 2 (x + 130) rfl (by rw [Nb.expB_nat hlo hhi]; omega)
      have l2 : [2, Nb.expB x].length + (⟨d.toArray⟩ : ByteArray).size ≤ 140737488355327 := by rw [size_mk]; simp only [List.length_cons, List.length_nil]; omega
      clear hf h0
      go_enter Trym.func21, Trym.ntmps21
      go_wp2_with (at_builtin; go_must (refine Buf.text rfl (.tmp 17) (.tmp 19) rfl w ⟨false, d, x⟩ _ _ _ ⟨d.toArray⟩ hm rfl rfl l2 ?_; intro v' w' hb; have B := hb.below; have hnn : [2, Nb.expB x] ++ L ⟨d.toArray⟩ ≠ [] := (by simp); generalize hl : [2, Nb.expB x] ++ L ⟨d.toArray⟩ = l at hb hnn; have Hl : Hid (_ = l) := hl; clear hl; obtain ⟨g, cap, hv, hcv⟩ := hb.reads hnn; have hv' := ret_inj hv; rw [hv']; clear hv hv' hb hm))
      go_ret
      refine ⟨?_, B⟩
      rw [E.out, show [2, Nb.expB x] ++ d = l from Hl.out]
      rfl
    | true =>
      as_aux_lemma =>
      have E : Hid (Nb.key ⟨true, d, x⟩ = [0, Nb.expN x] ++ d.map Nb.comp ++ [58]) := by show Nb.key _ = _; unfold Nb.key; rw [if_neg h0]; rfl
      have hst := Buf.start w ⟨true, d, x⟩
      have HD : Hid (∀ c ∈ d, Nb.dg c) := hf.digs
      have hx : Hid (255 - (x + 130) = ((Nb.expN x).toNat : Int)) := by show _ = _; rw [Nb.expN_nat hlo hhi]; omega
      clear hf h0
      go_enter Trym.func21, Trym.ntmps21
      go_wp2_with (first | (at_make; go_must (refine Buf.make rfl _ (.tmp 25) rfl w ⟨true, d, x⟩ _ _ (d.length + 3) hst rfl rfl (by omega) (by omega) ?_; intro v1 w1 hb1)) | (at_builtin; go_must (refine Buf.two rfl (.tmp 26) (.tmp 29) rfl w ⟨true, d, x⟩ _ _ _ 0 (Nb.expN x) _ _ rfl hx.out hb1 rfl rfl (by simp) ?_; intro v2 w2 hb2)))
      clear hst hb1
      go_loopw [4, 5] (fun v i wr => ∃ k : Nat, k ≤ d.length ∧ i = .int .i64 k ∧ Buf w ⟨true, d, x⟩ v ([0, Nb.expN x] ++ (d.take k).map Nb.comp) wr) (fun _ i _ => d.length - (intOf i).toNat)
      case atStart => exact ⟨0, Nat.zero_le _, rfl, by rw [List.take_zero, List.map_nil, List.append_nil]; exact hb2⟩
      case round =>
        obtain ⟨k, hk, rfl, hb3⟩ := hrel
        clear hb2
        have c1 := hb3.cell1
        have hle : ([0, Nb.expN x] ++ (d.take k).map Nb.comp).length ≤ 140737488355327 := by simp only [List.length_append, List.length_map, List.length_take, List.length_cons, List.length_nil]; omega
        by_cases hlt : k < d.length
        · have hc : Hid (∀ h, ((105 : Int) - (((⟨d.toArray⟩ : ByteArray)[k]'h).toNat : Int)) % 256 = ((Nb.comp d[k]).toNat : Int)) := comp_at hlt (HD.out _ (List.getElem_mem hlt))
          have hT : Hid ([0, Nb.expN x] ++ (d.take k).map Nb.comp ++ [Nb.comp d[k]] = [0, Nb.expN x] ++ (d.take (k + 1)).map Nb.comp) := by show _ = _; rw [List.append_assoc, take_map d k d[k] (List.getElem?_eq_getElem hlt)]
          go_wp2_with (at_builtin; go_must (refine Buf.byteI rfl (.tmp 38) (.tmp 44) rfl w ⟨true, d, x⟩ _ _ _ (Nb.comp d[k]) _ (hc.out _) hb3 rfl rfl hle ?_; intro v3 w3 hb4; rw [hT.out] at hb4))
          go_roundw
          case rel => exact ⟨k + 1, by omega, by go_num, hb4⟩
          case measure => simp [intOf]; omega
        · obtain rfl : k = d.length := by omega
          go_wp2_with (at_builtin; go_must (refine Buf.byte rfl (.tmp 46) (.tmp 47) rfl w ⟨true, d, x⟩ _ _ _ 58 hb3 rfl rfl hle ?_; intro v' w' hb; have B := hb.below; have hnn : [0, Nb.expN x] ++ (d.take d.length).map Nb.comp ++ [58] ≠ [] := (by simp); generalize hl : [0, Nb.expN x] ++ (d.take d.length).map Nb.comp ++ [58] = l at hb hnn; have Hl : Hid (_ = l) := hl; clear hl; obtain ⟨g, cap, hv, hcv⟩ := hb.reads hnn; have hv' := ret_inj hv; rw [hv']; clear hv hv' hb hb3))
          go_ret
          refine ⟨?_, B⟩
          have Hl2 := Hl.out
          rw [List.take_length] at Hl2
          rw [E.out, Hl2]
          rfl
end Go.Proofs.Qxb6001233aMods
