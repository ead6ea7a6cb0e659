/-
  THE COPY AHEAD OF EACH LAW ('zzc := make([]byte, len(b)); copy(zzc, b); b = zzc') AS TWO LAWS FOR THE WALK, AND THE BOUNDS ON LENGTH (5, 8).
-/
import Derived.Test.Qxb6612450aModsEnc
import Derived.Laws.CopyOwn
import Derived.OpenShut
namespace Go.Proofs.Qxb6612450aMods
open Go.RowKit

/-- What the walk is told of a slice that came in, its length at least one: its numbers z at an address. -/
def Came (w : World) (x : Addr) (z : List Int) (n : Nat) : Prop := n ≤ z.length ∧ (∀ i, i < z.length → w.cell? (x.add i) = some (.int .u8 (z.getD i 0))) ∧ ∀ q ∈ z, (Lit.int .u8 q).wf = true
/-- Its elements as bytes. -/
def bytesOf (z : List Int) (n : Nat) : List UInt8 := (z.take n).map fun q => UInt8.ofNat q.toNat
theorem bytesOf_len {z : List Int} {n : Nat} (h : n ≤ z.length) : (bytesOf z n).length = n := by simp [bytesOf]; omega
theorem bytesOf_at {z : List Int} {n j : Nat} (h : n ≤ z.length) (hw : ∀ q ∈ z, (Lit.int .u8 q).wf = true) (hj : j < n) : bt (bytesOf z n) j = z.getD j 0 := by
  have hjz : j < z.length := by omega
  have e : (bytesOf z n)[j]? = some (UInt8.ofNat (z[j]).toNat) := by
    unfold bytesOf
    rw [List.getElem?_map, List.getElem?_take, if_pos hj, List.getElem?_eq_getElem hjz]
    rfl
  rw [bt_some e, List.getD_eq_getElem?_getD, List.getElem?_eq_getElem hjz, Option.getD_some]
  have hb := hw z[j] (List.getElem_mem hjz)
  have hb2 := bounds_u8 hb
  rw [UInt8.toNat_ofNat']
  omega

theorem Came.below {w w' : World} {x : Addr} {z : List Int} {n : Nat} (h : Came w x z n) (hb : Below w.heap.size w w') : Came w' x z n := by
  refine ⟨h.1, fun i hi => ?_, h.2.2⟩
  have hc := h.2.1 i hi
  have hlt := World.block_lt_of_cell? w _ hc
  exact (hb.cell hlt).trans hc

theorem law_copy {ops : Array Oper} {rest : List Oper} {o : Oper} {a : Act} {Q : Exit → Act → World → Prop} (hgd : o.guard = none) (d s : Operand)
    (ho : o.op = .call { callee := .builtin .copy, args := #[d, s], argTypes := #[22, 22] }) (w0 w1 : World) (x : Addr) (z : List Int) (n cap : Nat) (hm : Made w0 n w1) (hx : Came w0 x z n)
    (hd : a.eval d = .slice (some ⟨w0.heap.size, 0, none⟩) n n) (hs : a.eval s = .slice (some x) n cap)
    (h : ∀ w2, Bytes w2 w0.heap.size (bytesOf z n) → Below w0.heap.size w0 w2 → w0.heap.size < w2.heap.size → wpList Trym.prog ops Q rest (a.put o.dst (.int .i64 n)) w2) : wpList Trym.prog ops Q (o :: rest) a w1 := by
  obtain ⟨⟨cur, hc, hsz⟩, hb, hlt⟩ := hm
  have hx1 := hx.below hb
  obtain ⟨h1, h2, h3⟩ := hx1
  have hlen : ((z.take n).map (Value.int .u8)).length = n := by simp; omega
  refine wpList_copy_own hgd d s 22 22 ho 5 Trym.underlying22 (by kernel_rfl) w0.heap.size 0 n n x n cap hd hs cur 5 hc ((z.take n).map (Value.int .u8)) (by rw [hlen]; exact (Nat.min_self n).symm) ?_ (by rw [hlen]; omega) ?_ ?_
  · intro j v hj
    rw [List.getElem?_map, List.getElem?_take] at hj
    split at hj
    · rename_i hjn
      have hjz : j < z.length := by omega
      rw [List.getElem?_eq_getElem hjz] at hj
      simp only [Option.map_some, Option.some.injEq] at hj
      rw [h2 j hjz, List.getD_eq_getElem?_getD, List.getElem?_eq_getElem hjz, ← hj]
      rfl
    · cases hj
  · intro v hv
    simp only [List.mem_map] at hv
    obtain ⟨q, _, rfl⟩ := hv
    rfl
  · rw [hlen]
    refine h _ ?_ (below_setRow hb (Nat.le_refl _) _) (by simpa [World.setRow] using hlt)
    intro j hj
    rw [bytesOf_len h1] at hj
    have hh := setRow_heap w1 w0.heap.size cur (cur.toList.take 0 ++ ((z.take n).map (Value.int .u8) ++ cur.toList.drop (0 + n))).toArray 5 (0, 0) hc
    rw [cell_of hh, bytesOf_at h1 h3 hj]
    have hjz : j < z.length := by omega
    simp only [List.take_zero, List.nil_append, List.getElem?_toArray]
    rw [List.getElem?_append_left (by rw [hlen]; exact hj), List.getElem?_map, List.getElem?_take, if_pos hj, List.getElem?_eq_getElem hjz, List.getD_eq_getElem?_getD, List.getElem?_eq_getElem hjz]
    rfl
end Go.Proofs.Qxb6612450aMods
