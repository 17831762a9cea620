/-
  'make' with a length and a capacity; for 'LawS3717AAppend'.
-/
import Derived.Test.YbulkbxymParts
namespace Go.Proofs.Ybulkbxym
open Go.RowKit

/-- 'make([]T, n, c)', n and c variables, T of one cell: the first n zeros are owned. -/
theorem wpList_make_cap {P : Program} (w : World) {ops : Array Oper} {rest : List Oper} {o : Oper} {a : Act} {Q : Exit → Act → World → Prop}
    (hg : o.guard = Option.none) (l c : Operand) (t : TypeId) (hop : o.op = Op.makeSlice t l c)
    (base : Nat) (e : TypeId) (i : TypeInfo) (z : Value) (h1 : P.underlying t = some (.slice e)) (h2 : P.info? e = some i) (h3 : i.zero = some z) (h4 : i.size = 1) (z' : Value) (hz : z.cells = #[z'])
    (kl kc : IntKind) (L C : Int) (n m : Nat) (hl : a.eval l = .int kl L) (hc : a.eval c = .int kc C) (hL : L = (n : Int)) (hC : C = (m : Int)) (hnm : n ≤ m) (b2 : i.bytes * m ≤ 281474976710656) (b3 : m ≤ maxLen) (b4 : base ≤ w.heap.size)
    (hK : ∀ w', w'.ownsRow base e 1 (.slice (some ⟨w.heap.size, 0, Option.none⟩) n m) n (List.replicate n z') → w.grownBy w' Option.none → wpList P ops Q rest (a.put o.dst (.slice (some ⟨w.heap.size, 0, Option.none⟩) n m)) w') :
    wpList P ops Q (o :: rest) a w := by
  refine wpList_plain hg fun K hK' => ?_
  subst hL
  subst hC
  have h63' : (m : Int) ≤ 9223372036854775807 := by
    have h := b3
    simp [maxLen] at h
    omega
  have hb' : (i.bytes : Int) * (m : Int) ≤ 281474976710656 := by
    have h : ((i.bytes * m : Nat) : Int) ≤ 281474976710656 := by omega
    rwa [Int.natCast_mul] at h
  have hrun := run_make (P := P) w t e i z h1 h2 h3 kl kc n m (by omega) (by omega) hb' h63'
  simp only [Int.toNat_natCast] at hrun
  unfold Oper.wp
  simp [execOp, hop, hl, hc, hrun, Result.andThen]
  refine hK' _ _ (hK _ ⟨by simp, .inr ⟨w.heap.size, m, madeCells z.cells (m * i.size), rfl, b4, heap_alloc_new w _, hnm, b3, by rw [size_madeCells, h4], ?_⟩⟩ (World.grownBy_alloc w _ _))
  rw [hz, h4, Nat.mul_one, Nat.mul_one, toList_madeCells_one, List.take_replicate, Nat.min_eq_left hnm]


theorem own_base0 {w : World} {base : Nat} {e : TypeId} {v : Value} {n : Nat} {xs : List Value} (h : w.ownsRow base e 1 v n xs) : w.ownsRow 0 e 1 v n xs := by
  rcases h with ⟨hl, h | ⟨g, cap, cur, hv, _, r⟩⟩
  · exact ⟨hl, .inl h⟩
  · exact ⟨hl, .inr ⟨g, cap, cur, hv, Nat.zero_le _, r⟩⟩

/-- What 'appendFindings' hands back is never nil where what it was handed was not. -/
theorem own_at2 {w : World} {v : Value} {n m g c : Nat} {xs : List Value} (h : w.ownsRow 0 27 1 v (n + m) xs) (hnil : m = 0 → v = .slice (some ⟨g, 0, none⟩) n c) : ∃ g' c', v = .slice (some ⟨g', 0, none⟩) (n + m) c' := by
  by_cases hm : m = 0
  · subst hm
    exact ⟨g, c, hnil rfl⟩
  · exact own_at h (by omega)

/-- The items' cells, behind the call. -/
theorem items_at {w w' : World} {bi m k : Nat} {zs : List Int} {row : Option Nat} (hit : w.heap[bi]? = some (.cells ((zs.take m).map (Value.int .i64)).toArray 25 (0, 0))) (hg : w.grownBy w' row) (hne : some bi ≠ row)
    (hk : k < m) (hm : m ≤ zs.length) : w'.cell? ⟨bi, k, none⟩ = some (.int .i64 (zs.getD k 0)) := by
  rw [World.cell?_of_block (w := w) (a := ⟨bi, k, none⟩) (hg.block bi (Array.getElem?_eq_some_iff.1 hit).1 hne), cell_of_row w bi k _ 25 (0, 0) hit]
  simp [hk, List.getElem?_eq_getElem (show k < zs.length by omega)]

/-- All that the two last loops of 'LawS3717AAppend' read. -/
theorem reads {w0 w w' : World} {k ex j g g2 c' : Nat} {z0 z1 : List Int}
    (hown : w'.ownsRow 0 27 1 (.slice (some ⟨g, 0, none⟩) (k + j) c') (k + j) ((z0.take k).map item ++ (z1.take j).map item))
    (hrel : Rel w w' (.slice (some ⟨w0.heap.size, 0, none⟩) k (k + ex)) (.slice (some ⟨g, 0, none⟩) (k + j) c') k ((z0.take k).map item))
    (hblk : w.heap[g2]? = some (.cells ((z1.take j).map (Value.int .i64)).toArray 25 (0, 0))) (hne : w0.heap.size < g2) (h0 : k ≤ z0.length) (h1 : j ≤ z1.length) :
    (∀ t, t < k → w'.cell? ⟨g, t, none⟩ = some (.iface 25 (.agg #[.int .i64 (z0.getD t 0)])) ∧ w'.cell? ⟨w0.heap.size, t, none⟩ = some (.iface 25 (.agg #[.int .i64 (z0.getD t 0)]))) ∧
    (∀ t, t < j → w'.cell? ⟨g, k + t, none⟩ = some (.iface 25 (.agg #[.int .i64 (z1.getD t 0)])) ∧ w'.cell? ⟨g2, t, none⟩ = some (.int .i64 (z1.getD t 0))) := by
  refine ⟨fun t ht => ⟨?_, ?_⟩, fun t ht => ⟨?_, ?_⟩⟩
  · rw [hown.cellAt t (by omega), List.getElem?_append_left (by simp; omega)]
    simp [ht, item, List.getElem?_eq_getElem (show t < z0.length by omega)]
  · rw [hrel.first _ rfl t ht]
    simp [ht, item, List.getElem?_eq_getElem (show t < z0.length by omega)]
  · have := own_item (k := t) (j := k + t) hown (by simp; omega) (by simp; omega)
    rw [this]
    simp [ht]
  · exact items_at hblk hrel.grown (by simp [Value.ownBlock]; omega) ht h1

end Go.Proofs.Ybulkbxym
