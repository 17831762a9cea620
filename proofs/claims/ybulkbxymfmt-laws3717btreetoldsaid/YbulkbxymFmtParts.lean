/-
  What the loops of 'LawS3717BTree' carry: the plain laws.
-/
import Derived.Test.YbulkbxymFmtGrow
namespace Go.Proofs.YbulkbxymFmt
open Go.RowKit Go.Maps Go.ChangeMaps Go.MapKept

/-- What the walk is told of a slice of integers that came in. -/
def Came (q : IntKind) (w : World) (a : Option Addr) (len : Nat) (zs : List Int) : Prop :=
  len ≤ zs.length ∧ ∀ k, k < len → ∃ x, a = some x ∧ w.cell? (x.add k) = some (.int q (zs.getD k 0)) ∧ (Lit.int q (zs.getD k 0)).wf = true

theorem Came.later {q : IntKind} {w wr : World} {a : Option Addr} {len : Nat} {zs : List Int} (h : Came q w a len zs) (hb : Below w.heap.size w wr) : Came q wr a len zs :=
  ⟨h.1, fun k hk => by obtain ⟨x, hx, hc, hw⟩ := h.2 k hk; exact ⟨x, hx, cell_later hb hc, hw⟩⟩

theorem Keeps.row22 {B : Nat} {w w' : World} (h : Keeps B w w') {v : Value} {n : Nat} {xs : List Value} (ho : w.ownsRow 0 22 1 v n xs) : w'.ownsRow 0 22 1 v n xs := by
  obtain ⟨hl, h0 | ⟨g, cap, cur, hv, hb, hg, r⟩⟩ := ho
  · exact ⟨hl, .inl h0⟩
  · exact ⟨hl, .inr ⟨g, cap, cur, hv, hb, (h.block g (Array.getElem?_eq_some_iff.1 hg).1 (.inr ⟨_, _, _, hg, by decide, by decide, by decide⟩)).trans hg, r⟩⟩

theorem Tree.touch {w w' : World} {B R n : Nat} {first : Int} {f : Int → Option Int} {row : Option Nat} (h : Tree w B R first f n) (ht : Touches w w' row 23) : Tree w' B R first f n := by
  obtain ⟨ds, far, dv, fv, nv, hA, hf⟩ := h
  exact ⟨ds, far, dv, fv, nv, ⟨ht.block hA.reader (by simp [kind]), ht.row hA.dense (by decide), ht.far hA.farAt (by decide), ht.nodes hA.nodes (by decide), hA.small, hA.range, hA.baseR, hA.baseD, hA.baseN, hA.baseF⟩, hf⟩

theorem Tree.base {w : World} {B R n : Nat} {first : Int} {f : Int → Option Int} (h : Tree w B R first f n) : B ≤ w.heap.size := by
  obtain ⟨ds, far, dv, fv, nv, hA, hf⟩ := h
  have h1 := (Array.getElem?_eq_some_iff.1 hA.reader).1
  have h2 := hA.baseR
  omega

theorem wrap_sub {s r : Int} (h0 : r ≤ s) (h1 : s - r < 18446744073709551616) : IntKind.u64.wrap (s - r) = s - r := by
  rw [IntKind.wrap_u64]
  omega

/-- The tree that the first loop grows: 'sl' the slots added, T the last. -/
structure Grows (w wr : World) (B R : Nat) (r : Int) (k : Nat) (v : Value) (T : Int) (sl : List Int) (f : Int → Option Int) : Prop where
  tree : Tree wr B R r f sl.length
  row : wr.ownsRow 0 22 1 v sl.length (sl.map (Value.int .u64))
  based : ∀ g, v.ownBlock = some g → B ≤ g
  len0 : 0 < sl.length
  len1 : sl.length ≤ k + 1
  lo : r ≤ T
  hi : T ≤ r + 8 * k
  mem : ∀ s ∈ sl, r ≤ s ∧ s ≤ T ∧ ∃ i : Nat, f (s - r) = some (i : Int) ∧ i < sl.length
  above : ∀ x, T - r < x → f x = none
  below : Below B w wr

/-- The start: the root alone. -/
theorem Grows.start {w wr : World} {B R g : Nat} {r : Int} (hT : Tree wr B R r rootFn 1) (hbel : Below B w wr) (hg : g = wr.heap.size) :
    Grows w (wr.alloc (.cells #[.int .u64 r] 22)) B R r 0 (.slice (some ⟨g, 0, none⟩) 1 1) r [r] rootFn := by
  subst hg
  have hB := hT.base
  refine ⟨hT.later ((Below.refl _ _).alloc (Nat.le_refl _) _), World.ownsRow_lit wr #[.int .u64 r] 1 (Nat.zero_le _) (by unfold maxLen; omega) (by simp), ?_, by simp, by simp, Int.le_refl _, by omega, ?_, ?_, hbel.alloc hB _⟩
  · intro g h
    simp only [Value.ownBlock, Option.some.injEq] at h
    omega
  · intro s hs
    simp only [List.mem_singleton] at hs
    subst hs
    exact ⟨Int.le_refl _, Int.le_refl _, 0, by simp [rootFn], by simp⟩
  · intro x hx
    rw [rootFn, if_neg (by omega)]

/-- The append onto the slots added, and what becomes of the relation. -/
theorem Grows.append {w wr w1 : World} {B R k d : Nat} {r T : Int} {v : Value} {sl : List Int} {f : Int → Option Int} (h : Grows w wr B R r k v T sl f) (hk : k ≤ 1024) (hd : d ≤ 7)
    (hT1 : Tree w1 B R r (growFn f (T + 1 + d - r) sl.length) (sl.length + 1)) (hK : Keeps B wr w1) {S : Int} (hS : S = T + 1 + d) :
    ∃ v' w2, (Builtin.append_ #[30, 30] 30 #[v, .slice (some ⟨w1.heap.size, 0, none⟩) 1 1]).run Ybaf.prog (w1.alloc (.cells #[.int .u64 S] 22)) = .ok v' w2 ∧
      Hid (Grows w w2 B R r (k + 1) v' S (sl ++ [S]) (growFn f (T + 1 + d - r) sl.length)) := by
  subst hS
  have hi22 : (Ybaf.prog.info? 22).map (fun i => (i.zero, i.size, i.bytes)) = some (some (.int .u64 0), 1, 8) := by kernel_rfl
  obtain ⟨i0, hi, hz0, hz1, hz2⟩ := info_parts hi22
  have hB := h.tree.base
  have hB1 := hT1.base
  have hl1 := h.len1
  have hrow1 := (hK.row22 h.row).alloc (.cells #[.int .u64 (T + 1 + d)] 22)
  obtain ⟨v', w2, hrun, ho, hm⟩ := run_append_moved (w1.alloc (.cells #[.int .u64 (T + 1 + d)] 22)) 30 30 22 i0 (.int .u64 0) 1 8 Ybaf.underlying30 hi hz0 hz1 hz2 rfl (by decide) v sl.length _ hrow1 ⟨w1.heap.size, 0, none⟩ [.int .u64 (T + 1 + d)] rfl
    (fun q u hq => by
      match q, hq with
      | 0, hq => simp at hq; subst hq; rw [Addr.add_lit]; exact cell_new rfl rfl)
    (fun u hu => by simp at hu; subst hu; rfl) (by unfold maxLen; omega) (by omega)
  refine ⟨v', w2, hrun, ?_⟩
  obtain ⟨row, ht, hrowq⟩ := hm.touches hrow1
  have hmem := h.mem
  have hlo := h.lo
  refine ⟨?_, ?_, ?_, by simp, by simp; omega, by omega, by have := h.hi; omega, ?_, ?_, ?_⟩
  · rw [List.length_append, List.length_singleton]
    exact (hT1.later ((Below.refl _ _).alloc (Nat.le_refl _) _)).touch ht
  · rw [List.length_append, List.length_singleton, List.map_append]
    exact ho
  · intro g hg
    rcases hm with ⟨h1, _⟩ | ⟨⟨q, h1, hq⟩, _⟩
    · exact h.based g (by rw [← h1]; exact hg)
    · rw [hg] at h1
      obtain rfl := Option.some.inj h1
      simp at hq
      omega
  · intro s hs
    rcases List.mem_append.1 hs with hs | hs
    · obtain ⟨h1, h2, i, h3, h4⟩ := hmem s hs
      refine ⟨h1, by omega, i, ?_, by simp; omega⟩
      rw [growFn, if_neg (by omega)]
      exact h3
    · simp only [List.mem_singleton] at hs
      subst hs
      exact ⟨by omega, Int.le_refl _, sl.length, by rw [growFn, if_pos rfl], by simp⟩
  · intro x hx
    rw [growFn, if_neg (by omega)]
    exact h.above x (by omega)
  · have hb1 : Below B w (w1.alloc (.cells #[.int .u64 (T + 1 + d)] 22)) := (h.below.trans (hK.below hB)).alloc hB1 _
    exact hb1.grown ht.grown (by simp; omega) (fun q hq => h.based q (hrowq q hq))

end Go.Proofs.YbulkbxymFmt
