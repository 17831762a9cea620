/-
  'zzs3717cbuild' (function 7), by its contract.
-/
import Derived.Test.YbulkbxymOpen
import Derived.Test.YbulkbxymParts
namespace Go.Proofs.Ybulkbxym
open Go.RowKit

/-- A block of the law's input: passed, skip, stake. -/
abbrev Blk := Bool × Int × Int

/-- What the walk is told of the slice of blocks that came in. -/
def CameB (w : World) (a : Option Addr) (len : Nat) (zs : List Blk) : Prop :=
  len ≤ zs.length ∧ ∀ k, k < len → ∃ bb off, a = some ⟨bb, off, none⟩ ∧ w.cell? ⟨bb, off + k * 3, none⟩ = some (.bool (zs.getD k (false, 0, 0)).1) ∧ w.cell? ⟨bb, off + k * 3 + 1, none⟩ = some (.int .u64 (zs.getD k (false, 0, 0)).2.1) ∧
    w.cell? ⟨bb, off + k * 3 + 2, none⟩ = some (.int .u64 (zs.getD k (false, 0, 0)).2.2) ∧ 0 ≤ (zs.getD k (false, 0, 0)).2.1 ∧ (zs.getD k (false, 0, 0)).2.1 < 18446744073709551616

theorem CameB.later {w wr : World} {a : Option Addr} {len : Nat} {zs : List Blk} (h : CameB w a len zs) (hb : Below w.heap.size w wr) : CameB wr a len zs :=
  ⟨h.1, fun k hk => by obtain ⟨bb, off, hx, h1, h2, h3, h4⟩ := h.2 k hk; exact ⟨bb, off, hx, cell_later hb h1, cell_later hb h2, cell_later hb h3, h4⟩⟩

/-- The first k counts of the row in block g are the blocks'. -/
def Counts (w : World) (g k : Nat) (zs : List Blk) : Prop :=
  ∀ j, j < k → w.cell? ⟨g, j * 4, none⟩ = some (.int .u64 (zs.getD j (false, 0, 0)).2.2) ∧ w.cell? ⟨g, j * 4 + 1, none⟩ = some (.pointer none) ∧
    w.cell? ⟨g, j * 4 + 2, none⟩ = some (.bool (zs.getD j (false, 0, 0)).1) ∧ w.cell? ⟨g, j * 4 + 3, none⟩ = some (.int .u64 (zs.getD j (false, 0, 0)).2.1)

/-- A row of n counts in block g. -/
def RowOf (w : World) (g n : Nat) : Prop := ∃ cur, w.heap[g]? = some (.cells cur 55 (0, 0)) ∧ cur.size = n * 4

theorem Stands.kept {w w' : World} {B T : Nat} {sv : Value} {row : Option Nat} (h : Stands w B T sv) (hg : w.grownBy w' row) (hB : some B ≠ row) (hT : some T ≠ row) : Stands w' B T sv :=
  ⟨(hg.block B (Array.getElem?_eq_some_iff.1 h.tree).1 hB).trans h.tree, (hg.block T (Array.getElem?_eq_some_iff.1 h.tally).1 hT).trans h.tally⟩

theorem Stands.stored {w : World} {B T : Nat} {sv : Value} (h : Stands w B T sv) (hBT : B ≠ T) (sv' : Value) : Stands (w.setCell ⟨T, 2, none⟩ sv') B T sv' :=
  ⟨(Below.heap_setCell _ _ _ B hBT).trans h.tree, (heap_setCell_same w T 2 _ 52 _ h.tally).trans rfl⟩

theorem made_stands (w : World) :
    Stands ((w.alloc (.cells #[.slice none 0 0, .map none, .slice none 0 0, .int .u64 0] 47)).alloc (.cells #[.pointer (some ⟨w.heap.size, 0, none⟩), .pointer none, .slice none 0 0, .slice none 0 0, .int .i64 0] 52))
      w.heap.size (w.heap.size + 1) (.slice none 0 0) := by
  refine ⟨?_, ?_⟩
  · rw [Below.heap_alloc _ _ _ (by simp)]
    exact heap_alloc_new w _
  · have := heap_alloc_new (w.alloc (.cells #[.slice none 0 0, .map none, .slice none 0 0, .int .u64 0] 47)) (.cells #[.pointer (some ⟨w.heap.size, 0, none⟩), .pointer none, .slice none 0 0, .slice none 0 0, .int .i64 0] 52)
    simpa using this

/-- A count written over the k-th. -/
def putCount (w : World) (g k : Nat) (z : Blk) : World :=
  ((((w.setCell ⟨g, k * 4, none⟩ (.int .u64 z.2.2)).setCell ⟨g, k * 4 + 1, none⟩ (.pointer none)).setCell ⟨g, k * 4 + 2, none⟩ (.bool z.1)).setCell ⟨g, k * 4 + 3, none⟩ (.int .u64 z.2.1)).drew

theorem put_count {w wr : World} {N B T g k n : Nat} {zs : List Blk} {sv : Value} (hst : Stands wr B T sv) (hcnt : Counts wr g k zs) (hrow : RowOf wr g n) (hbel : Below N w wr) (hN : N ≤ g) (hgB : B ≠ g) (hgT : T ≠ g) (hk : k < n) :
    Stands (putCount wr g k (zs.getD k (false, 0, 0))) B T sv ∧ Counts (putCount wr g k (zs.getD k (false, 0, 0))) g (k + 1) zs ∧ RowOf (putCount wr g k (zs.getD k (false, 0, 0))) g n ∧ Below N w (putCount wr g k (zs.getD k (false, 0, 0))) := by
  obtain ⟨cur, hg, hcs⟩ := hrow
  generalize hz : zs.getD k (false, 0, 0) = z
  have hoth : ∀ b, b ≠ g → (putCount wr g k z).heap[b]? = wr.heap[b]? := by
    intro b hb
    show ((((wr.setCell ⟨g, k * 4, none⟩ _).setCell ⟨g, k * 4 + 1, none⟩ _).setCell ⟨g, k * 4 + 2, none⟩ _).setCell ⟨g, k * 4 + 3, none⟩ _).heap[b]? = _
    rw [Below.heap_setCell _ _ _ b hb, Below.heap_setCell _ _ _ b hb, Below.heap_setCell _ _ _ b hb, Below.heap_setCell _ _ _ b hb]
  have hnew : (putCount wr g k z).heap[g]? = some (.cells ((((cur.setIfInBounds (k * 4) (.int .u64 z.2.2)).setIfInBounds (k * 4 + 1) (.pointer none)).setIfInBounds (k * 4 + 2) (.bool z.1)).setIfInBounds (k * 4 + 3) (.int .u64 z.2.1)) 55 (0, 0)) :=
    heap_setCell_same _ g _ _ 55 _ (heap_setCell_same _ g _ _ 55 _ (heap_setCell_same _ g _ _ 55 _ (heap_setCell_same wr g _ cur 55 _ hg)))
  refine ⟨⟨(hoth B hgB).trans hst.tree, (hoth T hgT).trans hst.tally⟩, fun j hj => ?_, ⟨_, hnew, by simpa using hcs⟩, ?_⟩
  · have hc := fun o => cell_of_row (putCount wr g k z) g o _ 55 (0, 0) hnew
    by_cases hjk : j = k
    · subst hjk
      rw [hz]
      refine ⟨?_, ?_, ?_, ?_⟩ <;> (rw [hc]; simp [Array.getElem?_setIfInBounds]; omega)
    · have ho := fun o => cell_of_row wr g o _ 55 (0, 0) hg
      have h := hcnt j (by omega)
      rw [ho, ho, ho, ho] at h
      refine ⟨?_, ?_, ?_, ?_⟩ <;> (rw [hc]; simp only [Array.getElem?_setIfInBounds]; rw [if_neg (by omega), if_neg (by omega), if_neg (by omega), if_neg (by omega)])
      · exact h.1
      · exact h.2.1
      · exact h.2.2.1
      · exact h.2.2.2
  · exact ((((hbel.setCell hN _).setCell hN _).setCell hN _).setCell hN _).drew

set_option maxHeartbeats 1000000 in
theorem build_nil (c : Nat) (w : World) :
    Calls Yba.prog 7 #[.slice none 0 c] w fun e w' => e = .returned (.pointer (some ⟨w.heap.size + 1, 0, none⟩)) ∧ Stands w' w.heap.size (w.heap.size + 1) (.slice none 0 0) ∧ Below w.heap.size w w' := by
  have qn : ∀ (w : World) (a : Option Addr) (n c : Nat), (binOp .neq 33 (.slice a n c) (.slice none 0 0)).run Yba.prog w = .ok (.bool (!a.isNone)) w := fun w a n c => run_neq_slice_nil_any w _ _ a n c 0 0 Yba.underlying33
  go_enter Yba.func7, Yba.ntmps7
  go_wp2
  refine wp_loop_rounds 1 ?_
  rw [rounds_succ]
  go_wp2
  go_ret
  exact ⟨rfl, made_stands w, ((Below.refl _ _).alloc (Nat.le_refl _) _).alloc (by simp) _⟩

set_option maxHeartbeats 1000000 in
theorem build_some (x : Addr) (len cap : Nat) (zs : List Blk) (w : World) (hl : len ≤ 1024) (hcame : CameB w (some x) len zs) :
    Calls Yba.prog 7 #[.slice (some x) len cap] w fun e w' => e = .returned (.pointer (some ⟨w.heap.size + 1, 0, none⟩)) ∧ Stands w' w.heap.size (w.heap.size + 1) (.slice (some ⟨w.heap.size + 1 + 1, 0, none⟩) len len) ∧
      Counts w' (w.heap.size + 1 + 1) len zs ∧ RowOf w' (w.heap.size + 1 + 1) len ∧ Below w.heap.size w w' := by
  obtain ⟨i0, hi, hz0, hz1, hz2⟩ := info_parts Yba.info55
  have qn : ∀ (w : World) (a : Option Addr) (n c : Nat), (binOp .neq 33 (.slice a n c) (.slice none 0 0)).run Yba.prog w = .ok (.bool (!a.isNone)) w := fun w a n c => run_neq_slice_nil_any w _ _ a n c 0 0 Yba.underlying33
  have HM := hide (made_stands w)
  go_enter Yba.func7, Yba.ntmps7
  go_wp2_with (at_make; refine wpList_make_full _ rfl _ _ 49 rfl 0 55 i0 _ 4 Yba.underlying49 hi hz0 hz1 _ _ _ _ len rfl rfl rfl rfl ?b1 ?b2 ?b3 ?_)
  case b1 => rw [hz2]; omega
  case b2 => unfold maxLen; omega
  case b3 => exact Nat.zero_le _
  intro w1 hown1 hgrow1
  have hst1 : Stands w1 w.heap.size (w.heap.size + 1) (.slice none 0 0) := HM.out.kept hgrow1 (by simp) (by simp)
  have hbel1 : Below w.heap.size w w1 := (((Below.refl _ _).alloc (Nat.le_refl _) _).alloc (by simp) _).grown hgrow1 (by simp; omega) (fun _ e => by cases e)
  have hsz1 : w.heap.size + 1 + 1 < w1.heap.size := (hown1.lt _ rfl).2
  have hrow1 : RowOf w1 (w.heap.size + 1 + 1) len := by
    rcases hown1.2 with ⟨h, _⟩ | ⟨g, c, cur, h, _, hg, _, _, hcs, _⟩
    · cases h
    · simp only [Value.slice.injEq, Option.some.injEq, Addr.mk.injEq, and_true, true_and] at h
      obtain ⟨rfl, rfl⟩ := h
      exact ⟨cur, hg, hcs⟩
  clear hown1 hgrow1
  have c2 := cell_of_row w1 (w.heap.size + 1) 2 _ 52 (0, 0) hst1.tally
  have f2 := frozen_of_row w1 (w.heap.size + 1) 2 _ 52 hst1.tally
  simp at c2
  have HS1 := hide hst1
  clear hst1
  go_wp2_with fail
  go_loopw [19] (fun i wr => ∃ k : Nat, k ≤ len ∧ i = .int .i64 k ∧ Stands wr w.heap.size (w.heap.size + 1) (.slice (some ⟨w.heap.size + 1 + 1, 0, none⟩) len len) ∧
      Counts wr (w.heap.size + 1 + 1) k zs ∧ RowOf wr (w.heap.size + 1 + 1) len ∧ Below w.heap.size w wr) (fun i _ => len - (intOf i).toNat)
  case atStart =>
    refine ⟨0, Nat.zero_le _, rfl, HS1.out.stored (by omega) _, fun j hj => absurd hj (Nat.not_lt_zero j), ?_, hbel1.setCell (by simp) _⟩
    obtain ⟨cur, hg, hcs⟩ := hrow1
    exact ⟨cur, (Below.heap_setCell _ _ _ _ (by simp)).trans hg, hcs⟩
  case round =>
    clear c2 f2 HS1 hrow1 hbel1 hsz1 HM
    obtain ⟨k, hk, rfl, hst, hcnt, hrow, hbel⟩ := hrel
    by_cases hlt : k < len
    · obtain ⟨bb, off, hx, hc0, hc1, hc2, hc3, hc4⟩ := (hcame.later hbel).2 k hlt
      obtain rfl := Option.some.inj hx
      have c2 := cell_of_row wr (w.heap.size + 1) 2 _ 52 (0, 0) hst.tally
      simp at c2
      obtain ⟨cur, hg, hcs⟩ := hrow
      have e0 := cell_of_row wr (w.heap.size + 1 + 1) (k * 4) _ 55 (0, 0) hg
      have e1 := cell_of_row wr (w.heap.size + 1 + 1) (k * 4 + 1) _ 55 (0, 0) hg
      have e2 := cell_of_row wr (w.heap.size + 1 + 1) (k * 4 + 1 + 1) _ 55 (0, 0) hg
      have e3 := cell_of_row wr (w.heap.size + 1 + 1) (k * 4 + 1 + 1 + 1) _ 55 (0, 0) hg
      rw [Array.getElem?_eq_getElem (by omega)] at e0 e1 e2 e3
      have f0 := frozen_of_row wr (w.heap.size + 1 + 1) (k * 4) _ 55 hg
      have f1 := frozen_of_row wr (w.heap.size + 1 + 1) (k * 4 + 1) _ 55 hg
      have f2 := frozen_of_row wr (w.heap.size + 1 + 1) (k * 4 + 1 + 1) _ 55 hg
      have f3 := frozen_of_row wr (w.heap.size + 1 + 1) (k * 4 + 1 + 1 + 1) _ 55 hg
      have HH := hide hg
      clear hg
      go_wp2_with fail
      go_region
      have R := put_count hst hcnt ⟨cur, HH.out, hcs⟩ hbel (by omega) (by omega) (by omega) hlt
      clear hst hcnt hbel hcame hc0 hc1 hc2 c2 e0 e1 e2 e3 f0 f1 f2 f3 HH
      go_wp2
      go_roundw
      case rel => exact ⟨k + 1, by omega, by simp, R.1, R.2.1, R.2.2.1, R.2.2.2⟩
      case measure => simp [intOf]; omega
    · go_wp2
      go_ret
      have hkm : k = len := by omega
      subst hkm
      exact ⟨rfl, hst, hcnt, hrow, hbel⟩
end Go.Proofs.Ybulkbxym
