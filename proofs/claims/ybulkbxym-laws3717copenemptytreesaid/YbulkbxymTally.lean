/-
  '(*Tree).Index' of an empty tree (function 11), '(*tally).count' over it (function 10), by their contracts.
-/
import Derived.Test.YbulkbxymZeros
import Derived.WalkSpells
import Derived.Outline
import Derived.BigRegion
import Derived.Deep.QuietTactic
import Derived.BigQuiet
namespace Go.Proofs.Ybulkbxym
open Go.RowKit

/-- The empty fork tree, in block B; the tally over it, in block T, its counts the slice sv. -/
structure Stands (w : World) (B T : Nat) (sv : Value) : Prop where
  tree : w.heap[B]? = some (.cells #[.slice none 0 0, .map none, .slice none 0 0, .int .u64 0] 47 (0, 0))
  tally : w.heap[T]? = some (.cells #[.pointer (some ⟨B, 0, none⟩), .pointer none, sv, .slice none 0 0, .int .i64 0] 52 (0, 0))

theorem look_far (n : Int) (w : World) : (Instr.lookup 44 (.map none) (.int .u64 n) true).run Yba.prog w = .ok (.tuple #[.int .i64 0, .bool false]) w := by kernel_rfl

set_option maxHeartbeats 400000 in
theorem index_empty (B T : Nat) (sv : Value) (b : Int) (w : World) (h0 : 0 ≤ b) (h1 : b < 18446744073709551616) (hs : Stands w B T sv) :
    Calls Yba.prog 11 #[.pointer (some ⟨B, 0, none⟩), .int .u64 b] w fun e w' => e = .returned (.tuple #[.int .i64 0, .bool false]) ∧ w = w' := by
  have c0 := cell_of_row w B 0 _ 47 (0, 0) hs.tree
  have c1 := cell_of_row w B 1 _ 47 (0, 0) hs.tree
  have c3 := cell_of_row w B 3 _ 47 (0, 0) hs.tree
  simp at c0 c1 c3
  clear hs
  have hl := look_far b
  have hd : decide (b < 0) = false := by simp; omega
  go_enter Yba.func11, Yba.ntmps11
  go_wp2
  go_ret2
  exact ⟨rfl, rfl⟩

theorem Yba.info55 : (Yba.prog.info? 55).map (fun i => (i.zero, i.size, i.bytes)) = some (some (.agg #[.int .u64 0, .pointer none, .bool false, .int .u64 0]), 4, 32) := by kernel_rfl

set_option maxHeartbeats 400000 in
theorem count_some (B T g n cap : Nat) (b : Int) (w : World) (h0 : 0 ≤ b) (h1 : b < 18446744073709551616) (hn : 0 < n) (hs : Stands w B T (.slice (some ⟨g, 0, none⟩) n cap)) :
    Calls Yba.prog 10 #[.pointer (some ⟨T, 0, none⟩), .int .u64 b] w fun e w' => e = .returned (.pointer (some ⟨g, 0, none⟩)) ∧ w = w' := by
  have c0 := cell_of_row w T 0 _ 52 (0, 0) hs.tally
  have c2 := cell_of_row w T 2 _ 52 (0, 0) hs.tally
  simp at c0 c2
  have hd : decide ((n : Int) ≤ 0) = false := by simp; omega
  have hn' : (0 : Int) < n := by omega
  go_enter Yba.func10, Yba.ntmps10
  go_wp2_with (go_at_call 11; refine (index_empty B T _ b _ h0 h1 hs).mono ?_; rintro e w' ⟨rfl, rfl⟩)
  go_ret
  exact ⟨rfl, rfl⟩

/-- The row that 'append(t.blocks, make([]count, 1)...)' makes where there was none. -/
def grownRow (w : World) : Obj := .cells (#[.int .u64 0, .pointer none, .bool false, .int .u64 0] ++ Builtin.zeroCells #[.int .u64 0, .pointer none, .bool false, .int .u64 0] (grownCap w 1 0 55 - 1)) 55

theorem append_one (ao : Option Addr) (w : World) :
    (Builtin.append_ #[49, 3] 49 #[.slice ao 0 0, .int .i64 1]).run Yba.prog w = .ok (.slice (some ⟨w.heap.size, 0, none⟩) 1 (grownCap w 1 0 55)) (w.drew.alloc (grownRow w)) := by
  obtain ⟨i0, hi, hz0, hz1, hz2⟩ := info_parts Yba.info55
  have hold : (Builtin.firstCells i0.size 0 (.slice ao 0 0)).run Yba.prog w.drew = .ok ([] : List Value).toArray w.drew := by
    cases ao with
    | none => exact run_firstCells_none w.drew _ 0 0 0
    | some a => exact run_firstCells_some w.drew _ 0 a 0 0 [] (by simp) (fun j v h => by simp at h)
  have := run_append_zeros_grow (P := Yba.prog) w 49 3 49 55 i0 _ .i64 .i64 Yba.underlying49 Yba.underlying3 hi hz0 (by omega) ao 0 0 [] hold 1 (by decide) (by decide) (by decide) (by rw [hz2]; decide) (by rw [hz2, nextslicecap_zero (by decide)]; decide)
  rw [show ((1 : Nat) : Int) = 1 from rfl] at this
  rw [this]
  rw [show (Value.agg #[.int .u64 0, .pointer none, .bool false, .int .u64 0]).cells = #[.int .u64 0, .pointer none, .bool false, .int .u64 0] from rfl,
    show Builtin.zeroCells #[.int .u64 0, .pointer none, .bool false, .int .u64 0] 1 = #[.int .u64 0, .pointer none, .bool false, .int .u64 0] from by kernel_rfl]
  simp only [Nat.zero_add, grownRow, Array.empty_append]

/-- The counts' row, as the walk reads it: n counts, each of four cells. -/
abbrev zeroCount : List Value := [.int .u64 0, .pointer none, .bool false, .int .u64 0]

theorem grown_stands {w : World} {B T cap : Nat} {sv : Value} {x : World} (hs : Stands w B T sv) (hBT : B ≠ T) :
    Stands ((w.setCell ⟨T, 2, none⟩ (.slice (some ⟨w.heap.size, 0, none⟩) 1 cap)).alloc (grownRow x)).drew.drew B T (.slice (some ⟨w.heap.size, 0, none⟩) 1 cap) ∧
    w.grownBy ((w.setCell ⟨T, 2, none⟩ (.slice (some ⟨w.heap.size, 0, none⟩) 1 cap)).alloc (grownRow x)).drew.drew (some T) ∧
    ((w.setCell ⟨T, 2, none⟩ (.slice (some ⟨w.heap.size, 0, none⟩) 1 cap)).alloc (grownRow x)).drew.drew.heap[w.heap.size]? = some (grownRow x) := by
  have hT : T < w.heap.size := (Array.getElem?_eq_some_iff.1 hs.tally).1
  have hB : B < w.heap.size := (Array.getElem?_eq_some_iff.1 hs.tree).1
  have hsz : (w.setCell ⟨T, 2, none⟩ (.slice (some ⟨w.heap.size, 0, none⟩) 1 cap)).heap.size = w.heap.size := by simp
  refine ⟨⟨?_, ?_⟩, ⟨rfl, rfl, rfl, ?_, fun k hk hne => ?_⟩, ?_⟩
  · show ((w.setCell ⟨T, 2, none⟩ _).alloc _).heap[B]? = _
    rw [Below.heap_alloc _ _ B (by omega), Below.heap_setCell _ _ _ B hBT]
    exact hs.tree
  · show ((w.setCell ⟨T, 2, none⟩ _).alloc _).heap[T]? = _
    rw [Below.heap_alloc _ _ T (by omega), heap_setCell_same w T 2 _ 52 _ hs.tally]
    rfl
  · show w.heap.size ≤ ((w.setCell ⟨T, 2, none⟩ _).alloc _).heap.size
    simp
  · show ((w.setCell ⟨T, 2, none⟩ _).alloc _).heap[k]? = _
    rw [Below.heap_alloc _ _ k (by omega), Below.heap_setCell _ _ _ k (fun e => hne (by rw [e]))]
  · show ((w.setCell ⟨T, 2, none⟩ (.slice (some ⟨w.heap.size, 0, none⟩) 1 cap)).alloc _).heap[w.heap.size]? = _
    have := heap_alloc_new (w.setCell ⟨T, 2, none⟩ (.slice (some ⟨w.heap.size, 0, none⟩) 1 cap)) (grownRow x)
    rwa [hsz] at this

set_option maxHeartbeats 1000000 in
theorem count_none (B T : Nat) (ao : Option Addr) (b : Int) (w : World) (h0 : 0 ≤ b) (h1 : b < 18446744073709551616) (hBT : B ≠ T) (hs : Stands w B T (.slice ao 0 0)) :
    Calls Yba.prog 10 #[.pointer (some ⟨T, 0, none⟩), .int .u64 b] w fun e w' => e = .returned (.pointer (some ⟨w.heap.size, 0, none⟩)) ∧ ∃ cap x, Stands w' B T (.slice (some ⟨w.heap.size, 0, none⟩) 1 cap) ∧
      w.grownBy w' (some T) ∧ w'.heap[w.heap.size]? = some (grownRow x) := by
  have c0 := cell_of_row w T 0 _ 52 (0, 0) hs.tally
  have c2 := cell_of_row w T 2 _ 52 (0, 0) hs.tally
  have f2 := frozen_of_row w T 2 _ 52 hs.tally
  have hT : T < w.heap.size := (Array.getElem?_eq_some_iff.1 hs.tally).1
  simp at c0 c2
  go_enter Yba.func10, Yba.ntmps10
  go_wp2_with (go_at_call 11; refine (index_empty B T _ b _ h0 h1 hs).mono ?_; rintro e w' ⟨rfl, rfl⟩)
  go_region_law (refine step_append_run rfl (.tmp 27) (.tmp 35) 49 3 rfl _ _ rfl rfl _ _ (append_one ao _) ?_)
  all_goals
    go_wp2
    go_ret
    have hg := grown_stands (cap := grownCap w.drew 1 0 55) (x := w.drew) hs hBT
    exact ⟨rfl, _, _, hg.1, hg.2.1, hg.2.2⟩
end Go.Proofs.Ybulkbxym
