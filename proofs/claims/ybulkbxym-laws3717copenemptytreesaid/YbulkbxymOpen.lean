/-
  '(*tally).open' (function 8) over an empty tree, by its contract.
-/
import Derived.Test.YbulkbxymTally
namespace Go.Proofs.Ybulkbxym
open Go.RowKit

/-- A store of what a cell holds turns nothing. -/
theorem setCell_held (w : World) (g i : Nat) (cs : Array Value) (t : TypeId) (v : Value) (hg : w.heap[g]? = some (.cells cs t (0, 0))) (hv : cs[i]? = some v) : w.setCell ⟨g, i, none⟩ v = w := by
  have hcs : cs.setIfInBounds i v = cs := by
    apply Array.ext_getElem?
    intro j
    rw [Array.getElem?_setIfInBounds]
    split
    · subst_vars
      split
      · exact hv.symm
      · rename_i h
        rw [Array.getElem?_eq_none (by omega)]
    · rfl
  have : (w.setCell ⟨g, i, none⟩ v).heap = w.heap := by
    apply Array.ext_getElem?
    intro j
    by_cases hj : j = g
    · subst hj
      rw [heap_setCell_same w j i cs t v hg, hcs, hg]
    · exact heap_setCell_other w _ j v hj
  show { w with heap := (w.setCell ⟨g, i, none⟩ v).heap } = w
  rw [this]

set_option maxHeartbeats 400000 in
theorem open_shut (B T g n cap : Nat) (b : Int) (w : World) (h0 : 0 ≤ b) (h1 : b < 18446744073709551616) (hn : 0 < n) (hs : Stands w B T (.slice (some ⟨g, 0, none⟩) n cap))
    (hp : w.cell? ⟨g, 2, none⟩ = some (.bool false)) :
    Calls Yba.prog 8 #[.pointer (some ⟨T, 0, none⟩), .int .u64 b] w fun e w' => e = .returned (.tuple #[.int .u64 b, .bool true]) ∧ w = w' := by
  go_enter Yba.func8, Yba.ntmps8
  go_wp2_with (go_at_call 10; refine (count_some B T g n cap b _ h0 h1 hn hs).mono ?_; rintro e w' ⟨rfl, rfl⟩)
  refine wp_loop_rounds 1 ?_
  rw [rounds_succ]
  go_wp2
  refine wp_loop_rounds 1 ?_
  rw [rounds_succ]
  go_wp2
  go_ret2
  exact ⟨rfl, rfl⟩

set_option maxHeartbeats 400000 in
theorem open_self (B T g n cap : Nat) (b : Int) (w : World) (h0 : 0 ≤ b) (h1 : b < 18446744073709551616) (hn : 0 < n) (hs : Stands w B T (.slice (some ⟨g, 0, none⟩) n cap))
    (hp : w.cell? ⟨g, 2, none⟩ = some (.bool true)) (hk : w.cell? ⟨g, 3, none⟩ = some (.int .u64 b)) :
    Calls Yba.prog 8 #[.pointer (some ⟨T, 0, none⟩), .int .u64 b] w fun e w' => e = .returned (.tuple #[.int .u64 b, .bool false]) ∧ w = w' := by
  go_enter Yba.func8, Yba.ntmps8
  go_wp2_with (go_at_call 10; refine (count_some B T g n cap b _ h0 h1 hn hs).mono ?_; rintro e w' ⟨rfl, rfl⟩)
  refine wp_loop_rounds 1 ?_
  rw [rounds_succ]
  go_wp2
  refine wp_loop_rounds 1 ?_
  rw [rounds_succ]
  go_wp2
  go_ret2
  exact ⟨rfl, rfl⟩

set_option maxHeartbeats 1000000 in
theorem open_skip (B T g n cap : Nat) (cur : Array Value) (b s : Int) (w : World) (h0 : 0 ≤ b) (h1 : b < 18446744073709551616) (hs0 : 0 ≤ s) (hs1 : s < 18446744073709551616) (hbs : b ≠ s) (hn : 0 < n)
    (hs : Stands w B T (.slice (some ⟨g, 0, none⟩) n cap)) (hg : w.heap[g]? = some (.cells cur 55 (0, 0))) (hp : cur[2]? = some (.bool true)) (hk : cur[3]? = some (.int .u64 s)) :
    Calls Yba.prog 8 #[.pointer (some ⟨T, 0, none⟩), .int .u64 b] w fun e w' => e = .returned (.tuple #[.int .u64 s, .bool false]) ∧ w = w' := by
  have cp := (cell_of_row w g 2 _ 55 (0, 0) hg).trans hp
  have ck := (cell_of_row w g 3 _ 55 (0, 0) hg).trans hk
  have fk := frozen_of_row w g 3 _ 55 hg
  have hset := setCell_held w g 3 cur 55 _ hg hk
  have hne1 : (s != b) = true := by rw [bne_iff_ne]; omega
  have hne2 : (b != s) = true := by rw [bne_iff_ne]; omega
  clear hp hk hg
  go_enter Yba.func8, Yba.ntmps8
  go_wp2_with (go_at_call 10; refine (count_some B T g n cap b _ h0 h1 hn hs).mono ?_; rintro e w' ⟨rfl, rfl⟩)
  refine wp_loop_rounds 2 ?_
  rw [rounds_succ]
  go_wp2_with (go_at_call 10; refine (count_some B T g n cap s _ hs0 hs1 hn hs).mono ?_; rintro e w' ⟨rfl, rfl⟩)
  rw [rounds_succ]
  go_wp2
  refine wp_loop_rounds 2 ?_
  rw [rounds_succ]
  go_wp2_with (go_at_call 10; refine (count_some B T g n cap b _ h0 h1 hn hs).mono ?_; rintro e w' ⟨rfl, rfl⟩)
  rw [rounds_succ]
  go_wp2
  go_ret2
  exact ⟨rfl, rfl⟩

set_option maxHeartbeats 1000000 in
theorem open_none (B T : Nat) (ao : Option Addr) (b : Int) (w : World) (h0 : 0 ≤ b) (h1 : b < 18446744073709551616) (hBT : B ≠ T) (hs : Stands w B T (.slice ao 0 0)) :
    Calls Yba.prog 8 #[.pointer (some ⟨T, 0, none⟩), .int .u64 b] w fun e w' => e = .returned (.tuple #[.int .u64 b, .bool true]) ∧ ∃ cap x, Stands w' B T (.slice (some ⟨w.heap.size, 0, none⟩) 1 cap) ∧
      w.grownBy w' (some T) ∧ w'.heap[w.heap.size]? = some (grownRow x) := by
  go_enter Yba.func8, Yba.ntmps8
  go_wp2_with (go_at_call 10; refine (count_none B T ao b _ h0 h1 hBT hs).mono ?_; rintro e w1 ⟨rfl, cap, x, hs1, hg1, hx1⟩; have hp := cell_of_row w1 w.heap.size 2 _ 55 (0, 0) hx1; rw [show (#[Value.int .u64 0, .pointer none, .bool false, .int .u64 0] ++ Builtin.zeroCells #[Value.int .u64 0, .pointer none, .bool false, .int .u64 0] (grownCap x 1 0 55 - 1))[2]? = some (.bool false) from by rw [Array.getElem?_append_left (by simp)]; rfl] at hp)
  refine wp_loop_rounds 1 ?_
  rw [rounds_succ]
  go_wp2
  refine wp_loop_rounds 1 ?_
  rw [rounds_succ]
  go_wp2
  go_ret2
  exact ⟨rfl, cap, x, hs1, hg1, hx1⟩

end Go.Proofs.Ybulkbxym
