/-
  '(*Tree).index' (function 15) where the block goes into the far map.
-/
import Derived.Test.YbulkbxymFmtTree
namespace Go.Proofs.YbulkbxymFmt
open Go.RowKit Go.Maps Go.ChangeMaps Go.MapKept

set_option maxHeartbeats 1000000 in
set_option maxRecDepth 100000 in
theorem put_far_some (R D cap n capn m k : Nat) (ad an : Option Addr) (dat : DataW Unit) (first slot pos off : Int) (w : World) (hR : w.heap[R]? = some (.cells (readerCells (.slice ad D cap) (.map (some m)) (.slice an n capn) first) 37 (0, 0)))
    (hoff : IntKind.u64.wrap (slot - first) = off) (hwf : (Lit.int .u64 off).wf = true) (hD : D ≤ 2 * n + 1024) (hn : n ≤ 2000) (hge : 2 * (n : Int) + 1024 ≤ off) (hp0 : 0 ≤ pos) (hp1 : pos ≤ 10000)
    (hk : k ≤ 10000) (hown : w.ownsMap Ybaf.prog 22 (plainElem Ybaf.prog 3) m k dat) :
    Calls Ybaf.prog 15 #[.pointer (some ⟨R, 1, none⟩), .int .u64 slot, .int .i64 pos] w fun e w' => e = .returned (.tuple #[]) ∧
      w'.ownsMap Ybaf.prog 22 (plainElem Ybaf.prog 3) m (k + 1) (dat.put (.int .u64 off) (.lit (.int .i64 pos))) ∧ w.grownBy w' (some m) := by
  have qe : ∀ (w : World) (r : Option Nat), (binOp .eql 25 (.map r) (.map none)).run Ybaf.prog w = .ok (.bool r.isNone) w := fun w r => run_eql_map_nil w _ _ _ r Ybaf.underlying25
  have c1 := cell_of_row w R 1 _ 37 (0, 0) hR
  have c2 := cell_of_row w R 2 _ 37 (0, 0) hR
  have c3 := cell_of_row w R 3 _ 37 (0, 0) hR
  have c4 := cell_of_row w R 4 _ 37 (0, 0) hR
  simp [readerCells] at c1 c2 c3 c4
  clear hR
  have HK := hide (keyOf_int_mk (P := Ybaf.prog) Ybaf.underlying22 hwf)
  have hwp : (Lit.int .i64 pos).wf = true := WalkArith.wf_i64 (by omega)
  go_enter Ybaf.func15, Ybaf.ntmps15
  go_wp2_with (at_mapUpdate; refine wpList_mapUpdate_own _ rfl _ _ _ 25 rfl 22 3 law22 Ybaf.underlying25 _ m k _ rfl hown (by unfold maxLen; omega) _ _ _ rfl rfl HK.out _ [] (plainElem_int Ybaf.underlying3 hwp) ?_)
  intro w1 hown1 hgrow1
  go_wp2
  go_end0
  exact ⟨rfl, hown1, hgrow1⟩

set_option maxHeartbeats 1000000 in
set_option maxRecDepth 100000 in
theorem put_far_nil (R D cap n capn : Nat) (ad an : Option Addr) (first slot pos off : Int) (w : World) (hR : w.heap[R]? = some (.cells (readerCells (.slice ad D cap) (.map none) (.slice an n capn) first) 37 (0, 0)))
    (hoff : IntKind.u64.wrap (slot - first) = off) (hwf : (Lit.int .u64 off).wf = true) (hD : D ≤ 2 * n + 1024) (hn : n ≤ 2000) (hge : 2 * (n : Int) + 1024 ≤ off) (hp0 : 0 ≤ pos) (hp1 : pos ≤ 10000) :
    Calls Ybaf.prog 15 #[.pointer (some ⟨R, 1, none⟩), .int .u64 slot, .int .i64 pos] w fun e w' => e = .returned (.tuple #[]) ∧
      w'.ownsMap Ybaf.prog 22 (plainElem Ybaf.prog 3) w.heap.size 1 ((DataW.map [] : DataW Unit).put (.int .u64 off) (.lit (.int .i64 pos))) ∧
      ((w.setCell ⟨R, 2, none⟩ (.map (some w.heap.size))).alloc (.map #[] 0)).grownBy w' (some w.heap.size) := by
  have qe : ∀ (w : World) (r : Option Nat), (binOp .eql 25 (.map r) (.map none)).run Ybaf.prog w = .ok (.bool r.isNone) w := fun w r => run_eql_map_nil w _ _ _ r Ybaf.underlying25
  have hmm := @run_makeMap Ybaf.prog
  have c1 := cell_of_row w R 1 _ 37 (0, 0) hR
  have c2 := cell_of_row w R 2 _ 37 (0, 0) hR
  have c3 := cell_of_row w R 3 _ 37 (0, 0) hR
  have c4 := cell_of_row w R 4 _ 37 (0, 0) hR
  have f2 := frozen_of_row w R 2 _ 37 hR
  have hRl : R < w.heap.size := (Array.getElem?_eq_some_iff.1 hR).1
  simp [readerCells] at c1 c2 c3 c4
  clear hR
  have HK := hide (keyOf_int_mk (P := Ybaf.prog) Ybaf.underlying22 hwf)
  have hwp : (Lit.int .i64 pos).wf = true := WalkArith.wf_i64 (by omega)
  have HO : Hid (((w.setCell ⟨R, 2, none⟩ (.map (some w.heap.size))).alloc (.map #[] 0)).ownsMap (H := Unit) Ybaf.prog 22 (plainElem Ybaf.prog 3) w.heap.size 0 (.map [])) := by
    have := World.ownsMap_made (H := Unit) (w.setCell ⟨R, 2, none⟩ (.map (some w.heap.size))) Ybaf.prog 22 (plainElem Ybaf.prog 3)
    rwa [show (w.setCell ⟨R, 2, none⟩ (.map (some w.heap.size))).heap.size = w.heap.size by simp] at this
  go_enter Ybaf.func15, Ybaf.ntmps15
  go_wp2_with (at_mapUpdate; refine wpList_mapUpdate_own _ rfl _ _ _ 25 rfl 22 3 law22 Ybaf.underlying25 _ w.heap.size 0 _ rfl HO.out (by unfold maxLen; omega) _ _ _ rfl rfl HK.out _ [] (plainElem_int Ybaf.underlying3 hwp) ?_)
  intro w1 hown1 hgrow1
  go_wp2
  go_end0
  exact ⟨rfl, hown1, hgrow1⟩

end Go.Proofs.YbulkbxymFmt
