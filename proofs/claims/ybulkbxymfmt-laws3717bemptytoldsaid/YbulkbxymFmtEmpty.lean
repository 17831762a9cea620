/-
  'LawS3717BEmpty' (function 3): the walk.
-/
import Derived.Test.YbulkbxymFmtTree
namespace Go.Proofs.YbulkbxymFmt
open Go.RowKit

/-- A new Reader: a tree without a block. -/
theorem tree_made (w : World) : Tree (w.alloc (.cells (readerCells (.slice none 0 0) (.map none) (.slice none 0 0) 0) 37)) w.heap.size w.heap.size 0 (fun _ => none) 0 := by
  refine ⟨[], fun _ => none, _, _, _, ⟨heap_alloc_new w _, World.ownsRow_nil _ _ _ _, .inl ⟨rfl, fun _ => rfl⟩, ⟨[], World.ownsRow_nil _ _ _ _, fun i hi => absurd hi (Nat.not_lt_zero i)⟩, by simp, fun z hz => (by cases hz), Nat.le_refl _, fun g h => (by cases h), fun g h => (by cases h), fun m h => (by cases h)⟩, fun x hx => ?_⟩
  have hb := bounds_u64 hx
  rw [ixAt, if_neg]
  rintro ⟨h, _⟩
  simp at h
  omega

set_option maxHeartbeats 400000 in
theorem empty_walk (slot : Int) (w : World) : Calls Ybaf.prog 3 #[.int .u64 slot] w fun e w' => e = .returned (.bool true) ∧ Below w.heap.size w w' := by
  have HT := hide (tree_made w)
  go_enter Ybaf.func3, Ybaf.ntmps3
  go_wp2_with fail
  refine (known_no w.heap.size w.heap.size 0 0 slot (fun _ => none) _ (by omega) HT.out rfl).mono ?_
  rintro e w1 ⟨⟨a, rfl⟩, hb⟩
  go_wp2_with fail
  go_ret
  exact ⟨rfl, ((Below.refl _ _).alloc (Nat.le_refl _) _).trans (hb.mono (by simp))⟩

end Go.Proofs.YbulkbxymFmt
