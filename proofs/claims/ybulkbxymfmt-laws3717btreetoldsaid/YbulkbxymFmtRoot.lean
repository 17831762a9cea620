/-
  '(*Tree).add' (function 11) of the root; '(*Tree).AddRoot' (function 7); 'LawS3717BRootOnly' (function 4): the walks.
-/
import Derived.Test.YbulkbxymFmtAdd
namespace Go.Proofs.YbulkbxymFmt
open Go.RowKit Go.Maps Go.ChangeMaps Go.MapKept

/-- The Reader's tree as it was made, its root's slot set. -/
theorem first_set {w : World} {B R : Nat} {first slot : Int} {ds : List Int} {far : Int → Option Int} {dv fv nv : Value} {n k : Nat} (hA : TreeAt w B R first n k ds far dv fv nv) :
    TreeAt (w.setCell ⟨R, 4, none⟩ (.int .u64 slot)) B R slot n k ds far dv fv nv ∧ Keeps B w (w.setCell ⟨R, 4, none⟩ (.int .u64 slot)) := by
  have ht : Touches w (w.setCell ⟨R, 4, none⟩ (.int .u64 slot)) (some R) 38 := touches_setCell hA.reader
  exact ⟨⟨heap_setCell_same w R 4 _ 37 _ hA.reader, ht.row hA.dense (by decide), ht.far hA.farAt (by decide), ht.nodes hA.nodes (by decide), hA.small, hA.range, hA.baseR, hA.baseD, hA.baseN, hA.baseF⟩,
    Keeps.touch ht (fun q hq => by simp at hq; have := hA.baseR; omega) (.inr (.inr (.inl rfl)))⟩

set_option maxHeartbeats 1000000 in
set_option maxRecDepth 100000 in
theorem add_root (B R : Nat) (first slot : Int) (ds : List Int) (far : Int → Option Int) (dv fv : Value) (w : World) (hA : TreeAt w B R first 0 0 ds far dv fv (.slice none 0 0)) (hf : ∀ x, (Lit.int .u64 x).wf = true → ixAt ds far x = none) :
    Calls Ybaf.prog 11 #[.pointer (some ⟨R, 1, none⟩), .int .u64 slot, .int .i64 (-1)] w fun e w' => e = .returned (.tuple #[]) ∧ Tree w' B R slot (fun x => if x = 0 then some 0 else none) 1 ∧ Keeps B w w' := by
  have c3 := cell_of_row w R 3 _ 37 (0, 0) hA.reader
  have c4 := cell_of_row w R 4 _ 37 (0, 0) hA.reader
  have f4 := frozen_of_row w R 4 _ 37 hA.reader
  have f3 := frozen_of_row w R 3 _ 37 hA.reader
  have hRl : R < w.heap.size := (Array.getElem?_eq_some_iff.1 hA.reader).1
  have HA := hide (first_set (slot := slot) hA)
  have HF := hide hf
  simp [readerCells] at c3 c4
  clear hA hf
  go_enter Ybaf.func11, Ybaf.ntmps11
  go_wp2
  go_region
  go_wp2
  go_region_law (refine step_append_some rfl (.tmp 81) (.tmp 83) 26 26 rfl (.slice none 0 0) (.slice (some ⟨w.heap.size + 1, 0, none⟩) 1 1) rfl rfl (node_run (s := slot) (p := 0) (j := 0) (d := 0) HA.out.1 (by repeat (first | exact World.grownBy.refl _ _ | apply gn_drew | apply gn_alloc)) (by omega) (by simp; exact cell_new (by simp) rfl) (by simp; exact cell_new (by simp) rfl) (by simp; exact cell_new (by simp) rfl) (by simp; exact cell_new (by simp) rfl) (by omega) (by omega)) ?_; rintro v' w1 ⟨g', c', hv, c3', f3', HT⟩; subst hv)
  all_goals
    go_wp2_with fail
    refine (put_any B R 1 0 slot slot 0 (fun _ => none) ds far dv fv _ _ (by omega) (by omega) HT.out.1 HF.out (by omega) (by omega)).mono ?_
    rintro e w2 ⟨rfl, ⟨ds', far', dv', fv', hT2, hf2⟩, hk2⟩
    have hz : IntKind.u64.wrap (slot - slot) = 0 := by rw [Int.sub_self]; rfl
    rw [hz] at hf2
    have hT : Tree w2 B R slot (fun x => if x = 0 then some 0 else Option.none) 1 := ⟨ds', far', dv', fv', _, hT2, hf2⟩
    have hK : Keeps B w w2 := (HA.out.2.trans HT.out.2).trans hk2
    clear hf2 hT2 hk2 HT HF HA hz
    go_wp2_with fail
    go_end0
    exact ⟨rfl, hT, hK⟩

end Go.Proofs.YbulkbxymFmt
