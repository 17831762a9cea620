/-
  '(*Tree).add' of a child, whole; '(*Tree).Add' (function 8) at a new slot above a known parent.
-/
import Derived.Test.YbulkbxymFmtChild
import Derived.Test.YbulkbxymFmtRootOnly
namespace Go.Proofs.YbulkbxymFmt
open Go.RowKit Go.Maps Go.ChangeMaps Go.MapKept

/-- The tree's function with one block more. -/
def growFn (f : Int → Option Int) (off : Int) (n : Nat) (x : Int) : Option Int := if x = off then some (n : Int) else f x

theorem add_child (B R n i : Nat) (first slot : Int) (f : Int → Option Int) (w : World) (hn : n ≤ 1999) (hi : i < n) (hT : Tree w B R first f n) :
    Calls Ybaf.prog 11 #[.pointer (some ⟨R, 1, none⟩), .int .u64 slot, .int .i64 i] w fun e w' => e = .returned (.tuple #[]) ∧ Tree w' B R first (growFn f (IntKind.u64.wrap (slot - first)) n) (n + 1) ∧ Keeps B w w' := by
  obtain ⟨ds, far, dv, fv, nv, hA, hf⟩ := hT
  obtain ⟨xs, hnod, hnx⟩ := hA.nodes
  obtain ⟨g, cap, rfl⟩ := own_at hnod (by omega)
  have hcell : ∀ q o, q < n → o < 4 → w.cell? ⟨g, q * 4 + o, none⟩ = xs[q * 4 + o]? := fun q o hq ho => hnod.cellAt _ (by omega)
  obtain ⟨sp, pp, j, dp, e0, e1, e2, e3, hj0, hj1⟩ := hnx i hi
  obtain ⟨jn, rfl⟩ := Int.eq_ofNat_of_zero_le hj0
  obtain ⟨sj, pj, jj, dj, f0, f1, f2, f3, hk0, hk1⟩ := hnx jn (by omega)
  obtain ⟨jjn, rfl⟩ := Int.eq_ofNat_of_zero_le hk0
  obtain ⟨_, _, _, djj, _, _, _, g3, _, _⟩ := hnx jjn (by omega)
  refine (child_walk B R n n g cap i jn jjn first slot sp pp dp sj pj dj djj ds far f dv fv w hA hf hn (by omega) hi (by omega) (by omega)
    ((hcell i 0 hi (by omega)).trans e0) ((hcell i 1 hi (by omega)).trans e1) ((hcell i 2 hi (by omega)).trans e2) ((hcell i 3 hi (by omega)).trans e3)
    ((hcell jn 0 (by omega) (by omega)).trans f0) ((hcell jn 1 (by omega) (by omega)).trans f1) ((hcell jn 2 (by omega) (by omega)).trans f2) ((hcell jn 3 (by omega) (by omega)).trans f3)
    ((hcell jjn 3 (by omega) (by omega)).trans g3)).mono ?_
  rintro e w' ⟨he, ⟨ds', far', dv', fv', nv', hT', hf'⟩, hK⟩
  exact ⟨he, ⟨ds', far', dv', fv', nv', hT', hf'⟩, hK⟩

set_option maxHeartbeats 400000 in
theorem add_any (B R n i : Nat) (first slot parent : Int) (f : Int → Option Int) (w : World) (hn : n ≤ 1999) (hi : i < n) (hT : Tree w B R first f n) (hpar : f (IntKind.u64.wrap (parent - first)) = some (i : Int)) (hlt : parent < slot)
    (hnew : f (IntKind.u64.wrap (slot - first)) = none) :
    Calls Ybaf.prog 8 #[.pointer (some ⟨R, 1, none⟩), .int .u64 slot, .int .u64 parent] w fun e w' => e = .returned .nilIface ∧ Tree w' B R first (growFn f (IntKind.u64.wrap (slot - first)) n) (n + 1) ∧ Keeps B w w' := by
  have HP := hide hpar
  have HN := hide hnew
  have hle : decide (slot ≤ parent) = false := by simp; omega
  clear hpar hnew
  have HI := hide (index_any B R n first parent f w (by omega) hT)
  have HH := hide (has_any B R n first slot f w (by omega) hT)
  rw [HP.out] at HI
  rw [HN.out] at HH
  have HC := hide (add_child B R n i first slot f w hn hi hT)
  go_enter Ybaf.func8, Ybaf.ntmps8
  go_wp2_with fail
  refine HI.out.mono ?_
  rintro e w1 ⟨⟨r, rfl, hr⟩, rfl⟩
  obtain rfl := hr _ rfl
  clear HI
  go_wp2_with fail
  refine HH.out.mono ?_
  rintro e w1 ⟨rfl, rfl⟩
  clear HH
  go_wp2_with fail
  refine HC.out.mono ?_
  rintro e w1 ⟨rfl, hT1, hK1⟩
  clear HC
  have HT1 := hide hT1
  clear hT1
  go_wp2_with fail
  go_ret
  exact ⟨rfl, HT1.out, hK1⟩

end Go.Proofs.YbulkbxymFmt
