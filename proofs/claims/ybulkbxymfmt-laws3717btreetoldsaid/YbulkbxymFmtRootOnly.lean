/-
  '(*Tree).AddRoot' (function 7); 'LawS3717BRootOnly' (function 4): the walks.
-/
import Derived.Test.YbulkbxymFmtRoot
namespace Go.Proofs.YbulkbxymFmt
open Go.RowKit Go.Maps Go.ChangeMaps Go.MapKept

/-- A new Reader. -/
theorem made_at (w : World) : TreeAt (w.alloc (.cells (readerCells (.slice none 0 0) (.map none) (.slice none 0 0) 0) 37)) w.heap.size w.heap.size 0 0 0 [] (fun _ => none) (.slice none 0 0) (.map none) (.slice none 0 0) :=
  ⟨heap_alloc_new w _, World.ownsRow_nil _ _ _ _, .inl ⟨rfl, fun _ => rfl⟩, ⟨[], World.ownsRow_nil _ _ _ _, fun i hi => absurd hi (Nat.not_lt_zero i)⟩, by simp, fun z hz => (by cases hz), Nat.le_refl _, fun g h => (by cases h), fun g h => (by cases h), fun m h => (by cases h)⟩

theorem made_ix (x : Int) (hx : (Lit.int .u64 x).wf = true) : ixAt [] (fun _ => none) x = none := by
  have hb := bounds_u64 hx
  rw [ixAt, if_neg]
  rintro ⟨h, _⟩
  simp at h
  omega

/-- The tree of a root alone. -/
def rootFn (x : Int) : Option Int := if x = 0 then some 0 else none

set_option maxHeartbeats 400000 in
theorem addRoot_any (B R : Nat) (first slot : Int) (ds : List Int) (far : Int → Option Int) (dv fv : Value) (w : World) (hA : TreeAt w B R first 0 0 ds far dv fv (.slice none 0 0)) (hf : ∀ x, (Lit.int .u64 x).wf = true → ixAt ds far x = none) :
    Calls Ybaf.prog 7 #[.pointer (some ⟨R, 1, none⟩), .int .u64 slot] w fun e w' => e = .returned .nilIface ∧ Tree w' B R slot rootFn 1 ∧ Keeps B w w' := by
  have c3 := cell_of_row w R 3 _ 37 (0, 0) hA.reader
  simp [readerCells] at c3
  have HA := hide hA
  have HF := hide hf
  clear hA hf
  go_enter Ybaf.func7, Ybaf.ntmps7
  go_wp2_with fail
  refine (add_root B R first slot ds far dv fv w HA.out HF.out).mono ?_
  rintro e w1 ⟨rfl, hT, hK⟩
  go_wp2_with fail
  go_ret
  exact ⟨rfl, hT, hK⟩

theorem wrap_self (x : Int) : IntKind.u64.wrap (x - x) = 0 := by rw [Int.sub_self]; rfl

theorem wrap_ne {x y : Int} (hx : (Lit.int .u64 x).wf = true) (hy : (Lit.int .u64 y).wf = true) (h : x ≠ y) : IntKind.u64.wrap (x - y) ≠ 0 := by
  have h1 := bounds_u64 hx
  have h2 := bounds_u64 hy
  rw [IntKind.wrap_u64]
  omega

set_option maxHeartbeats 1000000 in
theorem rootOnly_walk (root probe : Int) (w : World) (h0 : (Lit.int .u64 root).wf = true) (h1 : (Lit.int .u64 probe).wf = true) :
    Calls Ybaf.prog 4 #[.int .u64 root, .int .u64 probe] w fun e w' => e = .returned (.bool true) ∧ Below w.heap.size w w' := by
  have HM := hide (made_at w)
  by_cases hp : probe = root
  · subst hp
    go_enter Ybaf.func4, Ybaf.ntmps4
    go_wp2_with fail
    refine (addRoot_any w.heap.size w.heap.size 0 probe _ _ _ _ _ HM.out made_ix).mono ?_
    rintro e w1 ⟨rfl, hT, hK⟩
    go_wp2_with fail
    refine (known_yes w.heap.size w.heap.size 1 probe probe rootFn w1 (by omega) hT (by rw [wrap_self]; rfl)).mono ?_
    rintro e w2 ⟨rfl, rfl⟩
    go_wp2_with fail
    refine (known_yes w.heap.size w.heap.size 1 probe probe rootFn w1 (by omega) hT (by rw [wrap_self]; rfl)).mono ?_
    rintro e w2 ⟨rfl, rfl⟩
    go_wp2_with fail
    go_ret
    exact ⟨rfl, ((Below.refl _ _).alloc (Nat.le_refl _) _).trans (hK.below (by simp))⟩
  · have hpb : (probe == root) = false := beq_eq_false_iff_ne.2 hp
    go_enter Ybaf.func4, Ybaf.ntmps4
    go_wp2_with fail
    refine (addRoot_any w.heap.size w.heap.size 0 root _ _ _ _ _ HM.out made_ix).mono ?_
    rintro e w1 ⟨rfl, hT, hK⟩
    go_wp2_with fail
    refine (known_yes w.heap.size w.heap.size 1 root root rootFn w1 (by omega) hT (by rw [wrap_self]; rfl)).mono ?_
    rintro e w2 ⟨rfl, rfl⟩
    go_wp2_with fail
    refine (known_no w.heap.size w.heap.size 1 root probe rootFn w1 (by omega) hT (by rw [rootFn, if_neg (wrap_ne h1 h0 hp)]; rfl)).mono ?_
    rintro e w2 ⟨⟨a, rfl⟩, hb⟩
    go_wp2_with fail
    go_ret
    have hb1 : Below w.heap.size w w1 := ((Below.refl _ _).alloc (Nat.le_refl _) _).trans (hK.below (by simp))
    exact ⟨rfl, hb1.trans (hb.mono hb1.size)⟩

end Go.Proofs.YbulkbxymFmt
