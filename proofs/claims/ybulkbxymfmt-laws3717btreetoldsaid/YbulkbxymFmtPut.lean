/-
  '(*Tree).index' (function 15), by its contract.
-/
import Derived.Test.YbulkbxymFmtEmpty
import Derived.Test.YbulkbxymFmtZeros
namespace Go.Proofs.YbulkbxymFmt
open Go.RowKit Go.Maps Go.ChangeMaps Go.MapKept

set_option maxHeartbeats 400000 in
set_option maxRecDepth 100000 in
/-- The offset lies in the dense row. -/
theorem put_dense (R g D cap n capn : Nat) (an : Option Addr) (fv : Value) (first slot pos : Int) (off : Nat) (y : Value) (w : World) (hR : w.heap[R]? = some (.cells (readerCells (.slice (some ⟨g, 0, none⟩) D cap) fv (.slice an n capn) first) 37 (0, 0)))
    (hoff : IntKind.u64.wrap (slot - first) = off) (hD : D ≤ 10000) (hn : n ≤ 2000) (hlt : off < D) (hz : w.cell? ⟨g, off, none⟩ = some y) (hf : w.frozen? ⟨g, off, none⟩ = false) (hp0 : 0 ≤ pos) (hp1 : pos ≤ 10000) :
    Calls Ybaf.prog 15 #[.pointer (some ⟨R, 1, none⟩), .int .u64 slot, .int .i64 pos] w fun e w' => e = .returned (.tuple #[]) ∧ w' = w.setCell ⟨g, off, none⟩ (.int .i64 (pos + 1)) := by
  have c1 := cell_of_row w R 1 _ 37 (0, 0) hR
  have c3 := cell_of_row w R 3 _ 37 (0, 0) hR
  have c4 := cell_of_row w R 4 _ 37 (0, 0) hR
  simp [readerCells] at c1 c3 c4
  clear hR
  go_enter Ybaf.func15, Ybaf.ntmps15
  go_wp2
  refine bodyPost_ret (results_none rfl _ _ _) rfl ?_
  exact ⟨rfl, rfl⟩

theorem Ybaf.info3 : (Ybaf.prog.info? 3).map (fun i => (i.zero, i.size, i.bytes)) = some (some (.int .i64 0), 1, 8) := by kernel_rfl

/-- The append of zeros onto the dense row. -/
theorem grow_run (v : Value) (n m : Nat) (x : Int) (xs : List Value) (w : World) (hx : x = (m : Int)) (hown : w.ownsRow 0 3 1 v n xs) (h0 : 0 < m) (hnm : n + m ≤ 100000) :
    ∃ v' w', (Builtin.append_ #[24, 22] 24 #[v, .int .u64 x]).run Ybaf.prog w = .ok v' w' ∧ (w'.ownsRow 0 3 1 v' (n + m) (xs ++ List.replicate m (.int .i64 0)) ∧ Moved w w' v v') := by
  obtain ⟨i0, hi, hz0, hz1, hz2⟩ := info_parts Ybaf.info3
  subst hx
  exact run_append_zeros w 24 22 24 3 i0 (.int .i64 0) (.int .i64 0) .u64 .u64 8 Ybaf.underlying24 Ybaf.underlying22 hi hz0 hz1 hz2 rfl rfl v n xs hown m h0 hnm (by omega)

/-- The reader's block is no row that an append writes. -/
theorem moved_other {w w' : World} {v v' : Value} {e t : TypeId} {size n R : Nat} {xs : List Value} {rc : Array Value} (hR : w.heap[R]? = some (.cells rc t (0, 0))) (hown : w.ownsRow 0 e size v n xs) (he : e ≠ t) (hm : Moved w w' v v') :
    w'.heap[R]? = some (.cells rc t (0, 0)) := by
  have hne : some R ≠ v.ownBlock := by
    intro h
    rcases hown.2 with ⟨rfl, _⟩ | ⟨g, cap, cur, rfl, _, hg, _⟩
    · cases h
    · obtain rfl := Option.some.inj h
      rw [hR] at hg
      simp only [Option.some.injEq, Obj.cells.injEq] at hg
      exact he hg.2.1.symm
  have hlt := (Array.getElem?_eq_some_iff.1 hR).1
  rcases hm with ⟨_, hg⟩ | ⟨_, hg⟩
  · exact (hg.block R hlt hne).trans hR
  · exact (hg.block R hlt (by simp)).trans hR

theorem grown_drew {w w' : World} {r : Option Nat} (h : w.drew.grownBy w' r) : w.grownBy w' r := ⟨h.os, h.tape, h.output, h.size, h.block⟩

theorem moved_drew {w w' : World} {v v' : Value} (h : Moved w.drew w' v v') : Moved w w' v v' := by
  rcases h with ⟨h1, h2⟩ | ⟨h1, h2⟩
  · exact .inl ⟨h1, grown_drew h2⟩
  · exact .inr ⟨h1, grown_drew h2⟩

/-- Behind the append: what the walk reads and writes next. -/
theorem grown_facts {w w1 : World} {R D N cap n capn off : Nat} {ad an : Option Addr} {fv v' : Value} {first : Int} {xs ys : List Value} (hR : w.heap[R]? = some (.cells (readerCells (.slice ad D cap) fv (.slice an n capn) first) 37 (0, 0)))
    (hown : w.ownsRow 0 3 1 (.slice ad D cap) D xs) (ho : w1.ownsRow 0 3 1 v' N ys) (hm : Moved w w1 (.slice ad D cap) v') (hlt : off < N) :
    ∃ g' c', v' = .slice (some ⟨g', 0, none⟩) N c' ∧ w1.cell? ⟨R, 1, none⟩ = some (.slice ad D cap) ∧ w1.frozen? ⟨R, 1, none⟩ = false ∧ (∃ y, w1.cell? ⟨g', off, none⟩ = some y) ∧ w1.frozen? ⟨g', off, none⟩ = false ∧ g' ≠ R ∧ R ≠ g' := by
  obtain ⟨g', c', rfl⟩ := own_at ho (by omega)
  have hR' := moved_other hR hown (by decide) hm
  have hl : ys.length = N := by simpa using ho.1
  have hne : g' ≠ R := by
    intro h
    subst h
    rcases ho.2 with ⟨h, _⟩ | ⟨g, cap, cur, h, _, hg, _⟩
    · cases h
    · simp only [Value.slice.injEq, Option.some.injEq, Addr.mk.injEq, and_true, true_and] at h
      rw [h.1, hg] at hR'
      simp at hR'
  refine ⟨g', c', rfl, ?_, frozen_of_row w1 R 1 _ 37 hR', ⟨ys[off], ?_⟩, ho.frozenAt off, hne, fun h => hne h.symm⟩
  · rw [cell_of_row w1 R 1 _ 37 (0, 0) hR']
    rfl
  · rw [ho.cellAt off (by omega), List.getElem?_eq_getElem]

set_option maxHeartbeats 1000000 in
set_option maxRecDepth 100000 in
/-- The offset lies behind the dense row and below the limit: the row grows to N. -/
theorem put_grow (R D cap n capn N : Nat) (ad an : Option Addr) (fv : Value) (first slot pos : Int) (off : Nat) (xs : List Value) (w : World) (hR : w.heap[R]? = some (.cells (readerCells (.slice ad D cap) fv (.slice an n capn) first) 37 (0, 0)))
    (hoff : IntKind.u64.wrap (slot - first) = off) (hD : D ≤ 10000) (hn : n ≤ 2000) (hge : D ≤ off) (hlim : off < 2 * n + 1024)
    (hN : (2 * D ≤ off + 1 ∧ N = off + 1) ∨ (off + 1 < 2 * D ∧ 2 * D ≤ 2 * n + 1024 ∧ N = 2 * D) ∨ (off + 1 < 2 * D ∧ 2 * n + 1024 < 2 * D ∧ N = 2 * n + 1024))
    (hown : w.ownsRow 0 3 1 (.slice ad D cap) D xs) (hp0 : 0 ≤ pos) (hp1 : pos ≤ 10000) :
    Calls Ybaf.prog 15 #[.pointer (some ⟨R, 1, none⟩), .int .u64 slot, .int .i64 pos] w fun e w' => e = .returned (.tuple #[]) ∧
      ∃ g' c' w1, w1.ownsRow 0 3 1 (.slice (some ⟨g', 0, none⟩) N c') N (xs ++ List.replicate (N - D) (.int .i64 0)) ∧ Moved w w1 (.slice ad D cap) (.slice (some ⟨g', 0, none⟩) N c') ∧
        w' = (w1.setCell ⟨R, 1, none⟩ (.slice (some ⟨g', 0, none⟩) N c')).setCell ⟨g', off, none⟩ (.int .i64 (pos + 1)) := by
  have c1 := cell_of_row w R 1 _ 37 (0, 0) hR
  have c3 := cell_of_row w R 3 _ 37 (0, 0) hR
  have c4 := cell_of_row w R 4 _ 37 (0, 0) hR
  simp [readerCells] at c1 c3 c4
  have HO := hide hown
  have HR := hide hR
  clear hown hR
  rcases hN with ⟨h1, hN⟩ | ⟨h1, h2, hN⟩ | ⟨h1, h2, hN⟩
  all_goals
    have HN := hide hN
    clear hN
    go_enter Ybaf.func15, Ybaf.ntmps15
    go_wp2
    go_region_law (refine step_append_some rfl (.tmp 52) (.tmp 60) 24 22 rfl (.slice ad D cap) _ rfl rfl (grow_run (.slice ad D cap) D (N - D) _ xs _ (by rw [HN.out]; simp only [IntKind.wrap_u64]; omega) HO.out (by rw [HN.out]; omega) (by rw [HN.out]; omega)) ?_; rintro v' w1 ⟨ho, hm⟩; replace hm := moved_drew hm; rw [show D + (N - D) = N from by rw [HN.out]; omega] at ho; obtain ⟨g', c', hv, c1', f1', ⟨y, cy⟩, fy, hne1, hne2⟩ := grown_facts (off := off) HR.out HO.out ho hm (by rw [HN.out]; omega); subst hv)
    all_goals
      have hlt : off < N := by rw [HN.out]; omega
      have hNb : N ≤ 100000 := by rw [HN.out]; omega
      go_wp2
      refine bodyPost_ret (results_none rfl _ _ _) rfl ?_
      exact ⟨rfl, g', c', w1, ho, hm, rfl⟩

end Go.Proofs.YbulkbxymFmt
