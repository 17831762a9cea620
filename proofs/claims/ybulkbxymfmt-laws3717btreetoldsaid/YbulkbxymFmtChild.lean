/-
  '(*Tree).add' (function 11) of a block with a parent.
-/
import Derived.Test.YbulkbxymFmtAdd
import Derived.Deep.DeepCutAuto
namespace Go.Proofs.YbulkbxymFmt
open Go.RowKit Go.Maps Go.ChangeMaps Go.MapKept

theorem grown_block {w wc : World} {b : Nat} {o : Obj} (h : w.grownBy wc none) (hb : w.heap[b]? = some o) : wc.heap[b]? = some o :=
  (h.block b (Array.getElem?_eq_some_iff.1 hb).1 (by simp)).trans hb

/-- Behind the copies of the parent and of the block that it jumps to. -/
structure Copied (w wc : World) (P J n : Nat) (slot dp dj : Int) (jj : Nat) : Prop where
  grown : w.grownBy wc none
  apartP : P ≠ w.heap.size
  apartJ : J ≠ w.heap.size
  n0 : wc.cell? ⟨w.heap.size, 0, none⟩ = some (.int .u64 slot)
  n1 : wc.cell? ⟨w.heap.size, 1, none⟩ = some (.int .i64 n)
  n2 : wc.cell? ⟨w.heap.size, 2, none⟩ = some (.int .i64 n)
  n3 : wc.cell? ⟨w.heap.size, 3, none⟩ = some (.int .i64 0)
  f1 : wc.frozen? ⟨w.heap.size, 1, none⟩ = false
  f2 : wc.frozen? ⟨w.heap.size, 2, none⟩ = false
  f3 : wc.frozen? ⟨w.heap.size, 3, none⟩ = false
  p3 : wc.cell? ⟨P, 3, none⟩ = some (.int .i64 dp)
  j2 : wc.cell? ⟨J, 2, none⟩ = some (.int .i64 jj)
  j3 : wc.cell? ⟨J, 3, none⟩ = some (.int .i64 dj)

/-- The new node, its links set. -/
structure Linked (w wc : World) (n : Nat) (slot : Int) (p : Nat) (jf df : Int) : Prop where
  grown : w.grownBy wc none
  lo : 0 ≤ jf
  hi : jf < n + 1
  n0 : wc.cell? ⟨w.heap.size, 0, none⟩ = some (.int .u64 slot)
  n1 : wc.cell? ⟨w.heap.size, 1, none⟩ = some (.int .i64 p)
  n2 : wc.cell? ⟨w.heap.size, 2, none⟩ = some (.int .i64 jf)
  n3 : wc.cell? ⟨w.heap.size, 3, none⟩ = some (.int .i64 df)

theorem copied_of (w : World) (n jj : Nat) (slot dp dj x0 x1 y0 y1 : Int) (x2 : Int) :
    Copied w (((w.alloc (.cells #[.int .u64 slot, .int .i64 n, .int .i64 n, .int .i64 0] 48)).alloc (.cells #[.int .u64 y0, .int .i64 y1, .int .i64 jj, .int .i64 dj] 48)).alloc (.cells #[.int .u64 x0, .int .i64 x1, .int .i64 x2, .int .i64 dp] 48)).drew.drew
      (w.heap.size + 1 + 1) (w.heap.size + 1) n slot dp dj jj := by
  have h1 : w.heap.size < w.heap.size + 1 := by omega
  have h2 : w.heap.size < w.heap.size + 1 + 1 := by omega
  have h3 : w.heap.size + 1 < w.heap.size + 1 + 1 := by omega
  refine ⟨by repeat (first | exact World.grownBy.refl _ _ | apply gn_drew | apply gn_alloc), by omega, by omega, ?_, ?_, ?_, ?_, ?_, ?_, ?_, ?_, ?_, ?_⟩ <;> go_simp

theorem copied_so (w : World) (n jj : Nat) (slot dp dj x0 x1 y0 y1 : Int) (x2 : Int) :
    Copied w (((w.alloc (.cells #[.int .u64 slot, .int .i64 n, .int .i64 n, .int .i64 0] 48)).alloc (.cells #[.int .u64 x0, .int .i64 x1, .int .i64 x2, .int .i64 dp] 48)).alloc (.cells #[.int .u64 y0, .int .i64 y1, .int .i64 jj, .int .i64 dj] 48)).drew.drew
      (w.heap.size + 1) (w.heap.size + 1 + 1) n slot dp dj jj := by
  have h1 : w.heap.size < w.heap.size + 1 := by omega
  have h2 : w.heap.size < w.heap.size + 1 + 1 := by omega
  have h3 : w.heap.size + 1 < w.heap.size + 1 + 1 := by omega
  refine ⟨by repeat (first | exact World.grownBy.refl _ _ | apply gn_drew | apply gn_alloc), by omega, by omega, ?_, ?_, ?_, ?_, ?_, ?_, ?_, ?_, ?_, ?_⟩ <;> go_simp

theorem gn_setCell {w W : World} (h : w.grownBy W none) (a : Addr) (v : Value) (ha : w.heap.size ≤ a.block) : w.grownBy (W.setCell a v) none :=
  ⟨h.os, h.tape, h.output, by simpa using h.size, fun k hk hne => by rw [Below.heap_setCell W a v k (by omega)]; exact h.block k hk hne⟩

theorem linked_set {w wc : World} {n p : Nat} {slot df v1 v2 v3 : Int} (hg : w.grownBy wc none) (hp : p < n) (n0 : wc.cell? ⟨w.heap.size, 0, none⟩ = some (.int .u64 slot)) (n1 : wc.cell? ⟨w.heap.size, 1, none⟩ = some (.int .i64 v1))
    (n2 : wc.cell? ⟨w.heap.size, 2, none⟩ = some (.int .i64 v2)) (n3 : wc.cell? ⟨w.heap.size, 3, none⟩ = some (.int .i64 v3)) :
    Linked w (((wc.setCell ⟨w.heap.size, 1, none⟩ (.int .i64 p)).setCell ⟨w.heap.size, 2, none⟩ (.int .i64 p)).setCell ⟨w.heap.size, 3, none⟩ (.int .i64 df)) n slot p p df := by
  refine ⟨gn_setCell (gn_setCell (gn_setCell hg _ _ (Nat.le_refl _)) _ _ (Nat.le_refl _)) _ _ (Nat.le_refl _), by omega, by omega, ?_, ?_, ?_, ?_⟩ <;> go_simp

theorem linked_jump {w wc : World} {n p jj : Nat} {slot df jf : Int} (h : Linked w wc n slot p jf df) (hj : jj < n) : Linked w (wc.setCell ⟨w.heap.size, 2, none⟩ (.int .i64 jj)) n slot p jj df := by
  obtain ⟨hg, _, _, n0, n1, n2, n3⟩ := h
  refine ⟨gn_setCell hg _ _ (Nat.le_refl _), by omega, by omega, ?_, ?_, ?_, ?_⟩ <;> go_simp

theorem linked_drewN {w wc : World} {n p : Nat} {slot df jf : Int} (h : Linked w wc n slot p jf df) (k : Nat) : Linked w (wc.drewN k) n slot p jf df :=
  ⟨gn_drewN h.grown k, h.lo, h.hi, h.n0, h.n1, h.n2, h.n3⟩

theorem linked_drew {w wc : World} {n p : Nat} {slot df jf : Int} (h : Linked w wc n slot p jf df) : Linked w wc.drew n slot p jf df :=
  ⟨gn_drew h.grown, h.lo, h.hi, h.n0, h.n1, h.n2, h.n3⟩

set_option maxHeartbeats 2000000 in
set_option maxRecDepth 100000 in
theorem child_walk (B R n k g cap p j jj : Nat) (first slot sp pp dp sj pj dj djj : Int) (ds : List Int) (far f : Int → Option Int) (dv fv : Value) (w : World) (hA : TreeAt w B R first n k ds far dv fv (.slice (some ⟨g, 0, none⟩) n cap))
    (hf : ∀ x, (Lit.int .u64 x).wf = true → ixAt ds far x = f x) (hn : n ≤ 1999) (hk : k ≤ 2000) (hp : p < n) (hj : j < n) (hjj : jj < n)
    (a0 : w.cell? ⟨g, p * 4, none⟩ = some (.int .u64 sp)) (a1 : w.cell? ⟨g, p * 4 + 1, none⟩ = some (.int .i64 pp)) (a2 : w.cell? ⟨g, p * 4 + 2, none⟩ = some (.int .i64 j)) (a3 : w.cell? ⟨g, p * 4 + 3, none⟩ = some (.int .i64 dp))
    (b0 : w.cell? ⟨g, j * 4, none⟩ = some (.int .u64 sj)) (b1 : w.cell? ⟨g, j * 4 + 1, none⟩ = some (.int .i64 pj)) (b2 : w.cell? ⟨g, j * 4 + 2, none⟩ = some (.int .i64 jj)) (b3 : w.cell? ⟨g, j * 4 + 3, none⟩ = some (.int .i64 dj))
    (e3 : w.cell? ⟨g, jj * 4 + 3, none⟩ = some (.int .i64 djj)) :
    Calls Ybaf.prog 11 #[.pointer (some ⟨R, 1, none⟩), .int .u64 slot, .int .i64 p] w fun e w' => e = .returned (.tuple #[]) ∧
      (∃ ds' far' dv' fv' nv', TreeAt w' B R first (n + 1) (k + 1) ds' far' dv' fv' nv' ∧ ∀ x, (Lit.int .u64 x).wf = true → ixAt ds' far' x = if x = IntKind.u64.wrap (slot - first) then some (n : Int) else f x) ∧ Keeps B w w' := by
  have c3 := cell_of_row w R 3 _ 37 (0, 0) hA.reader
  have hRl : R < w.heap.size := (Array.getElem?_eq_some_iff.1 hA.reader).1
  have hgl : g < w.heap.size := World.block_lt_of_cell? _ _ a0
  have HA := hide hA
  have HF := hide hf
  simp [readerCells] at c3
  clear hA hf
  have hdp : decide ((p : Int) < 0) = false := by simp
  go_enter Ybaf.func11, Ybaf.ntmps11
  go_wp2
  go_region
  go_upto_if 22 with fail
  go_cut [] (fun wc => ∃ jf df : Int, Linked w wc n slot p jf df)
  case first =>
    go_wp2
    go_cut [7, 8] (fun v7 v8 wc => ∃ P J : Nat, v7 = .pointer (some ⟨P, 0, none⟩) ∧ v8 = .pointer (some ⟨J, 0, none⟩) ∧ Copied w wc P J n slot dp dj jj)
    case first =>
      have hR1 : R < w.heap.size + 1 := by omega
      have hR2 : R < w.heap.size + 1 + 1 := by omega
      have hR3 : R < w.heap.size + 1 + 1 + 1 := by omega
      have hg1 : g < w.heap.size + 1 := by omega
      have hg2 : g < w.heap.size + 1 + 1 := by omega
      have hg3 : g < w.heap.size + 1 + 1 + 1 := by omega
      go_region
      all_goals
        go_wp2
        go_meet
        case rel =>
          first
          | with_reducible exact ⟨_, _, rfl, rfl, copied_of w n jj slot dp dj sp pp sj pj j⟩
          | with_reducible exact ⟨_, _, rfl, rfl, copied_so w n jj slot dp dj sp pp sj pj j⟩
    case rest =>
      obtain ⟨P, J, rfl, rfl, hC⟩ := hcut
      have hRc := grown_block hC.grown HA.out.reader
      have c3c := cell_of_row wc R 3 _ 37 (0, 0) hRc
      simp [readerCells] at c3c
      have hgc : wc.cell? ⟨g, jj * 4 + 3, none⟩ = some (.int .i64 djj) := (World.cell?_of_block (w := w) (a := ⟨g, jj * 4 + 3, none⟩) (hC.grown.block g hgl (by simp))).trans e3
      obtain ⟨hgr, hPN, hJN, n0, n1, n2, n3, f1, f2, f3, p3, j2, j3⟩ := hC
      have hRN : R ≠ w.heap.size := by omega
      have hgN : g ≠ w.heap.size := by omega
      have HG := hide hgr
      clear hgr hRc c3 a0 a1 a2 a3 b0 b1 b2 b3 e3 hdp
      go_wp2
      go_region
      go_wp2
      go_quiet (fail)
      go_wp2
      · go_meet
        case rel => exact ⟨_, _, linked_jump (linked_drewN (linked_set HG.out hp n0 n1 n2 n3) _) hjj⟩
      · go_meet
        case rel => exact ⟨_, _, linked_drewN (linked_drew (linked_set HG.out hp n0 n1 n2 n3)) _⟩
  case rest =>
    obtain ⟨jf, df, hL⟩ := hcut
    have hRc := grown_block hL.grown HA.out.reader
    have c3c := cell_of_row wc R 3 _ 37 (0, 0) hRc
    have hRl2 : R < wc.heap.size := (Array.getElem?_eq_some_iff.1 hRc).1
    simp [readerCells] at c3c
    have d0 := hL.n0
    have d1 := hL.n1
    have d2 := hL.n2
    have d3 := hL.n3
    have HL := hide hL
    clear hL hRc c3 a0 a1 a2 a3 b0 b1 b2 b3 e3 hdp
    go_wp2
    go_region_law (refine step_append_some rfl (.tmp 81) (.tmp 83) 26 26 rfl (.slice (some ⟨g, 0, none⟩) n cap) (.slice (some ⟨wc.heap.size, 0, none⟩) 1 1) rfl rfl (node_run (s := slot) (p := p) (j := jf) (d := df) HA.out (by repeat (first | exact HL.out.grown | apply gn_drew | apply gn_alloc)) (by omega) (by simp) (by simp) (by simp) (by simp) HL.out.lo HL.out.hi) ?_; rintro v' w1 ⟨g', c', hv, c3', f3', HT⟩; subst hv)
    all_goals
      go_wp2_with fail
      refine (put_any B R (n + 1) k first slot n f ds far dv fv _ _ (by omega) (by omega) HT.out.1 HF.out (by omega) (by omega)).mono ?_
      rintro e w2 ⟨rfl, ⟨ds', far', dv', fv', hT2, hf2⟩, hk2⟩
      have HT2 := hide hT2
      have HF2 := hide hf2
      have HK2 := hide (HT.out.2.trans hk2)
      clear hT2 hf2 hk2 HT
      go_wp2_with fail
      go_end0
      exact ⟨rfl, ⟨ds', far', dv', fv', _, HT2.out, HF2.out⟩, HK2.out⟩
end Go.Proofs.YbulkbxymFmt
