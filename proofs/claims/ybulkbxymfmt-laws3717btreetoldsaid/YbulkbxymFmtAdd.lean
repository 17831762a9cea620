/-
  '(*Tree).add' (function 11): the append of a node, as one step; and the root.
-/
import Derived.Test.YbulkbxymFmtIndex
import Derived.BigRegion
import Derived.Deep.QuietTactic
import Derived.BigQuiet
namespace Go.Proofs.YbulkbxymFmt
open Go.RowKit Go.Maps Go.ChangeMaps Go.MapKept

theorem Ybaf.info48 : (Ybaf.prog.info? 48).map (fun i => (i.zero, i.size, i.bytes)) = some (some (.agg #[.int .u64 0, .int .i64 0, .int .i64 0, .int .i64 0]), 4, 32) := by kernel_rfl

theorem gn_alloc {w W : World} (h : w.grownBy W none) (o : Obj) : w.grownBy (W.alloc o) none :=
  ⟨h.os, h.tape, h.output, by have := h.size; simp; omega, fun k hk hne => by rw [Below.heap_alloc W o k (by have := h.size; omega)]; exact h.block k hk hne⟩

theorem gn_drew {w W : World} (h : w.grownBy W none) : w.grownBy W.drew none := ⟨h.os, h.tape, h.output, h.size, h.block⟩

theorem gn_drewN {w W : World} (h : w.grownBy W none) (k : Nat) : w.grownBy (W.drewN k) none := ⟨h.os, h.tape, h.output, h.size, h.block⟩

theorem cell_new {W : World} {cs : Array Value} {t : TypeId} {N j : Nat} {v : Value} (hN : W.heap.size = N) (hj : cs[j]? = some v) : (W.alloc (.cells cs t)).cell? ⟨N, j, none⟩ = some v := by
  subst hN
  rw [cell_of_row _ _ _ cs t (0, 0) (heap_alloc_new W _)]
  exact hj

/-- One element of 'size' cells appended onto a row of the call's own. -/
theorem run_append_moved {P : Program} (w : World) (t ty e : TypeId) (i : TypeInfo) (z : Value) (size bytes : Nat) (ht : P.underlying t = some (.slice e)) (hi : P.info? e = some i) (hz : i.zero = some z) (hsize : i.size = size) (hby : i.bytes = bytes) (hzs : z.cells.size = size) (hsz : 0 < size)
    (v : Value) (n : Nat) (xs : List Value) (hown : w.ownsRow 0 e size v n xs) (a : Addr) (news : List Value) (hl : news.length = 1 * size) (hnews : ∀ j u, news[j]? = some u → w.cell? (a.add j) = some u) (h1 : ∀ u ∈ news, u.oneCell' = true)
    (b1 : n + 1 ≤ maxLen) (b2 : (n + 1) * bytes ≤ 140737488355328) :
    ∃ v' w', (Builtin.append_ #[t, t] ty #[v, .slice (some a) 1 1]).run P w = .ok v' w' ∧ w'.ownsRow 0 e size v' (n + 1) (xs ++ news) ∧ Moved w w' v v' := by
  have hb0 : ∀ {w' : World} {v' : Value} {m : Nat} {l : List Value}, w'.ownsRow w.heap.size e size v' (m + 1) l → w'.ownsRow 0 e size v' (m + 1) l ∧ ∃ k, v'.ownBlock = some k ∧ w.heap.size ≤ k := by
    intro w' v' m l h
    rcases h with ⟨hl, ⟨_, h⟩ | ⟨g, cap, cur, rfl, hg, r⟩⟩
    · omega
    · exact ⟨⟨hl, .inr ⟨g, cap, cur, rfl, Nat.zero_le _, r⟩⟩, g, rfl, hg⟩
  rcases hown.2 with ⟨rfl, rfl⟩ | ⟨g, cap, cur, rfl, _, hg', hnc, hcm, hcs, htake⟩
  · obtain rfl : xs = [] := List.eq_nil_of_length_eq_zero (by simpa using hown.1)
    obtain ⟨v', w', hr, ho, hgr, _⟩ := run_append_own (P := P) w w.heap.size t ty e i z size bytes ht hi hz hsize hby hzs hsz (.slice none 0 0) 0 [] (World.ownsRow_nil _ _ _ _) a 1 1 news hl hnews h1 b1 b2 (Nat.le_refl _)
    exact ⟨v', w', hr, (hb0 ho).1, .inr ⟨(hb0 ho).2, hgr⟩⟩
  · by_cases hroom : n + 1 ≤ cap
    · obtain ⟨w', hr, ho, hgr⟩ := run_append_fits (P := P) w 0 t ty e i size ht hi hsize g n cap xs hown a 1 1 news hl hnews h1 hroom
      exact ⟨_, w', hr, ho, .inl ⟨rfl, hgr⟩⟩
    · obtain ⟨v', w', hr, ho, hgr⟩ := run_append_arg_grows (P := P) w t ty e i z size bytes ht hi hz hsize hby hzs hsz ⟨g, 0, none⟩ n cap xs hown.1 (hown.cells rfl) a 1 1 news hl hnews (by omega) b1 b2
      exact ⟨v', w', hr, (hb0 ho).1, .inr ⟨(hb0 ho).2, hgr⟩⟩

/-- The append of a node, and all that the walk and the tree want of it. -/
theorem node_run {w W : World} {B R n k src : Nat} {first s p j d : Int} {ds : List Int} {far : Int → Option Int} {dv fv nv : Value} (hA : TreeAt w B R first n k ds far dv fv nv) (hg : w.grownBy W none) (hn : n ≤ 2000)
    (c0 : W.cell? ⟨src, 0, none⟩ = some (.int .u64 s)) (c1 : W.cell? ⟨src, 1, none⟩ = some (.int .i64 p)) (c2 : W.cell? ⟨src, 2, none⟩ = some (.int .i64 j)) (c3 : W.cell? ⟨src, 3, none⟩ = some (.int .i64 d)) (hj0 : 0 ≤ j) (hj1 : j < n + 1) :
    ∃ v' w1, (Builtin.append_ #[26, 26] 26 #[nv, .slice (some ⟨src, 0, none⟩) 1 1]).run Ybaf.prog W = .ok v' w1 ∧
      (∃ g' c', v' = .slice (some ⟨g', 0, none⟩) (n + 1) c' ∧ w1.cell? ⟨R, 3, none⟩ = some nv ∧ w1.frozen? ⟨R, 3, none⟩ = false ∧
        Hid (TreeAt (w1.setCell ⟨R, 3, none⟩ v') B R first (n + 1) k ds far dv fv v' ∧ Keeps B w (w1.setCell ⟨R, 3, none⟩ v'))) := by
  obtain ⟨i0, hi, hz0, hz1, hz2⟩ := info_parts Ybaf.info48
  obtain ⟨xs, hnod, hnx⟩ := hA.nodes
  have ht0 : Touches w W none 1000 := ⟨hg, fun q oq hq => by cases hq⟩
  have hBs : B ≤ w.heap.size := by
    have h1 := (Array.getElem?_eq_some_iff.1 hA.reader).1
    have h2 := hA.baseR
    omega
  have hnodW := ht0.row hnod (by decide)
  obtain ⟨v', w1, hr, ho, hm⟩ := run_append_moved W 26 26 48 i0 _ 4 32 Ybaf.underlying26 hi hz0 hz1 hz2 rfl (by decide) nv n xs hnodW ⟨src, 0, none⟩ [.int .u64 s, .int .i64 p, .int .i64 j, .int .i64 d] rfl
    (fun q u hq => by
      rw [Addr.add_lit, Nat.zero_add]
      match q, hq with
      | 0, hq => simp at hq; subst hq; exact c0
      | 1, hq => simp at hq; subst hq; exact c1
      | 2, hq => simp at hq; subst hq; exact c2
      | 3, hq => simp at hq; subst hq; exact c3)
    (fun u hu => by simp at hu; rcases hu with rfl | rfl | rfl | rfl <;> rfl) (by unfold maxLen; omega) (by omega)
  obtain ⟨g', c', rfl⟩ := own_at ho (by omega)
  obtain ⟨row, ht1, hrow⟩ := hm.touches hnodW
  have hR0 := ht0.block hA.reader (by simp [kind])
  have hR1 := ht1.block hR0 (by simp [kind])
  have ht2 : Touches w1 (w1.setCell ⟨R, 3, none⟩ (.slice (some ⟨g', 0, none⟩) (n + 1) c')) (some R) 38 := touches_setCell hR1
  have hR2 : (w1.setCell ⟨R, 3, none⟩ (.slice (some ⟨g', 0, none⟩) (n + 1) c')).heap[R]? = some (.cells (readerCells dv fv (.slice (some ⟨g', 0, none⟩) (n + 1) c') first) 37 (0, 0)) := heap_setCell_same w1 R 3 _ 37 _ hR1
  have hbg : B ≤ g' := by
    rcases hm with ⟨h, _⟩ | ⟨⟨q, h, hq⟩, _⟩
    · exact hA.baseN g' h.symm
    · simp only [Value.ownBlock, Option.some.injEq] at h
      have := hg.size
      omega
  have hlx : xs.length = n * 4 := hnod.1
  refine ⟨_, w1, hr, g', c', rfl, ?_, frozen_of_row w1 R 3 _ 37 hR1, ⟨⟨hR2, ht2.row (ht1.row (ht0.row hA.dense (by decide)) (by decide)) (by decide), ht2.far (ht1.far (ht0.far hA.farAt (by decide)) (by decide)) (by decide), ⟨_, ht2.row ho (by decide), fun q hq => ?_⟩, ?_, ?_, hA.baseR, hA.baseD, ?_, hA.baseF⟩, ?_⟩⟩
  · rw [cell_of_row w1 R 3 _ 37 (0, 0) hR1]
    rfl
  · by_cases hqn : q = n
    · subst hqn
      refine ⟨s, p, j, d, ?_, ?_, ?_, ?_, hj0, by omega⟩ <;> (rw [List.getElem?_append_right (by omega), hlx])
      · rw [Nat.sub_self]; rfl
      · rw [Nat.add_sub_cancel_left]; rfl
      · rw [Nat.add_sub_cancel_left]; rfl
      · rw [Nat.add_sub_cancel_left]; rfl
    · obtain ⟨s', p', j', d', e0, e1, e2, e3, h0, h1⟩ := hnx q (by omega)
      refine ⟨s', p', j', d', ?_, ?_, ?_, ?_, h0, by omega⟩ <;> (rw [List.getElem?_append_left (by omega)]; assumption)
  · have := hA.small
    omega
  · intro z hz
    have := hA.range z hz
    omega
  · intro g h
    simp only [Value.ownBlock, Option.some.injEq] at h
    omega
  · have k0 : Keeps B w W := ⟨hg.os, hg.tape, hg.output, hg.size, fun q hq _ => hg.block q hq (by simp)⟩
    exact (k0.trans (Keeps.touch ht1 (fun q hq => hA.baseN q (hrow q hq)) (.inr (.inr (.inr rfl))))).trans (Keeps.touch ht2 (fun q hq => by simp at hq; have := hA.baseR; omega) (.inr (.inr (.inl rfl))))

end Go.Proofs.YbulkbxymFmt
