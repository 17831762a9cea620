/-
  'appendFindings' (function 6), by its contract.
-/
import Derived.Test.YbulkbxymRows
import Derived.WalkKit
import Derived.ProofKit
import Derived.ArgAppend
import Derived.Outline
namespace Go.Proofs.Ybulkbxym
open Go.RowKit

theorem Yba.info27 : (Yba.prog.info? 27).map (fun i => (i.zero, i.size, i.bytes)) = some (some .nilIface, 1, 16) := by kernel_rfl
theorem Yba.info25 : (Yba.prog.info? 25).map (fun i => (i.zero, i.size, i.bytes)) = some (some (.agg #[.int .i64 0]), 1, 8) := by kernel_rfl

/-- A finding: the interface value that holds the item of number z. -/
def item (z : Int) : Value := .iface 25 (.agg #[.int .i64 z])

set_option maxHeartbeats 400000 in
theorem find_nil (w : World) : Calls Yba.prog 6 #[.slice none 0 0, .slice none 0 0] w fun e w' => e = .returned (.slice none 0 0) ∧ w = w' := by
  go_enter Yba.func6, Yba.ntmps6
  go_wp2
  refine wp_loop_rounds 1 ?_
  rw [rounds_succ]
  go_wp2
  go_ret
  exact ⟨rfl, rfl⟩

/-- One append of at least one element onto a row of the call's own: in place, or onto a new block, the old one left alone. -/
def Moved (w w' : World) (v v' : Value) : Prop :=
  (v'.ownBlock = v.ownBlock ∧ w.grownBy w' v.ownBlock) ∨ ((∃ k, v'.ownBlock = some k ∧ w.heap.size ≤ k) ∧ w.grownBy w' Option.none)

theorem wpList_append_moved {P : Program} (w : World) {ops : Array Oper} {rest : List Oper} {o : Oper} {a : Act} {Q : Exit → Act → World → Prop}
    (hg : o.guard = Option.none) (s x : Operand) (t : TypeId) (hop : o.op = Op.call { callee := Callee.builtin Builtin.append, args := #[s, x], argTypes := #[t, t] })
    (e : TypeId) (i : TypeInfo) (z : Value) (bytes : Nat) (h1 : P.underlying t = some (.slice e)) (h2 : P.info? e = some i) (h3 : i.zero = some z) (h4 : i.size = 1) (h5 : i.bytes = bytes) (h6 : z.cells.size = 1)
    (v : Value) (n : Nat) (xs : List Value) (hs : a.eval s = v) (hown : w.ownsRow 0 e 1 v n xs)
    (ad : Addr) (y : Value) (hx : a.eval x = .slice (some ad) 1 1) (hc : w.cell? ad = some y) (h1c : y.oneCell' = true)
    (b1 : n + 1 ≤ maxLen) (b2 : (n + 1) * bytes ≤ 140737488355328)
    (hK : ∀ v' w', w'.ownsRow 0 e 1 v' (n + 1) (xs ++ [y]) → Moved w w' v v' → wpList P ops Q rest (a.put o.dst v') w') :
    wpList P ops Q (o :: rest) a w := by
  have hnews : ∀ j u, [y][j]? = some u → w.cell? (ad.add j) = some u := by
    intro j u hj
    match j, hj with
    | 0, hj => simp at hj; subst hj; simpa [Addr.add] using hc
  have h1n : ∀ u ∈ [y], u.oneCell' = true := by intro u hu; simp at hu; subst hu; exact h1c
  have hb0 : ∀ {w' : World} {v' : Value} {m : Nat} {l : List Value}, w'.ownsRow w.heap.size e 1 v' (m + 1) l → w'.ownsRow 0 e 1 v' (m + 1) l ∧ ∃ k, v'.ownBlock = some k ∧ w.heap.size ≤ k := by
    intro w' v' m l h
    rcases h with ⟨hl, ⟨_, h⟩ | ⟨g, cap, cur, rfl, hg, r⟩⟩
    · omega
    · exact ⟨⟨hl, .inr ⟨g, cap, cur, rfl, Nat.zero_le _, r⟩⟩, g, rfl, hg⟩
  rcases hown.2 with ⟨rfl, rfl⟩ | ⟨g, cap, cur, rfl, _, hg', hnc, hcm, hcs, htake⟩
  · refine wpList_append_grows w hg s x t hop e i z 1 bytes h1 h2 h3 h4 h5 h6 (by decide) Option.none 0 0 xs hs (fun _ => ⟨rfl, rfl⟩) (by simpa using hown.1) (fun b hb => by cases hb) ad 1 1 [y] hx rfl hnews h1n (by omega) (by omega) (by omega) ?_
    intro v' w' ho hgr
    exact hK v' w' (hb0 ho).1 (.inr ⟨(hb0 ho).2, hgr⟩)
  · by_cases hroom : n + 1 ≤ cap
    · refine wpList_append_fits w hg s x t hop 0 e i 1 h1 h2 h4 g n cap xs hs hown ad 1 1 [y] hx rfl hnews h1n hroom ?_
      intro w' ho hgr
      exact hK _ w' ho (.inl ⟨rfl, hgr⟩)
    · refine wpList_append_grows w hg s x t hop e i z 1 bytes h1 h2 h3 h4 h5 h6 (by decide) _ n cap xs hs (fun h => by cases h) hown.1 (fun b hb => by obtain rfl := Option.some.inj hb; exact hown.cells rfl) ad 1 1 [y] hx rfl hnews h1n (by omega) (by omega) (by omega) ?_
      intro v' w' ho hgr
      exact hK v' w' (hb0 ho).1 (.inr ⟨(hb0 ho).2, hgr⟩)

/-- What the loop keeps of the world 'w' in which it began: 'v0' came in with the cells 'xs'. -/
structure Rel (w wr : World) (v0 v : Value) (n : Nat) (xs : List Value) : Prop where
  grown : w.grownBy wr v0.ownBlock
  own : v.ownBlock = v0.ownBlock ∨ ∀ k, v.ownBlock = some k → w.heap.size ≤ k
  first : ∀ g, v0.ownBlock = some g → ∀ j, j < n → wr.cell? ⟨g, j, none⟩ = xs[j]?

theorem grownBy_trans {a b c : World} {r s : Option Nat} (h : a.grownBy b r) (k : b.grownBy c s) (hs : s = r ∨ ∀ j, s = some j → a.heap.size ≤ j) : a.grownBy c r := by
  refine ⟨k.os.trans h.os, k.tape.trans h.tape, k.output.trans h.output, Nat.le_trans h.size k.size, fun i hi hne => ?_⟩
  rw [k.block i (by have := h.size; omega) ?_, h.block i hi hne]
  rcases hs with rfl | hs
  · exact hne
  · intro e
    have := hs i e.symm
    omega

theorem Rel.step {w wr w1 : World} {v0 v v' : Value} {n k : Nat} {xs ys : List Value} (h : Rel w wr v0 v n xs) (o1 o2 : Obj) (hl : xs.length = n) (h0 : ∀ g, v0.ownBlock = some g → g < w.heap.size)
    (hown' : w1.ownsRow 0 27 1 v' (n + k) (xs ++ ys)) (hm : Moved ((wr.alloc o1).alloc o2) w1 v v') : Rel w w1 v0 v' n xs := by
  have hg2 : w.grownBy ((wr.alloc o1).alloc o2) v0.ownBlock :=
    grownBy_trans (grownBy_trans h.grown (World.grownBy_alloc wr o1 Option.none) (.inr fun _ e => by cases e)) (World.grownBy_alloc _ o2 Option.none) (.inr fun _ e => by cases e)
  have hsz := h.grown.size
  rcases hm with ⟨hb, hg⟩ | ⟨⟨b, hb, hge⟩, hg⟩
  · refine ⟨grownBy_trans hg2 hg h.own, by rw [hb]; exact h.own, fun g hgo j hj => ?_⟩
    rcases h.own with ho | ho
    · rw [← ho, ← hb] at hgo
      have hj' : j < xs.length := by omega
      have := hown'.cells hgo j xs[j] (by rw [List.getElem?_append_left hj', List.getElem?_eq_getElem hj'])
      rw [Addr.add_lit, Nat.zero_add] at this
      rw [this, List.getElem?_eq_getElem hj']
    · have hlt := h0 g hgo
      rw [World.cell?_of_block (w := wr) (a := ⟨g, j, none⟩) ?_]
      · exact h.first g hgo j hj
      · show w1.heap[g]? = wr.heap[g]?
        rw [hg.block g (by simp; omega) (fun e => by have := ho g e.symm; omega), Below.heap_alloc _ _ g (by simp; omega), Below.heap_alloc _ _ g (by omega)]
  · refine ⟨grownBy_trans hg2 hg (.inr fun _ e => by cases e), .inr fun k hk => ?_, fun g hgo j hj => ?_⟩
    · rw [hb] at hk
      obtain rfl := Option.some.inj hk
      simp at hge
      omega
    · have hlt := h0 g hgo
      rw [World.cell?_of_block (w := wr) (a := ⟨g, j, none⟩) ?_]
      · exact h.first g hgo j hj
      · show w1.heap[g]? = wr.heap[g]?
        rw [hg.block g (by simp; omega) (fun e => by cases e), Below.heap_alloc _ _ g (by simp; omega), Below.heap_alloc _ _ g (by omega)]

theorem Rel.start {w : World} {v0 : Value} {n : Nat} {xs : List Value} (h : w.ownsRow 0 27 1 v0 n xs) : Rel w w v0 v0 n xs := by
  refine ⟨World.grownBy.refl _ _, .inl rfl, fun g hg j hj => ?_⟩
  have hl : xs.length = n := by simpa using h.1
  have hj' : j < xs.length := by omega
  have := h.cells hg j xs[j] (List.getElem?_eq_getElem hj')
  rw [Addr.add_lit, Nat.zero_add] at this
  rw [this, List.getElem?_eq_getElem hj']

theorem take_snoc_map (zs : List Int) (k : Nat) (h : k < zs.length) : (zs.take (k + 1)).map item = (zs.take k).map item ++ [.iface 25 (.agg #[.int .i64 (zs.getD k 0)])] := by
  rw [List.take_succ_eq_append_getElem h, List.map_append, List.getD_eq_getElem?_getD, List.getElem?_eq_getElem h]
  rfl

set_option maxHeartbeats 1000000 in
theorem find_any (v0 : Value) (n : Nat) (xs : List Value) (bi m : Nat) (zs : List Int) (w : World) (hn : n ≤ 1024) (hm : m ≤ 1024) (hzl : m = zs.length)
    (hown0 : w.ownsRow 0 27 1 v0 n xs) (hit : w.heap[bi]? = some (.cells (zs.map (Value.int .i64)).toArray 25 (0, 0))) :
    Calls Yba.prog 6 #[v0, .slice (some ⟨bi, 0, none⟩) m m] w fun e w' => ∃ v, e = .returned v ∧ w'.ownsRow 0 27 1 v (n + m) (xs ++ zs.map item) ∧ Rel w w' v0 v n xs ∧ (m = 0 → v = v0) := by
  obtain ⟨i0, hi, hz0, hz1, hz2⟩ := info_parts Yba.info27
  have hb0 : ∀ g, v0.ownBlock = some g → g < w.heap.size := fun g hg => (hown0.lt g hg).2
  have hbi : some bi ≠ v0.ownBlock := by
    intro e
    rcases hown0.2 with ⟨rfl, _⟩ | ⟨g, cap, cur, rfl, _, hg, _⟩
    · cases e
    · obtain rfl := Option.some.inj e
      rw [hit] at hg
      simp at hg
  have hbl : bi < w.heap.size := (Array.getElem?_eq_some_iff.1 hit).1
  have hlx : xs.length = n := by simpa using hown0.1
  have HC : Hid (∀ wr v, Rel w wr v0 v n xs → ∀ k, k < m → wr.cell? ⟨bi, k, none⟩ = some (.int .i64 (zs.getD k 0))) := by
    intro wr v hr k hk
    rw [World.cell?_of_block (w := w) (a := ⟨bi, k, none⟩) (hr.grown.block bi hbl hbi)]
    rw [cell_of_row w bi k _ 25 (0, 0) hit]
    simp [List.getElem?_eq_getElem (show k < zs.length by omega)]
  have HZ : Hid (m = zs.length) := hzl
  have HL : Hid (xs.length = n) := hlx
  have HR : Hid (Rel w w v0 v0 n xs) := Rel.start hown0
  clear hzl hlx hit hbi
  go_enter Yba.func6, Yba.ntmps6
  go_wp2
  go_loopw [0, 9] (fun v i wr => ∃ k : Nat, k ≤ m ∧ i = .int .i64 k ∧ wr.ownsRow 0 27 1 v (n + k) (xs ++ (zs.take k).map item) ∧ Rel w wr v0 v n xs ∧ (k = 0 → v = v0))
    (fun _ i _ => m - (intOf i).toNat)
  case atStart => exact ⟨0, Nat.zero_le _, rfl, by simpa using hown0, HR.out, fun _ => rfl⟩
  case round =>
    obtain ⟨k, hk, rfl, hown, hr, hnil⟩ := hrel
    by_cases hlt : k < m
    · have hcx := HC.out wr _ hr k hlt
      go_wp2_with (at_builtin; refine wpList_append_moved _ rfl _ _ 23 rfl 27 i0 .nilIface 16 Yba.underlying23 hi hz0 hz1 hz2 rfl _ _ _ rfl ((hown.alloc _).alloc _) ⟨wr.heap.size + 1, 0, none⟩ (.iface 25 (.agg #[.int .i64 (zs.getD k 0)])) rfl ?c1 rfl ?c3 ?c4 ?_)
      case c1 => simp
      case c3 => unfold maxLen; omega
      case c4 => omega
      · intro v' w1 hown' hmv
        have hz : k < zs.length := by rw [← HZ.out]; exact hlt
        have R1 : w1.ownsRow 0 27 1 v' (n + (k + 1)) (xs ++ (zs.take (k + 1)).map item) := by
          rw [take_snoc_map zs k hz]
          simpa [Nat.add_assoc] using hown'
        have R2 : Rel w w1 v0 v' n xs := hr.step _ _ HL.out hb0 R1 hmv
        clear hown' hmv hown hr hnil hcx
        go_wp2
        go_roundw
        case rel => exact ⟨k + 1, by omega, by simp, R1, R2, fun h => by omega⟩
        case measure => simp [intOf]; omega
    · go_wp2
      go_ret
      have hkm : k = m := by omega
      subst hkm
      refine ⟨_, rfl, ?_, hr, hnil⟩
      rw [HZ.out, List.take_length] at hown
      rw [HZ.out]
      exact hown
end Go.Proofs.Ybulkbxym
