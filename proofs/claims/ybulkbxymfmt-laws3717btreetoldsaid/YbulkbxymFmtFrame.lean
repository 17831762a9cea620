/-
  WHAT A STEP OF THE TREE's WALKS LEAVES ALONE, told by the kinds of the blocks.
-/
import Derived.Test.YbulkbxymFmtTree
namespace Go.Proofs.YbulkbxymFmt
open Go.RowKit Go.Maps Go.ChangeMaps Go.MapKept

/-- A block's kind: its cells' type and one; a map (or whatever else): 0. -/
def kind : Obj → Nat
  | .cells _ t _ => t + 1
  | _ => 0

/-- Nothing has turned but one row of kind κ. -/
structure Touches (w w' : World) (row : Option Nat) (κ : Nat) : Prop where
  grown : w.grownBy w' row
  kindOf : ∀ q oq, row = some q → w.heap[q]? = some oq → kind oq = κ

theorem Touches.block {w w' : World} {row : Option Nat} {κ : Nat} (h : Touches w w' row κ) {b : Nat} {o : Obj} (hb : w.heap[b]? = some o) (hk : kind o ≠ κ) : w'.heap[b]? = some o := by
  rw [h.grown.block b (Array.getElem?_eq_some_iff.1 hb).1 (fun e => hk (h.kindOf b o e.symm hb))]
  exact hb

theorem Touches.row {w w' : World} {row : Option Nat} {κ : Nat} (h : Touches w w' row κ) {e : TypeId} {size : Nat} {v : Value} {n : Nat} {xs : List Value} (ho : w.ownsRow 0 e size v n xs) (hk : e + 1 ≠ κ) : w'.ownsRow 0 e size v n xs := by
  obtain ⟨hl, h0 | ⟨g, cap, cur, hv, hb, hg, r⟩⟩ := ho
  · exact ⟨hl, .inl h0⟩
  · exact ⟨hl, .inr ⟨g, cap, cur, hv, hb, h.block hg hk, r⟩⟩

theorem Touches.nodes {w w' : World} {row : Option Nat} {κ : Nat} (h : Touches w w' row κ) {nv : Value} {n : Nat} (hN : NodesAt w nv n) (hk : 49 ≠ κ) : NodesAt w' nv n := by
  obtain ⟨xs, ho, hx⟩ := hN
  exact ⟨xs, h.row ho hk, hx⟩

theorem Touches.far {w w' : World} {row : Option Nat} {κ : Nat} (h : Touches w w' row κ) {fv : Value} {far : Int → Option Int} {k : Nat} (hF : FarAt w fv far k) (hk : 0 ≠ κ) : FarAt w' fv far k := by
  rcases hF with hF | ⟨m, D, hv, ⟨es, clock, hb, r⟩, hD⟩
  · exact .inl hF
  · exact .inr ⟨m, D, hv, ⟨es, clock, h.block hb hk, r⟩, hD⟩

theorem grown_setCell (w : World) (a : Addr) (v : Value) : w.grownBy (w.setCell a v) (some a.block) :=
  ⟨rfl, rfl, rfl, by simp, fun k _ hne => Below.heap_setCell w a v k (fun e => hne (by rw [e]))⟩

theorem touches_setCell {w : World} {b o : Nat} {v : Value} {c : Array Value} {t : TypeId} (hb : w.heap[b]? = some (.cells c t (0, 0))) : Touches w (w.setCell ⟨b, o, none⟩ v) (some b) (t + 1) :=
  ⟨grown_setCell w _ v, fun q oq hq h => by obtain rfl := Option.some.inj hq; rw [hb] at h; obtain rfl := Option.some.inj h; rfl⟩

theorem touches_alloc (w : World) (o : Obj) (κ : Nat) : Touches w (w.alloc o) none κ := ⟨World.grownBy_alloc w o none, fun q oq hq => by cases hq⟩

theorem touches_drew (w : World) (κ : Nat) : Touches w w.drew none κ := ⟨⟨rfl, rfl, rfl, Nat.le_refl _, fun _ _ _ => rfl⟩, fun q oq hq => by cases hq⟩

/-- WHAT THE TREE's WALKS KEEP: the streams; every block below B; every row that is no Reader, no row of ints, no row of nodes. -/
structure Keeps (B : Nat) (w w' : World) : Prop where
  os : w'.os = w.os
  tape : w'.tape = w.tape
  output : w'.output = w.output
  size : w.heap.size ≤ w'.heap.size
  block : ∀ q, q < w.heap.size → (q < B ∨ ∃ c t r, w.heap[q]? = some (.cells c t r) ∧ t ≠ 3 ∧ t ≠ 37 ∧ t ≠ 48) → w'.heap[q]? = w.heap[q]?

theorem Keeps.refl (B : Nat) (w : World) : Keeps B w w := ⟨rfl, rfl, rfl, Nat.le_refl _, fun _ _ _ => rfl⟩

theorem Keeps.trans {B : Nat} {a b c : World} (h : Keeps B a b) (k : Keeps B b c) : Keeps B a c := by
  refine ⟨k.os.trans h.os, k.tape.trans h.tape, k.output.trans h.output, Nat.le_trans h.size k.size, fun q hq hc => ?_⟩
  have e := h.block q hq hc
  rw [k.block q (by have := h.size; omega) (by rw [e]; exact hc), e]

theorem Keeps.touch {B : Nat} {w w' : World} {row : Option Nat} {κ : Nat} (h : Touches w w' row κ) (hB : ∀ q, row = some q → B ≤ q) (hk : κ = 0 ∨ κ = 4 ∨ κ = 38 ∨ κ = 49) : Keeps B w w' := by
  refine ⟨h.grown.os, h.grown.tape, h.grown.output, h.grown.size, fun q hq hc => h.grown.block q hq fun e => ?_⟩
  rcases hc with hc | ⟨c, t, r, hb, h1, h2, h3⟩
  · have := hB q e.symm
    omega
  · have := h.kindOf q _ e.symm hb
    simp only [kind] at this
    rcases hk with rfl | rfl | rfl | rfl
    · exact Nat.succ_ne_zero _ this
    · exact h1 (Nat.succ.inj this)
    · exact h2 (Nat.succ.inj this)
    · exact h3 (Nat.succ.inj this)

theorem Keeps.below {B : Nat} {w w' : World} (h : Keeps B w w') (hB : B ≤ w.heap.size) : Below B w w' :=
  ⟨h.os, h.tape, h.output, h.size, fun k hk => h.block k (by omega) (.inl hk)⟩

/-- The tree stays what it is while nothing of its own is written. -/
theorem Tree.later {w w' : World} {B R n : Nat} {first : Int} {f : Int → Option Int} (h : Tree w B R first f n) (hb : Below w.heap.size w w') : Tree w' B R first f n := by
  obtain ⟨ds, far, dv, fv, nv, hA, hf⟩ := h
  have ht : Touches w w' none 1000 := ⟨⟨hb.os, hb.tape, hb.output, hb.size, fun k hk _ => hb.block k hk⟩, fun q oq hq => by cases hq⟩
  refine ⟨ds, far, dv, fv, nv, ⟨ht.block hA.reader (by simp [kind]), ht.row hA.dense (by decide), ht.far hA.farAt (by decide), ht.nodes hA.nodes (by decide), hA.small, hA.range, hA.baseR, hA.baseD, hA.baseN, hA.baseF⟩, hf⟩

end Go.Proofs.YbulkbxymFmt
